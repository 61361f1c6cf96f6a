import PyProof.Rows.All
import Wide.All
import OpenK.AllK
import Wide.FinOn
import PySem.Challenge.RW_om0050_01
open PySem PySem.W PyProof.Rows PySem.Calls
set_option Elab.async false
set_option maxRecDepth 100000
set_option maxHeartbeats 8000000
set_option rowWalk.seconds 0
set_option linter.all false
set_option compiler.extract_closed false
/- Hd -/
namespace Mine
/-- the n-th of these statements -/
noncomputable def nthT : List Stmt → Nat → Stmt
  | [], _ => default
  | x :: _, 0 => x
  | _ :: r, n + 1 => nthT r n
/-- the n-th statement of the program -/
noncomputable def pst (n : Nat) : Stmt := nthT PySem.Challenge.pw_om0050_01.main.body n
noncomputable def sA : Stmt → Arguments
  | .FunctionDef _ a _ _ _ _ _ _ _ _ => a
  | _ => { posonlyargs := [], args := [], vararg := none, kwonlyargs := [], kw_defaults := [], kwarg := none, defaults := [] }
noncomputable def sB : Stmt → List Stmt
  | .FunctionDef _ _ b _ _ _ _ _ _ _ => b
  | .ClassDef _ _ _ b _ _ _ _ _ _ _ => b
  | _ => []
noncomputable def sS : Stmt → Scope
  | .FunctionDef _ _ _ _ _ _ s _ _ _ => s
  | .ClassDef _ _ _ _ _ _ s _ _ _ _ => s
  | _ => { kind := .function, names := [], isGenerator := false, isCoroutine := false }
/-- the heap behind the top, as far as the law reaches -/
noncomputable def hd.heap_39 : Params → Frag := fun P =>
  (nat_lit 2, (Obj.mk Value.none none (Data.dict #[] 0) #[])) ::
  (nat_lit 3, (Obj.mk (Value.type "dict") none (Data.dict #[(DictEntry.mk (PyData.keyHash P (Str.ofString "__name__")) (Value.str (Str.ofString "__name__") 165) (Value.str (Str.ofString "law_om0050_01") 480)), (DictEntry.mk (PyData.keyHash P (Str.ofString "__doc__")) (Value.str (Str.ofString "__doc__") 166) Value.none), (DictEntry.mk (PyData.keyHash P (Str.ofString "__package__")) (Value.str (Str.ofString "__package__") 167) Value.none), (DictEntry.mk (PyData.keyHash P (Str.ofString "__loader__")) (Value.str (Str.ofString "__loader__") 168) (Value.builtin "__main__.__loader__#opaque")), (DictEntry.mk (PyData.keyHash P (Str.ofString "__spec__")) (Value.str (Str.ofString "__spec__") 169) Value.none), (DictEntry.mk (PyData.keyHash P (Str.ofString "__annotations__")) (Value.str (Str.ofString "__annotations__") 170) (Value.ref 6)), (DictEntry.mk (PyData.keyHash P (Str.ofString "__builtins__")) (Value.str (Str.ofString "__builtins__") 171) (Value.ref 4)), (DictEntry.mk (PyData.keyHash P (Str.ofString "__file__")) (Value.str (Str.ofString "__file__") 173) (Value.str (Str.ofString "/claim/cut.py") 172)), (DictEntry.mk (PyData.keyHash P (Str.ofString "__cached__")) (Value.str (Str.ofString "__cached__") 174) Value.none), (DictEntry.mk (PyData.keyHash P (Str.ofString "_wall")) (Value.str (Str.ofString "_wall") 193) (Value.ref 21)), (DictEntry.mk (PyData.keyHash P (Str.ofString "S_IMODE")) (Value.str (Str.ofString "S_IMODE") 202) (Value.ref 28)), (DictEntry.mk (PyData.keyHash P (Str.ofString "S_IFMT")) (Value.str (Str.ofString "S_IFMT") 209) (Value.ref 35)), (DictEntry.mk (PyData.keyHash P (Str.ofString "S_IFDIR")) (Value.str (Str.ofString "S_IFDIR") 211) (Value.int 16384 210)), (DictEntry.mk (PyData.keyHash P (Str.ofString "S_IFCHR")) (Value.str (Str.ofString "S_IFCHR") 213) (Value.int 8192 212)), (DictEntry.mk (PyData.keyHash P (Str.ofString "S_IFBLK")) (Value.str (Str.ofString "S_IFBLK") 215) (Value.int 24576 214)), (DictEntry.mk (PyData.keyHash P (Str.ofString "S_IFREG")) (Value.str (Str.ofString "S_IFREG") 217) (Value.int 32768 216)), (DictEntry.mk (PyData.keyHash P (Str.ofString "S_IFIFO")) (Value.str (Str.ofString "S_IFIFO") 219) (Value.int 4096 218)), (DictEntry.mk (PyData.keyHash P (Str.ofString "S_IFLNK")) (Value.str (Str.ofString "S_IFLNK") 221) (Value.int 40960 220)), (DictEntry.mk (PyData.keyHash P (Str.ofString "S_IFSOCK")) (Value.str (Str.ofString "S_IFSOCK") 223) (Value.int 49152 222)), (DictEntry.mk (PyData.keyHash P (Str.ofString "S_ISDIR")) (Value.str (Str.ofString "S_ISDIR") 230) (Value.ref 42)), (DictEntry.mk (PyData.keyHash P (Str.ofString "S_ISCHR")) (Value.str (Str.ofString "S_ISCHR") 237) (Value.ref 49)), (DictEntry.mk (PyData.keyHash P (Str.ofString "S_ISBLK")) (Value.str (Str.ofString "S_ISBLK") 244) (Value.ref 56)), (DictEntry.mk (PyData.keyHash P (Str.ofString "S_ISREG")) (Value.str (Str.ofString "S_ISREG") 251) (Value.ref 63)), (DictEntry.mk (PyData.keyHash P (Str.ofString "S_ISFIFO")) (Value.str (Str.ofString "S_ISFIFO") 258) (Value.ref 70)), (DictEntry.mk (PyData.keyHash P (Str.ofString "S_ISLNK")) (Value.str (Str.ofString "S_ISLNK") 265) (Value.ref 77)), (DictEntry.mk (PyData.keyHash P (Str.ofString "S_ISSOCK")) (Value.str (Str.ofString "S_ISSOCK") 272) (Value.ref 84)), (DictEntry.mk (PyData.keyHash P (Str.ofString "S_ISUID")) (Value.str (Str.ofString "S_ISUID") 274) (Value.int 2048 273)), (DictEntry.mk (PyData.keyHash P (Str.ofString "S_ISGID")) (Value.str (Str.ofString "S_ISGID") 276) (Value.int 1024 275)), (DictEntry.mk (PyData.keyHash P (Str.ofString "S_ISVTX")) (Value.str (Str.ofString "S_ISVTX") 278) (Value.int 512 277)), (DictEntry.mk (PyData.keyHash P (Str.ofString "S_IRUSR")) (Value.str (Str.ofString "S_IRUSR") 280) (Value.int 256 279)), (DictEntry.mk (PyData.keyHash P (Str.ofString "S_IWUSR")) (Value.str (Str.ofString "S_IWUSR") 282) (Value.int 128 281)), (DictEntry.mk (PyData.keyHash P (Str.ofString "S_IXUSR")) (Value.str (Str.ofString "S_IXUSR") 284) (Value.int 64 283)), (DictEntry.mk (PyData.keyHash P (Str.ofString "S_IRGRP")) (Value.str (Str.ofString "S_IRGRP") 286) (Value.int 32 285)), (DictEntry.mk (PyData.keyHash P (Str.ofString "S_IWGRP")) (Value.str (Str.ofString "S_IWGRP") 288) (Value.int 16 287)), (DictEntry.mk (PyData.keyHash P (Str.ofString "S_IXGRP")) (Value.str (Str.ofString "S_IXGRP") 290) (Value.int 8 289)), (DictEntry.mk (PyData.keyHash P (Str.ofString "S_IROTH")) (Value.str (Str.ofString "S_IROTH") 292) (Value.int 4 291)), (DictEntry.mk (PyData.keyHash P (Str.ofString "S_IWOTH")) (Value.str (Str.ofString "S_IWOTH") 294) (Value.int 2 293)), (DictEntry.mk (PyData.keyHash P (Str.ofString "S_IXOTH")) (Value.str (Str.ofString "S_IXOTH") 296) (Value.int 1 295)), (DictEntry.mk (PyData.keyHash P (Str.ofString "_filemode_table")) (Value.str (Str.ofString "_filemode_table") 322) (Value.ref 117)), (DictEntry.mk (PyData.keyHash P (Str.ofString "filemode")) (Value.str (Str.ofString "filemode") 334) (Value.ref 124)), (DictEntry.mk (PyData.keyHash P (Str.ofString "_buffer")) (Value.str (Str.ofString "_buffer") 344) (Value.ref 131)), (DictEntry.mk (PyData.keyHash P (Str.ofString "_truth")) (Value.str (Str.ofString "_truth") 352) (Value.ref 138)), (DictEntry.mk (PyData.keyHash P (Str.ofString "_B64")) (Value.str (Str.ofString "_B64") 354) (Value.bytes #[65, 66, 67, 68, 69, 70, 71, 72, 73, 74, 75, 76, 77, 78, 79, 80, 81, 82, 83, 84, 85, 86, 87, 88, 89, 90, 97, 98, 99, 100, 101, 102, 103, 104, 105, 106, 107, 108, 109, 110, 111, 112, 113, 114, 115, 116, 117, 118, 119, 120, 121, 122, 48, 49, 50, 51, 52, 53, 54, 55, 56, 57, 43, 47] 353)), (DictEntry.mk (PyData.keyHash P (Str.ofString "b2a_base64")) (Value.str (Str.ofString "b2a_base64") 368) (Value.ref 146)), (DictEntry.mk (PyData.keyHash P (Str.ofString "b64encode")) (Value.str (Str.ofString "b64encode") 379) (Value.ref 154)), (DictEntry.mk (PyData.keyHash P (Str.ofString "sep")) (Value.str (Str.ofString "sep") 381) (Value.str (Str.ofString "/") 380)), (DictEntry.mk (PyData.keyHash P (Str.ofString "_kind")) (Value.str (Str.ofString "_kind") 392) (Value.ref 161)), (DictEntry.mk (PyData.keyHash P (Str.ofString "_c_path")) (Value.str (Str.ofString "_c_path") 405) (Value.ref 168)), (DictEntry.mk (PyData.keyHash P (Str.ofString "_splitroot")) (Value.str (Str.ofString "_splitroot") 414) (Value.ref 175)), (DictEntry.mk (PyData.keyHash P (Str.ofString "_normpath")) (Value.str (Str.ofString "_normpath") 429) (Value.ref 182)), (DictEntry.mk (PyData.keyHash P (Str.ofString "normpath")) (Value.str (Str.ofString "normpath") 437) (Value.ref 189)), (DictEntry.mk (PyData.keyHash P (Str.ofString "_Ignore")) (Value.str (Str.ofString "_Ignore") 479) (Value.ref 212)), (DictEntry.mk (PyData.keyHash P (Str.ofString "_law_parts")) (Value.str (Str.ofString "_law_parts") 493) (Value.ref 223)), (DictEntry.mk (PyData.keyHash P (Str.ofString "_law_numbered")) (Value.str (Str.ofString "_law_numbered") 499) (Value.ref 228)), (DictEntry.mk (PyData.keyHash P (Str.ofString "_law_seen")) (Value.str (Str.ofString "_law_seen") 505) (Value.ref 233)), (DictEntry.mk (PyData.keyHash P (Str.ofString "_law_asked")) (Value.str (Str.ofString "_law_asked") 511) (Value.ref 238)), (DictEntry.mk (PyData.keyHash P (Str.ofString "_law_row")) (Value.str (Str.ofString "_law_row") 521) (Value.ref 245)), (DictEntry.mk (PyData.keyHash P (Str.ofString "_law_named")) (Value.str (Str.ofString "_law_named") 531) (Value.ref 252)), (DictEntry.mk (PyData.keyHash P (Str.ofString "_law_file")) (Value.str (Str.ofString "_law_file") 537) (Value.ref 257)), (DictEntry.mk (PyData.keyHash P (Str.ofString "_law_made")) (Value.str (Str.ofString "_law_made") 543) (Value.ref 262)), (DictEntry.mk (PyData.keyHash P (Str.ofString "_law_first")) (Value.str (Str.ofString "_law_first") 549) (Value.ref 267)), (DictEntry.mk (PyData.keyHash P (Str.ofString "_law_memory")) (Value.str (Str.ofString "_law_memory") 562) (Value.ref 274)), (DictEntry.mk (PyData.keyHash P (Str.ofString "law")) (Value.str (Str.ofString "law") 568) (Value.ref 279))] 63) #[])) ::
  (nat_lit 15, (Obj.mk (Value.type "tuple") none (Data.seq #[] 0) #[])) ::
  (nat_lit 17, (Obj.mk (Value.type "tuple") none (Data.seq #[(Value.str (Str.ofString "k") 190)] 0) #[])) ::
  (nat_lit 18, (Obj.mk (Value.type "tuple") none (Data.seq #[] 0) #[])) ::
  (nat_lit 20, (Obj.mk (Value.type "code") none (Data.fields #[(Value.str (Str.ofString "_wall") 187), (Value.str (Str.ofString "_wall") 188), (Value.str (Str.ofString "/claim/cut.py") 189), (Value.int 1 0), (Value.int 1 0), (Value.int 0 0), (Value.int 0 0), (Value.int 3 0), (Value.ref 15), (Value.bool Bool.true), (Value.int 181 0), (Value.ref 16), Value.none, (Value.ref 17), (Value.ref 18), (Value.ref 19), (Value.int 191 0), (Value.int 1 0), (Value.str (Str.ofString "/claim/cut.py") 192)]) #[])) ::
  (nat_lit 21, (Obj.mk (Value.type "function") none (Data.func (FuncData.mk (Str.ofString "_wall") (Str.ofString "_wall") (sA (pst 0)) (FuncBody.stmts (sB (pst 0))) (sS (pst 0)) 3 [] Value.none Value.none Value.none (Value.str (Str.ofString "__main__") 164) none (Value.ref 20) Value.none 0)) #[])) ::
  (nat_lit 22, (Obj.mk (Value.type "tuple") none (Data.seq #[] 0) #[])) ::
  (nat_lit 24, (Obj.mk (Value.type "tuple") none (Data.seq #[(Value.str (Str.ofString "mode") 199)] 0) #[])) ::
  (nat_lit 25, (Obj.mk (Value.type "tuple") none (Data.seq #[] 0) #[])) ::
  (nat_lit 27, (Obj.mk (Value.type "code") none (Data.fields #[(Value.str (Str.ofString "S_IMODE") 196), (Value.str (Str.ofString "S_IMODE") 197), (Value.str (Str.ofString "/claim/cut.py") 198), (Value.int 5 0), (Value.int 1 0), (Value.int 0 0), (Value.int 0 0), (Value.int 3 0), (Value.ref 22), (Value.bool Bool.true), (Value.int 181 0), (Value.ref 23), Value.none, (Value.ref 24), (Value.ref 25), (Value.ref 26), (Value.int 200 0), (Value.int 5 0), (Value.str (Str.ofString "/claim/cut.py") 201)]) #[])) ::
  (nat_lit 28, (Obj.mk (Value.type "function") none (Data.func (FuncData.mk (Str.ofString "S_IMODE") (Str.ofString "S_IMODE") (sA (pst 2)) (FuncBody.stmts (sB (pst 2))) (sS (pst 2)) 3 [] Value.none Value.none Value.none (Value.str (Str.ofString "cpy313.stat") 194) none (Value.ref 27) Value.none 0)) #[])) ::
  (nat_lit 29, (Obj.mk (Value.type "tuple") none (Data.seq #[] 0) #[])) ::
  (nat_lit 31, (Obj.mk (Value.type "tuple") none (Data.seq #[(Value.str (Str.ofString "mode") 206)] 0) #[])) ::
  (nat_lit 32, (Obj.mk (Value.type "tuple") none (Data.seq #[] 0) #[])) ::
  (nat_lit 34, (Obj.mk (Value.type "code") none (Data.fields #[(Value.str (Str.ofString "S_IFMT") 203), (Value.str (Str.ofString "S_IFMT") 204), (Value.str (Str.ofString "/claim/cut.py") 205), (Value.int 7 0), (Value.int 1 0), (Value.int 0 0), (Value.int 0 0), (Value.int 3 0), (Value.ref 29), (Value.bool Bool.true), (Value.int 181 0), (Value.ref 30), Value.none, (Value.ref 31), (Value.ref 32), (Value.ref 33), (Value.int 207 0), (Value.int 7 0), (Value.str (Str.ofString "/claim/cut.py") 208)]) #[])) ::
  (nat_lit 35, (Obj.mk (Value.type "function") none (Data.func (FuncData.mk (Str.ofString "S_IFMT") (Str.ofString "S_IFMT") (sA (pst 3)) (FuncBody.stmts (sB (pst 3))) (sS (pst 2)) 3 [] Value.none Value.none Value.none (Value.str (Str.ofString "cpy313.stat") 194) none (Value.ref 34) Value.none 0)) #[])) ::
  (nat_lit 36, (Obj.mk (Value.type "tuple") none (Data.seq #[] 0) #[])) ::
  (nat_lit 38, (Obj.mk (Value.type "tuple") none (Data.seq #[(Value.str (Str.ofString "mode") 227)] 0) #[])) ::
  (nat_lit 39, (Obj.mk (Value.type "tuple") none (Data.seq #[] 0) #[])) ::
  (nat_lit 41, (Obj.mk (Value.type "code") none (Data.fields #[(Value.str (Str.ofString "S_ISDIR") 224), (Value.str (Str.ofString "S_ISDIR") 225), (Value.str (Str.ofString "/claim/cut.py") 226), (Value.int 16 0), (Value.int 1 0), (Value.int 0 0), (Value.int 0 0), (Value.int 3 0), (Value.ref 36), (Value.bool Bool.true), (Value.int 181 0), (Value.ref 37), Value.none, (Value.ref 38), (Value.ref 39), (Value.ref 40), (Value.int 228 0), (Value.int 16 0), (Value.str (Str.ofString "/claim/cut.py") 229)]) #[])) ::
  (nat_lit 42, (Obj.mk (Value.type "function") none (Data.func (FuncData.mk (Str.ofString "S_ISDIR") (Str.ofString "S_ISDIR") (sA (pst 11)) (FuncBody.stmts (sB (pst 11))) (sS (pst 11)) 3 [] Value.none Value.none Value.none (Value.str (Str.ofString "cpy313.stat") 194) none (Value.ref 41) Value.none 0)) #[])) ::
  (nat_lit 43, (Obj.mk (Value.type "tuple") none (Data.seq #[] 0) #[])) ::
  (nat_lit 45, (Obj.mk (Value.type "tuple") none (Data.seq #[(Value.str (Str.ofString "mode") 234)] 0) #[])) ::
  (nat_lit 46, (Obj.mk (Value.type "tuple") none (Data.seq #[] 0) #[])) ::
  (nat_lit 48, (Obj.mk (Value.type "code") none (Data.fields #[(Value.str (Str.ofString "S_ISCHR") 231), (Value.str (Str.ofString "S_ISCHR") 232), (Value.str (Str.ofString "/claim/cut.py") 233), (Value.int 18 0), (Value.int 1 0), (Value.int 0 0), (Value.int 0 0), (Value.int 3 0), (Value.ref 43), (Value.bool Bool.true), (Value.int 181 0), (Value.ref 44), Value.none, (Value.ref 45), (Value.ref 46), (Value.ref 47), (Value.int 235 0), (Value.int 18 0), (Value.str (Str.ofString "/claim/cut.py") 236)]) #[])) ::
  (nat_lit 49, (Obj.mk (Value.type "function") none (Data.func (FuncData.mk (Str.ofString "S_ISCHR") (Str.ofString "S_ISCHR") (sA (pst 12)) (FuncBody.stmts (sB (pst 12))) (sS (pst 12)) 3 [] Value.none Value.none Value.none (Value.str (Str.ofString "cpy313.stat") 194) none (Value.ref 48) Value.none 0)) #[])) ::
  (nat_lit 50, (Obj.mk (Value.type "tuple") none (Data.seq #[] 0) #[])) ::
  (nat_lit 52, (Obj.mk (Value.type "tuple") none (Data.seq #[(Value.str (Str.ofString "mode") 241)] 0) #[])) ::
  (nat_lit 53, (Obj.mk (Value.type "tuple") none (Data.seq #[] 0) #[])) ::
  (nat_lit 55, (Obj.mk (Value.type "code") none (Data.fields #[(Value.str (Str.ofString "S_ISBLK") 238), (Value.str (Str.ofString "S_ISBLK") 239), (Value.str (Str.ofString "/claim/cut.py") 240), (Value.int 20 0), (Value.int 1 0), (Value.int 0 0), (Value.int 0 0), (Value.int 3 0), (Value.ref 50), (Value.bool Bool.true), (Value.int 181 0), (Value.ref 51), Value.none, (Value.ref 52), (Value.ref 53), (Value.ref 54), (Value.int 242 0), (Value.int 20 0), (Value.str (Str.ofString "/claim/cut.py") 243)]) #[])) ::
  (nat_lit 56, (Obj.mk (Value.type "function") none (Data.func (FuncData.mk (Str.ofString "S_ISBLK") (Str.ofString "S_ISBLK") (sA (pst 13)) (FuncBody.stmts (sB (pst 13))) (sS (pst 13)) 3 [] Value.none Value.none Value.none (Value.str (Str.ofString "cpy313.stat") 194) none (Value.ref 55) Value.none 0)) #[])) ::
  (nat_lit 57, (Obj.mk (Value.type "tuple") none (Data.seq #[] 0) #[])) ::
  (nat_lit 59, (Obj.mk (Value.type "tuple") none (Data.seq #[(Value.str (Str.ofString "mode") 248)] 0) #[])) ::
  (nat_lit 60, (Obj.mk (Value.type "tuple") none (Data.seq #[] 0) #[])) ::
  (nat_lit 62, (Obj.mk (Value.type "code") none (Data.fields #[(Value.str (Str.ofString "S_ISREG") 245), (Value.str (Str.ofString "S_ISREG") 246), (Value.str (Str.ofString "/claim/cut.py") 247), (Value.int 22 0), (Value.int 1 0), (Value.int 0 0), (Value.int 0 0), (Value.int 3 0), (Value.ref 57), (Value.bool Bool.true), (Value.int 181 0), (Value.ref 58), Value.none, (Value.ref 59), (Value.ref 60), (Value.ref 61), (Value.int 249 0), (Value.int 22 0), (Value.str (Str.ofString "/claim/cut.py") 250)]) #[])) ::
  (nat_lit 63, (Obj.mk (Value.type "function") none (Data.func (FuncData.mk (Str.ofString "S_ISREG") (Str.ofString "S_ISREG") (sA (pst 14)) (FuncBody.stmts (sB (pst 14))) (sS (pst 14)) 3 [] Value.none Value.none Value.none (Value.str (Str.ofString "cpy313.stat") 194) none (Value.ref 62) Value.none 0)) #[])) ::
  (nat_lit 64, (Obj.mk (Value.type "tuple") none (Data.seq #[] 0) #[])) ::
  (nat_lit 66, (Obj.mk (Value.type "tuple") none (Data.seq #[(Value.str (Str.ofString "mode") 255)] 0) #[])) ::
  (nat_lit 67, (Obj.mk (Value.type "tuple") none (Data.seq #[] 0) #[])) ::
  (nat_lit 69, (Obj.mk (Value.type "code") none (Data.fields #[(Value.str (Str.ofString "S_ISFIFO") 252), (Value.str (Str.ofString "S_ISFIFO") 253), (Value.str (Str.ofString "/claim/cut.py") 254), (Value.int 24 0), (Value.int 1 0), (Value.int 0 0), (Value.int 0 0), (Value.int 3 0), (Value.ref 64), (Value.bool Bool.true), (Value.int 181 0), (Value.ref 65), Value.none, (Value.ref 66), (Value.ref 67), (Value.ref 68), (Value.int 256 0), (Value.int 24 0), (Value.str (Str.ofString "/claim/cut.py") 257)]) #[])) ::
  (nat_lit 70, (Obj.mk (Value.type "function") none (Data.func (FuncData.mk (Str.ofString "S_ISFIFO") (Str.ofString "S_ISFIFO") (sA (pst 15)) (FuncBody.stmts (sB (pst 15))) (sS (pst 15)) 3 [] Value.none Value.none Value.none (Value.str (Str.ofString "cpy313.stat") 194) none (Value.ref 69) Value.none 0)) #[])) ::
  (nat_lit 71, (Obj.mk (Value.type "tuple") none (Data.seq #[] 0) #[])) ::
  (nat_lit 73, (Obj.mk (Value.type "tuple") none (Data.seq #[(Value.str (Str.ofString "mode") 262)] 0) #[])) ::
  (nat_lit 74, (Obj.mk (Value.type "tuple") none (Data.seq #[] 0) #[])) ::
  (nat_lit 76, (Obj.mk (Value.type "code") none (Data.fields #[(Value.str (Str.ofString "S_ISLNK") 259), (Value.str (Str.ofString "S_ISLNK") 260), (Value.str (Str.ofString "/claim/cut.py") 261), (Value.int 26 0), (Value.int 1 0), (Value.int 0 0), (Value.int 0 0), (Value.int 3 0), (Value.ref 71), (Value.bool Bool.true), (Value.int 181 0), (Value.ref 72), Value.none, (Value.ref 73), (Value.ref 74), (Value.ref 75), (Value.int 263 0), (Value.int 26 0), (Value.str (Str.ofString "/claim/cut.py") 264)]) #[])) ::
  (nat_lit 77, (Obj.mk (Value.type "function") none (Data.func (FuncData.mk (Str.ofString "S_ISLNK") (Str.ofString "S_ISLNK") (sA (pst 16)) (FuncBody.stmts (sB (pst 16))) (sS (pst 16)) 3 [] Value.none Value.none Value.none (Value.str (Str.ofString "cpy313.stat") 194) none (Value.ref 76) Value.none 0)) #[])) ::
  (nat_lit 78, (Obj.mk (Value.type "tuple") none (Data.seq #[] 0) #[])) ::
  (nat_lit 80, (Obj.mk (Value.type "tuple") none (Data.seq #[(Value.str (Str.ofString "mode") 269)] 0) #[])) ::
  (nat_lit 81, (Obj.mk (Value.type "tuple") none (Data.seq #[] 0) #[])) ::
  (nat_lit 83, (Obj.mk (Value.type "code") none (Data.fields #[(Value.str (Str.ofString "S_ISSOCK") 266), (Value.str (Str.ofString "S_ISSOCK") 267), (Value.str (Str.ofString "/claim/cut.py") 268), (Value.int 28 0), (Value.int 1 0), (Value.int 0 0), (Value.int 0 0), (Value.int 3 0), (Value.ref 78), (Value.bool Bool.true), (Value.int 181 0), (Value.ref 79), Value.none, (Value.ref 80), (Value.ref 81), (Value.ref 82), (Value.int 270 0), (Value.int 28 0), (Value.str (Str.ofString "/claim/cut.py") 271)]) #[])) ::
  (nat_lit 84, (Obj.mk (Value.type "function") none (Data.func (FuncData.mk (Str.ofString "S_ISSOCK") (Str.ofString "S_ISSOCK") (sA (pst 17)) (FuncBody.stmts (sB (pst 17))) (sS (pst 17)) 3 [] Value.none Value.none Value.none (Value.str (Str.ofString "cpy313.stat") 194) none (Value.ref 83) Value.none 0)) #[])) ::
  (nat_lit 85, (Obj.mk (Value.type "tuple") none (Data.seq #[(Value.int 40960 220), (Value.str (Str.ofString "l") 297)] 0) #[])) ::
  (nat_lit 86, (Obj.mk (Value.type "tuple") none (Data.seq #[(Value.int 49152 222), (Value.str (Str.ofString "s") 298)] 0) #[])) ::
  (nat_lit 87, (Obj.mk (Value.type "tuple") none (Data.seq #[(Value.int 32768 216), (Value.str (Str.ofString "-") 299)] 0) #[])) ::
  (nat_lit 88, (Obj.mk (Value.type "tuple") none (Data.seq #[(Value.int 24576 214), (Value.str (Str.ofString "b") 300)] 0) #[])) ::
  (nat_lit 89, (Obj.mk (Value.type "tuple") none (Data.seq #[(Value.int 16384 210), (Value.str (Str.ofString "d") 301)] 0) #[])) ::
  (nat_lit 90, (Obj.mk (Value.type "tuple") none (Data.seq #[(Value.int 8192 212), (Value.str (Str.ofString "c") 302)] 0) #[])) ::
  (nat_lit 91, (Obj.mk (Value.type "tuple") none (Data.seq #[(Value.int 4096 218), (Value.str (Str.ofString "p") 303)] 0) #[])) ::
  (nat_lit 92, (Obj.mk (Value.type "tuple") none (Data.seq #[(Value.ref 85), (Value.ref 86), (Value.ref 87), (Value.ref 88), (Value.ref 89), (Value.ref 90), (Value.ref 91)] 0) #[])) ::
  (nat_lit 93, (Obj.mk (Value.type "tuple") none (Data.seq #[(Value.int 256 279), (Value.str (Str.ofString "r") 304)] 0) #[])) ::
  (nat_lit 94, (Obj.mk (Value.type "tuple") none (Data.seq #[(Value.ref 93)] 0) #[])) ::
  (nat_lit 95, (Obj.mk (Value.type "tuple") none (Data.seq #[(Value.int 128 281), (Value.str (Str.ofString "w") 305)] 0) #[])) ::
  (nat_lit 96, (Obj.mk (Value.type "tuple") none (Data.seq #[(Value.ref 95)] 0) #[])) ::
  (nat_lit 97, (Obj.mk (Value.type "tuple") none (Data.seq #[(Value.int 2112 306), (Value.str (Str.ofString "s") 307)] 0) #[])) ::
  (nat_lit 98, (Obj.mk (Value.type "tuple") none (Data.seq #[(Value.int 2048 273), (Value.str (Str.ofString "S") 308)] 0) #[])) ::
  (nat_lit 99, (Obj.mk (Value.type "tuple") none (Data.seq #[(Value.int 64 283), (Value.str (Str.ofString "x") 309)] 0) #[])) ::
  (nat_lit 100, (Obj.mk (Value.type "tuple") none (Data.seq #[(Value.ref 97), (Value.ref 98), (Value.ref 99)] 0) #[])) ::
  (nat_lit 101, (Obj.mk (Value.type "tuple") none (Data.seq #[(Value.int 32 285), (Value.str (Str.ofString "r") 310)] 0) #[])) ::
  (nat_lit 102, (Obj.mk (Value.type "tuple") none (Data.seq #[(Value.ref 101)] 0) #[])) ::
  (nat_lit 103, (Obj.mk (Value.type "tuple") none (Data.seq #[(Value.int 16 287), (Value.str (Str.ofString "w") 311)] 0) #[])) ::
  (nat_lit 104, (Obj.mk (Value.type "tuple") none (Data.seq #[(Value.ref 103)] 0) #[])) ::
  (nat_lit 105, (Obj.mk (Value.type "tuple") none (Data.seq #[(Value.int 1032 312), (Value.str (Str.ofString "s") 313)] 0) #[])) ::
  (nat_lit 106, (Obj.mk (Value.type "tuple") none (Data.seq #[(Value.int 1024 275), (Value.str (Str.ofString "S") 314)] 0) #[])) ::
  (nat_lit 107, (Obj.mk (Value.type "tuple") none (Data.seq #[(Value.int 8 289), (Value.str (Str.ofString "x") 315)] 0) #[])) ::
  (nat_lit 108, (Obj.mk (Value.type "tuple") none (Data.seq #[(Value.ref 105), (Value.ref 106), (Value.ref 107)] 0) #[])) ::
  (nat_lit 109, (Obj.mk (Value.type "tuple") none (Data.seq #[(Value.int 4 291), (Value.str (Str.ofString "r") 316)] 0) #[])) ::
  (nat_lit 110, (Obj.mk (Value.type "tuple") none (Data.seq #[(Value.ref 109)] 0) #[])) ::
  (nat_lit 111, (Obj.mk (Value.type "tuple") none (Data.seq #[(Value.int 2 293), (Value.str (Str.ofString "w") 317)] 0) #[])) ::
  (nat_lit 112, (Obj.mk (Value.type "tuple") none (Data.seq #[(Value.ref 111)] 0) #[])) ::
  (nat_lit 113, (Obj.mk (Value.type "tuple") none (Data.seq #[(Value.int 513 318), (Value.str (Str.ofString "t") 319)] 0) #[])) ::
  (nat_lit 114, (Obj.mk (Value.type "tuple") none (Data.seq #[(Value.int 512 277), (Value.str (Str.ofString "T") 320)] 0) #[])) ::
  (nat_lit 115, (Obj.mk (Value.type "tuple") none (Data.seq #[(Value.int 1 295), (Value.str (Str.ofString "x") 321)] 0) #[])) ::
  (nat_lit 116, (Obj.mk (Value.type "tuple") none (Data.seq #[(Value.ref 113), (Value.ref 114), (Value.ref 115)] 0) #[])) ::
  (nat_lit 117, (Obj.mk (Value.type "tuple") none (Data.seq #[(Value.ref 92), (Value.ref 94), (Value.ref 96), (Value.ref 100), (Value.ref 102), (Value.ref 104), (Value.ref 108), (Value.ref 110), (Value.ref 112), (Value.ref 116)] 0) #[])) ::
  (nat_lit 118, (Obj.mk (Value.type "tuple") none (Data.seq #[] 0) #[])) ::
  (nat_lit 120, (Obj.mk (Value.type "tuple") none (Data.seq #[(Value.str (Str.ofString "mode") 326), (Value.str (Str.ofString "perm") 327), (Value.str (Str.ofString "index") 328), (Value.str (Str.ofString "table") 329), (Value.str (Str.ofString "bit") 330), (Value.str (Str.ofString "char") 331)] 0) #[])) ::
  (nat_lit 121, (Obj.mk (Value.type "tuple") none (Data.seq #[] 0) #[])) ::
  (nat_lit 123, (Obj.mk (Value.type "code") none (Data.fields #[(Value.str (Str.ofString "filemode") 323), (Value.str (Str.ofString "filemode") 324), (Value.str (Str.ofString "/claim/cut.py") 325), (Value.int 43 0), (Value.int 1 0), (Value.int 0 0), (Value.int 0 0), (Value.int 3 0), (Value.ref 118), (Value.bool Bool.true), (Value.int 181 0), (Value.ref 119), Value.none, (Value.ref 120), (Value.ref 121), (Value.ref 122), (Value.int 332 0), (Value.int 43 0), (Value.str (Str.ofString "/claim/cut.py") 333)]) #[])) ::
  (nat_lit 124, (Obj.mk (Value.type "function") none (Data.func (FuncData.mk (Str.ofString "filemode") (Str.ofString "filemode") (sA (pst 31)) (FuncBody.stmts (sB (pst 31))) (sS (pst 31)) 3 [] Value.none Value.none Value.none (Value.str (Str.ofString "cpy313.stat") 194) none (Value.ref 123) Value.none 0)) #[])) ::
  (nat_lit 125, (Obj.mk (Value.type "tuple") none (Data.seq #[] 0) #[])) ::
  (nat_lit 127, (Obj.mk (Value.type "tuple") none (Data.seq #[(Value.str (Str.ofString "data") 340), (Value.str (Str.ofString "t") 341)] 0) #[])) ::
  (nat_lit 128, (Obj.mk (Value.type "tuple") none (Data.seq #[] 0) #[])) ::
  (nat_lit 130, (Obj.mk (Value.type "code") none (Data.fields #[(Value.str (Str.ofString "_buffer") 337), (Value.str (Str.ofString "_buffer") 338), (Value.str (Str.ofString "/claim/cut.py") 339), (Value.int 61 0), (Value.int 1 0), (Value.int 0 0), (Value.int 0 0), (Value.int 3 0), (Value.ref 125), (Value.bool Bool.true), (Value.int 181 0), (Value.ref 126), Value.none, (Value.ref 127), (Value.ref 128), (Value.ref 129), (Value.int 342 0), (Value.int 61 0), (Value.str (Str.ofString "/claim/cut.py") 343)]) #[])) ::
  (nat_lit 131, (Obj.mk (Value.type "function") none (Data.func (FuncData.mk (Str.ofString "_buffer") (Str.ofString "_buffer") (sA (pst 33)) (FuncBody.stmts (sB (pst 33))) (sS (pst 33)) 3 [] Value.none Value.none Value.none (Value.str (Str.ofString "binascii") 335) none (Value.ref 130) Value.none 0)) #[])) ::
  (nat_lit 132, (Obj.mk (Value.type "tuple") none (Data.seq #[] 0) #[])) ::
  (nat_lit 134, (Obj.mk (Value.type "tuple") none (Data.seq #[(Value.str (Str.ofString "x") 348), (Value.str (Str.ofString "t") 349)] 0) #[])) ::
  (nat_lit 135, (Obj.mk (Value.type "tuple") none (Data.seq #[] 0) #[])) ::
  (nat_lit 137, (Obj.mk (Value.type "code") none (Data.fields #[(Value.str (Str.ofString "_truth") 345), (Value.str (Str.ofString "_truth") 346), (Value.str (Str.ofString "/claim/cut.py") 347), (Value.int 68 0), (Value.int 1 0), (Value.int 0 0), (Value.int 0 0), (Value.int 3 0), (Value.ref 132), (Value.bool Bool.true), (Value.int 181 0), (Value.ref 133), Value.none, (Value.ref 134), (Value.ref 135), (Value.ref 136), (Value.int 350 0), (Value.int 68 0), (Value.str (Str.ofString "/claim/cut.py") 351)]) #[])) ::
  (nat_lit 138, (Obj.mk (Value.type "function") none (Data.func (FuncData.mk (Str.ofString "_truth") (Str.ofString "_truth") (sA (pst 34)) (FuncBody.stmts (sB (pst 34))) (sS (pst 34)) 3 [] Value.none Value.none Value.none (Value.str (Str.ofString "binascii") 335) none (Value.ref 137) Value.none 0)) #[])) ::
  (nat_lit 139, (Obj.mk (Value.type "dict") none (Data.dict #[(DictEntry.mk (PyData.keyHash P (Str.ofString "newline")) (Value.str (Str.ofString "newline") 355) (Value.bool Bool.true))] 1) #[])) ::
  (nat_lit 140, (Obj.mk (Value.type "tuple") none (Data.seq #[] 0) #[])) ::
  (nat_lit 142, (Obj.mk (Value.type "tuple") none (Data.seq #[(Value.str (Str.ofString "data") 359), (Value.str (Str.ofString "newline") 360), (Value.str (Str.ofString "bin_data") 361), (Value.str (Str.ofString "out") 362), (Value.str (Str.ofString "leftbits") 363), (Value.str (Str.ofString "leftchar") 364), (Value.str (Str.ofString "b") 365)] 0) #[])) ::
  (nat_lit 143, (Obj.mk (Value.type "tuple") none (Data.seq #[] 0) #[])) ::
  (nat_lit 145, (Obj.mk (Value.type "code") none (Data.fields #[(Value.str (Str.ofString "b2a_base64") 356), (Value.str (Str.ofString "b2a_base64") 357), (Value.str (Str.ofString "/claim/cut.py") 358), (Value.int 74 0), (Value.int 1 0), (Value.int 1 0), (Value.int 1 0), (Value.int 3 0), (Value.ref 140), (Value.bool Bool.true), (Value.int 181 0), (Value.ref 141), Value.none, (Value.ref 142), (Value.ref 143), (Value.ref 144), (Value.int 366 0), (Value.int 74 0), (Value.str (Str.ofString "/claim/cut.py") 367)]) #[])) ::
  (nat_lit 146, (Obj.mk (Value.type "function") none (Data.func (FuncData.mk (Str.ofString "b2a_base64") (Str.ofString "b2a_base64") (sA (pst 36)) (FuncBody.stmts (sB (pst 36))) (sS (pst 36)) 3 [] Value.none (Value.ref 139) Value.none (Value.str (Str.ofString "binascii") 335) none (Value.ref 145) Value.none 0)) #[])) ::
  (nat_lit 147, (Obj.mk (Value.type "tuple") none (Data.seq #[Value.none] 0) #[])) ::
  (nat_lit 148, (Obj.mk (Value.type "tuple") none (Data.seq #[] 0) #[])) ::
  (nat_lit 150, (Obj.mk (Value.type "tuple") none (Data.seq #[(Value.str (Str.ofString "s") 374), (Value.str (Str.ofString "altchars") 375), (Value.str (Str.ofString "encoded") 376)] 0) #[])) ::
  (nat_lit 151, (Obj.mk (Value.type "tuple") none (Data.seq #[] 0) #[])) ::
  (nat_lit 153, (Obj.mk (Value.type "code") none (Data.fields #[(Value.str (Str.ofString "b64encode") 371), (Value.str (Str.ofString "b64encode") 372), (Value.str (Str.ofString "/claim/cut.py") 373), (Value.int 97 0), (Value.int 2 0), (Value.int 0 0), (Value.int 0 0), (Value.int 3 0), (Value.ref 148), (Value.bool Bool.true), (Value.int 181 0), (Value.ref 149), Value.none, (Value.ref 150), (Value.ref 151), (Value.ref 152), (Value.int 377 0), (Value.int 97 0), (Value.str (Str.ofString "/claim/cut.py") 378)]) #[])) ::
  (nat_lit 154, (Obj.mk (Value.type "function") none (Data.func (FuncData.mk (Str.ofString "b64encode") (Str.ofString "b64encode") (sA (pst 38)) (FuncBody.stmts (sB (pst 38))) (sS (pst 38)) 3 [] (Value.ref 147) Value.none Value.none (Value.str (Str.ofString "cpy313.base64") 369) none (Value.ref 153) Value.none 0)) #[])) ::
  (nat_lit 155, (Obj.mk (Value.type "tuple") none (Data.seq #[] 0) #[])) ::
  (nat_lit 157, (Obj.mk (Value.type "tuple") none (Data.seq #[(Value.str (Str.ofString "name") 387), (Value.str (Str.ofString "x") 388), (Value.str (Str.ofString "t") 389)] 0) #[])) ::
  (nat_lit 158, (Obj.mk (Value.type "tuple") none (Data.seq #[] 0) #[])) ::
  (nat_lit 160, (Obj.mk (Value.type "code") none (Data.fields #[(Value.str (Str.ofString "_kind") 384), (Value.str (Str.ofString "_kind") 385), (Value.str (Str.ofString "/claim/cut.py") 386), (Value.int 105 0), (Value.int 2 0), (Value.int 0 0), (Value.int 0 0), (Value.int 3 0), (Value.ref 155), (Value.bool Bool.true), (Value.int 181 0), (Value.ref 156), Value.none, (Value.ref 157), (Value.ref 158), (Value.ref 159), (Value.int 390 0), (Value.int 105 0), (Value.str (Str.ofString "/claim/cut.py") 391)]) #[])) ::
  (nat_lit 161, (Obj.mk (Value.type "function") none (Data.func (FuncData.mk (Str.ofString "_kind") (Str.ofString "_kind") (sA (pst 41)) (FuncBody.stmts (sB (pst 41))) (sS (pst 41)) 3 [] Value.none Value.none Value.none (Value.str (Str.ofString "os.path") 382) none (Value.ref 160) Value.none 0)) #[])) ::
  (nat_lit 162, (Obj.mk (Value.type "tuple") none (Data.seq #[] 0) #[])) ::
  (nat_lit 164, (Obj.mk (Value.type "tuple") none (Data.seq #[(Value.str (Str.ofString "name") 396), (Value.str (Str.ofString "cname") 397), (Value.str (Str.ofString "argname") 398), (Value.str (Str.ofString "args") 399), (Value.str (Str.ofString "kwargs") 400), (Value.str (Str.ofString "x") 401), (Value.str (Str.ofString "k") 402)] 0) #[])) ::
  (nat_lit 165, (Obj.mk (Value.type "tuple") none (Data.seq #[] 0) #[])) ::
  (nat_lit 167, (Obj.mk (Value.type "code") none (Data.fields #[(Value.str (Str.ofString "_c_path") 393), (Value.str (Str.ofString "_c_path") 394), (Value.str (Str.ofString "/claim/cut.py") 395), (Value.int 126 0), (Value.int 5 0), (Value.int 0 0), (Value.int 0 0), (Value.int 3 0), (Value.ref 162), (Value.bool Bool.true), (Value.int 181 0), (Value.ref 163), Value.none, (Value.ref 164), (Value.ref 165), (Value.ref 166), (Value.int 403 0), (Value.int 126 0), (Value.str (Str.ofString "/claim/cut.py") 404)]) #[])) ::
  (nat_lit 168, (Obj.mk (Value.type "function") none (Data.func (FuncData.mk (Str.ofString "_c_path") (Str.ofString "_c_path") (sA (pst 42)) (FuncBody.stmts (sB (pst 42))) (sS (pst 42)) 3 [] Value.none Value.none Value.none (Value.str (Str.ofString "os.path") 382) none (Value.ref 167) Value.none 0)) #[])) ::
  (nat_lit 169, (Obj.mk (Value.type "tuple") none (Data.seq #[] 0) #[])) ::
  (nat_lit 171, (Obj.mk (Value.type "tuple") none (Data.seq #[(Value.str (Str.ofString "p") 409), (Value.str (Str.ofString "sep") 410), (Value.str (Str.ofString "empty") 411)] 0) #[])) ::
  (nat_lit 172, (Obj.mk (Value.type "tuple") none (Data.seq #[] 0) #[])) ::
  (nat_lit 174, (Obj.mk (Value.type "code") none (Data.fields #[(Value.str (Str.ofString "_splitroot") 406), (Value.str (Str.ofString "_splitroot") 407), (Value.str (Str.ofString "/claim/cut.py") 408), (Value.int 137 0), (Value.int 1 0), (Value.int 0 0), (Value.int 0 0), (Value.int 3 0), (Value.ref 169), (Value.bool Bool.true), (Value.int 181 0), (Value.ref 170), Value.none, (Value.ref 171), (Value.ref 172), (Value.ref 173), (Value.int 412 0), (Value.int 137 0), (Value.str (Str.ofString "/claim/cut.py") 413)]) #[])) ::
  (nat_lit 175, (Obj.mk (Value.type "function") none (Data.func (FuncData.mk (Str.ofString "_splitroot") (Str.ofString "_splitroot") (sA (pst 43)) (FuncBody.stmts (sB (pst 43))) (sS (pst 43)) 3 [] Value.none Value.none Value.none (Value.str (Str.ofString "os.path") 382) none (Value.ref 174) Value.none 0)) #[])) ::
  (nat_lit 176, (Obj.mk (Value.type "tuple") none (Data.seq #[] 0) #[])) ::
  (nat_lit 178, (Obj.mk (Value.type "tuple") none (Data.seq #[(Value.str (Str.ofString "path") 418), (Value.str (Str.ofString "sep") 419), (Value.str (Str.ofString "dot") 420), (Value.str (Str.ofString "dotdot") 421), (Value.str (Str.ofString "_") 422), (Value.str (Str.ofString "initial_slashes") 423), (Value.str (Str.ofString "comps") 424), (Value.str (Str.ofString "new_comps") 425), (Value.str (Str.ofString "comp") 426)] 0) #[])) ::
  (nat_lit 179, (Obj.mk (Value.type "tuple") none (Data.seq #[] 0) #[])) ::
  (nat_lit 181, (Obj.mk (Value.type "code") none (Data.fields #[(Value.str (Str.ofString "_normpath") 415), (Value.str (Str.ofString "_normpath") 416), (Value.str (Str.ofString "/claim/cut.py") 417), (Value.int 146 0), (Value.int 1 0), (Value.int 0 0), (Value.int 0 0), (Value.int 3 0), (Value.ref 176), (Value.bool Bool.true), (Value.int 181 0), (Value.ref 177), Value.none, (Value.ref 178), (Value.ref 179), (Value.ref 180), (Value.int 427 0), (Value.int 146 0), (Value.str (Str.ofString "/claim/cut.py") 428)]) #[])) ::
  (nat_lit 182, (Obj.mk (Value.type "function") none (Data.func (FuncData.mk (Str.ofString "_normpath") (Str.ofString "_normpath") (sA (pst 44)) (FuncBody.stmts (sB (pst 44))) (sS (pst 44)) 3 [] Value.none Value.none Value.none (Value.str (Str.ofString "os.path") 382) none (Value.ref 181) Value.none 0)) #[])) ::
  (nat_lit 183, (Obj.mk (Value.type "tuple") none (Data.seq #[] 0) #[])) ::
  (nat_lit 185, (Obj.mk (Value.type "tuple") none (Data.seq #[(Value.str (Str.ofString "args") 433), (Value.str (Str.ofString "kwargs") 434)] 0) #[])) ::
  (nat_lit 186, (Obj.mk (Value.type "tuple") none (Data.seq #[] 0) #[])) ::
  (nat_lit 188, (Obj.mk (Value.type "code") none (Data.fields #[(Value.str (Str.ofString "normpath") 430), (Value.str (Str.ofString "normpath") 431), (Value.str (Str.ofString "/claim/cut.py") 432), (Value.int 165 0), (Value.int 0 0), (Value.int 0 0), (Value.int 0 0), (Value.int 15 0), (Value.ref 183), (Value.bool Bool.true), (Value.int 181 0), (Value.ref 184), Value.none, (Value.ref 185), (Value.ref 186), (Value.ref 187), (Value.int 435 0), (Value.int 165 0), (Value.str (Str.ofString "/claim/cut.py") 436)]) #[])) ::
  (nat_lit 189, (Obj.mk (Value.type "function") none (Data.func (FuncData.mk (Str.ofString "normpath") (Str.ofString "normpath") (sA (pst 45)) (FuncBody.stmts (sB (pst 45))) (sS (pst 45)) 3 [] Value.none Value.none Value.none (Value.str (Str.ofString "os.path") 382) none (Value.ref 188) Value.none 0)) #[])) ::
  (nat_lit 197, (Obj.mk (Value.type "tuple") none (Data.seq #[Value.none, Value.none] 0) #[])) ::
  (nat_lit 198, (Obj.mk (Value.type "tuple") none (Data.seq #[] 0) #[])) ::
  (nat_lit 201, (Obj.mk (Value.type "code") none (Data.fields #[(Value.str (Str.ofString "__init__") 452), (Value.str (Str.ofString "_Ignore.__init__") 453), (Value.str (Str.ofString "/claim/cut.py") 454), (Value.int 170 0), (Value.int 3 0), (Value.int 0 0), (Value.int 0 0), (Value.int 3 0), (Value.ref 198), (Value.bool Bool.true), (Value.int 181 0), (Value.ref 199), Value.none, Value.none, Value.none, (Value.ref 200), (Value.int 455 0), (Value.int 170 0), (Value.str (Str.ofString "/claim/cut.py") 456)]) #[])) ::
  (nat_lit 202, (Obj.mk (Value.type "function") none (Data.func (FuncData.mk (Str.ofString "__init__") (Str.ofString "_Ignore.__init__") (sA (nthT (sB (pst 47)) 0)) (FuncBody.stmts (sB (nthT (sB (pst 47)) 0))) (sS (nthT (sB (pst 47)) 0)) 3 [] (Value.ref 197) Value.none Value.none (Value.str (Str.ofString "cpy313.trace") 438) none (Value.ref 201) Value.none 0)) #[])) ::
  (nat_lit 203, (Obj.mk (Value.type "tuple") none (Data.seq #[] 0) #[])) ::
  (nat_lit 205, (Obj.mk (Value.type "tuple") none (Data.seq #[(Value.str (Str.ofString "self") 461), (Value.str (Str.ofString "filename") 462), (Value.str (Str.ofString "modulename") 463), (Value.str (Str.ofString "mod") 464), (Value.str (Str.ofString "d") 465)] 0) #[])) ::
  (nat_lit 206, (Obj.mk (Value.type "tuple") none (Data.seq #[] 0) #[])) ::
  (nat_lit 208, (Obj.mk (Value.type "code") none (Data.fields #[(Value.str (Str.ofString "names") 458), (Value.str (Str.ofString "_Ignore.names") 459), (Value.str (Str.ofString "/claim/cut.py") 460), (Value.int 175 0), (Value.int 3 0), (Value.int 0 0), (Value.int 0 0), (Value.int 3 0), (Value.ref 203), (Value.bool Bool.true), (Value.int 181 0), (Value.ref 204), Value.none, (Value.ref 205), (Value.ref 206), (Value.ref 207), (Value.int 466 0), (Value.int 175 0), (Value.str (Str.ofString "/claim/cut.py") 467)]) #[])) ::
  (nat_lit 209, (Obj.mk (Value.type "function") none (Data.func (FuncData.mk (Str.ofString "names") (Str.ofString "_Ignore.names") (sA (nthT (sB (pst 47)) 1)) (FuncBody.stmts (sB (nthT (sB (pst 47)) 1))) (sS (nthT (sB (pst 47)) 1)) 3 [] Value.none Value.none Value.none (Value.str (Str.ofString "cpy313.trace") 438) none (Value.ref 208) Value.none 0)) #[])) ::
  (nat_lit 210, (Obj.mk (Value.type "tuple") none (Data.seq #[(Value.str (Str.ofString "_dirs") 469), (Value.str (Str.ofString "_ignore") 470), (Value.str (Str.ofString "_mods") 471)] 0) #[])) ::
  (nat_lit 211, (Obj.mk (Value.type "dict") none (Data.dict #[(DictEntry.mk (PyData.keyHash P (Str.ofString "__module__")) (Value.str (Str.ofString "__module__") 447) (Value.str (Str.ofString "cpy313.trace") 438)), (DictEntry.mk (PyData.keyHash P (Str.ofString "__firstlineno__")) (Value.str (Str.ofString "__firstlineno__") 451) (Value.int 168 450)), (DictEntry.mk (PyData.keyHash P (Str.ofString "__init__")) (Value.str (Str.ofString "__init__") 457) (Value.ref 202)), (DictEntry.mk (PyData.keyHash P (Str.ofString "names")) (Value.str (Str.ofString "names") 468) (Value.ref 209)), (DictEntry.mk (PyData.keyHash P (Str.ofString "__static_attributes__")) (Value.str (Str.ofString "__static_attributes__") 472) (Value.ref 210)), (DictEntry.mk (PyData.keyHash P (Str.ofString "__dict__")) (Value.str (Str.ofString "__dict__") 474) (Value.ref 213)), (DictEntry.mk (PyData.keyHash P (Str.ofString "__weakref__")) (Value.str (Str.ofString "__weakref__") 476) (Value.ref 214)), (DictEntry.mk (PyData.keyHash P (Str.ofString "__doc__")) (Value.str (Str.ofString "__doc__") 477) Value.none)] 4) #[])) ::
  (nat_lit 212, (Obj.mk (Value.type "type") none (Data.cls (ClassData.mk (Str.ofString "_Ignore") [(Value.type "object")] [(Value.ref 212), (Value.type "object")] 211 (Str.ofString "_Ignore") Bool.true [] [] Bool.false none Bool.false)) #[none, none, (Option.some (Value.str (Str.ofString "_Ignore") 440)), (Option.some (Value.str (Str.ofString "_Ignore") 448)), (Option.some (Value.builtin "object.__new__")), (Option.some (Value.bool Bool.true))])) ::
  (nat_lit 213, (Obj.mk (Value.type "getset_descriptor") none (Data.fields #[(Value.str (Str.ofString "__dict__") 473), (Value.ref 212), (Value.builtin "function.__dict__"), (Value.builtin "function.__dict__#set")]) #[])) ::
  (nat_lit 214, (Obj.mk (Value.type "getset_descriptor") none (Data.fields #[(Value.str (Str.ofString "__weakref__") 475), (Value.ref 212), (Value.builtin "ExceptionGroup.__weakref__"), Value.none]) #[])) ::
  (nat_lit 217, (Obj.mk (Value.type "tuple") none (Data.seq #[] 0) #[])) ::
  (nat_lit 219, (Obj.mk (Value.type "tuple") none (Data.seq #[(Value.str (Str.ofString "mode") 485), (Value.str (Str.ofString "parts") 486), (Value.str (Str.ofString "k") 487), (Value.str (Str.ofString "figure") 488), (Value.str (Str.ofString "above") 489), (Value.str (Str.ofString "ends") 490)] 0) #[])) ::
  (nat_lit 220, (Obj.mk (Value.type "tuple") none (Data.seq #[] 0) #[])) ::
  (nat_lit 222, (Obj.mk (Value.type "code") none (Data.fields #[(Value.str (Str.ofString "_law_parts") 482), (Value.str (Str.ofString "_law_parts") 483), (Value.str (Str.ofString "/claim/cut.py") 484), (Value.int 195 0), (Value.int 1 0), (Value.int 0 0), (Value.int 0 0), (Value.int 3 0), (Value.ref 217), (Value.bool Bool.true), (Value.int 181 0), (Value.ref 218), Value.none, (Value.ref 219), (Value.ref 220), (Value.ref 221), (Value.int 491 0), (Value.int 195 0), (Value.str (Str.ofString "/claim/cut.py") 492)]) #[])) ::
  (nat_lit 223, (Obj.mk (Value.type "function") none (Data.func (FuncData.mk (Str.ofString "_law_parts") (Str.ofString "_law_parts") (sA (pst 49)) (FuncBody.stmts (sB (pst 49))) (sS (pst 49)) 3 [] Value.none Value.none Value.none (Value.str (Str.ofString "law_om0050_01") 480) none (Value.ref 222) Value.none 0)) #[])) ::
  (nat_lit 224, (Obj.mk (Value.type "tuple") none (Data.seq #[] 0) #[])) ::
  (nat_lit 227, (Obj.mk (Value.type "code") none (Data.fields #[(Value.str (Str.ofString "_law_numbered") 494), (Value.str (Str.ofString "_law_numbered") 495), (Value.str (Str.ofString "/claim/cut.py") 496), (Value.int 202 0), (Value.int 1 0), (Value.int 0 0), (Value.int 0 0), (Value.int 3 0), (Value.ref 224), (Value.bool Bool.true), (Value.int 181 0), (Value.ref 225), Value.none, Value.none, Value.none, (Value.ref 226), (Value.int 497 0), (Value.int 202 0), (Value.str (Str.ofString "/claim/cut.py") 498)]) #[])) ::
  (nat_lit 228, (Obj.mk (Value.type "function") none (Data.func (FuncData.mk (Str.ofString "_law_numbered") (Str.ofString "_law_numbered") (sA (pst 50)) (FuncBody.stmts (sB (pst 50))) (sS (pst 50)) 3 [] Value.none Value.none Value.none (Value.str (Str.ofString "law_om0050_01") 480) none (Value.ref 227) Value.none 0)) #[])) ::
  (nat_lit 229, (Obj.mk (Value.type "tuple") none (Data.seq #[] 0) #[])) ::
  (nat_lit 232, (Obj.mk (Value.type "code") none (Data.fields #[(Value.str (Str.ofString "_law_seen") 500), (Value.str (Str.ofString "_law_seen") 501), (Value.str (Str.ofString "/claim/cut.py") 502), (Value.int 204 0), (Value.int 1 0), (Value.int 0 0), (Value.int 0 0), (Value.int 3 0), (Value.ref 229), (Value.bool Bool.true), (Value.int 181 0), (Value.ref 230), Value.none, Value.none, Value.none, (Value.ref 231), (Value.int 503 0), (Value.int 204 0), (Value.str (Str.ofString "/claim/cut.py") 504)]) #[])) ::
  (nat_lit 233, (Obj.mk (Value.type "function") none (Data.func (FuncData.mk (Str.ofString "_law_seen") (Str.ofString "_law_seen") (sA (pst 51)) (FuncBody.stmts (sB (pst 51))) (sS (pst 51)) 3 [] Value.none Value.none Value.none (Value.str (Str.ofString "law_om0050_01") 480) none (Value.ref 232) Value.none 0)) #[])) ::
  (nat_lit 234, (Obj.mk (Value.type "tuple") none (Data.seq #[] 0) #[])) ::
  (nat_lit 237, (Obj.mk (Value.type "code") none (Data.fields #[(Value.str (Str.ofString "_law_asked") 506), (Value.str (Str.ofString "_law_asked") 507), (Value.str (Str.ofString "/claim/cut.py") 508), (Value.int 208 0), (Value.int 1 0), (Value.int 0 0), (Value.int 0 0), (Value.int 3 0), (Value.ref 234), (Value.bool Bool.true), (Value.int 181 0), (Value.ref 235), Value.none, Value.none, Value.none, (Value.ref 236), (Value.int 509 0), (Value.int 208 0), (Value.str (Str.ofString "/claim/cut.py") 510)]) #[])) ::
  (nat_lit 238, (Obj.mk (Value.type "function") none (Data.func (FuncData.mk (Str.ofString "_law_asked") (Str.ofString "_law_asked") (sA (pst 52)) (FuncBody.stmts (sB (pst 52))) (sS (pst 52)) 3 [] Value.none Value.none Value.none (Value.str (Str.ofString "law_om0050_01") 480) none (Value.ref 237) Value.none 0)) #[])) ::
  (nat_lit 239, (Obj.mk (Value.type "tuple") none (Data.seq #[] 0) #[])) ::
  (nat_lit 241, (Obj.mk (Value.type "tuple") none (Data.seq #[(Value.str (Str.ofString "script") 515), (Value.str (Str.ofString "masks") 516), (Value.str (Str.ofString "row") 517), (Value.str (Str.ofString "v") 518)] 0) #[])) ::
  (nat_lit 242, (Obj.mk (Value.type "tuple") none (Data.seq #[] 0) #[])) ::
  (nat_lit 244, (Obj.mk (Value.type "code") none (Data.fields #[(Value.str (Str.ofString "_law_row") 512), (Value.str (Str.ofString "_law_row") 513), (Value.str (Str.ofString "/claim/cut.py") 514), (Value.int 213 0), (Value.int 1 0), (Value.int 0 0), (Value.int 0 0), (Value.int 3 0), (Value.ref 239), (Value.bool Bool.true), (Value.int 181 0), (Value.ref 240), Value.none, (Value.ref 241), (Value.ref 242), (Value.ref 243), (Value.int 519 0), (Value.int 213 0), (Value.str (Str.ofString "/claim/cut.py") 520)]) #[])) ::
  (nat_lit 245, (Obj.mk (Value.type "function") none (Data.func (FuncData.mk (Str.ofString "_law_row") (Str.ofString "_law_row") (sA (pst 53)) (FuncBody.stmts (sB (pst 53))) (sS (pst 53)) 3 [] Value.none Value.none Value.none (Value.str (Str.ofString "law_om0050_01") 480) none (Value.ref 244) Value.none 0)) #[])) ::
  (nat_lit 246, (Obj.mk (Value.type "tuple") none (Data.seq #[] 0) #[])) ::
  (nat_lit 248, (Obj.mk (Value.type "tuple") none (Data.seq #[(Value.str (Str.ofString "first") 525), (Value.str (Str.ofString "names") 526), (Value.str (Str.ofString "pick") 527), (Value.str (Str.ofString "name") 528)] 0) #[])) ::
  (nat_lit 249, (Obj.mk (Value.type "tuple") none (Data.seq #[] 0) #[])) ::
  (nat_lit 251, (Obj.mk (Value.type "code") none (Data.fields #[(Value.str (Str.ofString "_law_named") 522), (Value.str (Str.ofString "_law_named") 523), (Value.str (Str.ofString "/claim/cut.py") 524), (Value.int 219 0), (Value.int 2 0), (Value.int 0 0), (Value.int 0 0), (Value.int 3 0), (Value.ref 246), (Value.bool Bool.true), (Value.int 181 0), (Value.ref 247), Value.none, (Value.ref 248), (Value.ref 249), (Value.ref 250), (Value.int 529 0), (Value.int 219 0), (Value.str (Str.ofString "/claim/cut.py") 530)]) #[])) ::
  (nat_lit 252, (Obj.mk (Value.type "function") none (Data.func (FuncData.mk (Str.ofString "_law_named") (Str.ofString "_law_named") (sA (pst 54)) (FuncBody.stmts (sB (pst 54))) (sS (pst 54)) 3 [] Value.none Value.none Value.none (Value.str (Str.ofString "law_om0050_01") 480) none (Value.ref 251) Value.none 0)) #[])) ::
  (nat_lit 253, (Obj.mk (Value.type "tuple") none (Data.seq #[] 0) #[])) ::
  (nat_lit 256, (Obj.mk (Value.type "code") none (Data.fields #[(Value.str (Str.ofString "_law_file") 532), (Value.str (Str.ofString "_law_file") 533), (Value.str (Str.ofString "/claim/cut.py") 534), (Value.int 223 0), (Value.int 3 0), (Value.int 0 0), (Value.int 0 0), (Value.int 3 0), (Value.ref 253), (Value.bool Bool.true), (Value.int 181 0), (Value.ref 254), Value.none, Value.none, Value.none, (Value.ref 255), (Value.int 535 0), (Value.int 223 0), (Value.str (Str.ofString "/claim/cut.py") 536)]) #[])) ::
  (nat_lit 257, (Obj.mk (Value.type "function") none (Data.func (FuncData.mk (Str.ofString "_law_file") (Str.ofString "_law_file") (sA (pst 55)) (FuncBody.stmts (sB (pst 55))) (sS (pst 55)) 3 [] Value.none Value.none Value.none (Value.str (Str.ofString "law_om0050_01") 480) none (Value.ref 256) Value.none 0)) #[])) ::
  (nat_lit 258, (Obj.mk (Value.type "tuple") none (Data.seq #[] 0) #[])) ::
  (nat_lit 261, (Obj.mk (Value.type "code") none (Data.fields #[(Value.str (Str.ofString "_law_made") 538), (Value.str (Str.ofString "_law_made") 539), (Value.str (Str.ofString "/claim/cut.py") 540), (Value.int 229 0), (Value.int 3 0), (Value.int 0 0), (Value.int 0 0), (Value.int 3 0), (Value.ref 258), (Value.bool Bool.true), (Value.int 181 0), (Value.ref 259), Value.none, Value.none, Value.none, (Value.ref 260), (Value.int 541 0), (Value.int 229 0), (Value.str (Str.ofString "/claim/cut.py") 542)]) #[])) ::
  (nat_lit 262, (Obj.mk (Value.type "function") none (Data.func (FuncData.mk (Str.ofString "_law_made") (Str.ofString "_law_made") (sA (pst 56)) (FuncBody.stmts (sB (pst 56))) (sS (pst 56)) 3 [] Value.none Value.none Value.none (Value.str (Str.ofString "law_om0050_01") 480) none (Value.ref 261) Value.none 0)) #[])) ::
  (nat_lit 263, (Obj.mk (Value.type "tuple") none (Data.seq #[] 0) #[])) ::
  (nat_lit 266, (Obj.mk (Value.type "code") none (Data.fields #[(Value.str (Str.ofString "_law_first") 544), (Value.str (Str.ofString "_law_first") 545), (Value.str (Str.ofString "/claim/cut.py") 546), (Value.int 237 0), (Value.int 4 0), (Value.int 0 0), (Value.int 0 0), (Value.int 3 0), (Value.ref 263), (Value.bool Bool.true), (Value.int 181 0), (Value.ref 264), Value.none, Value.none, Value.none, (Value.ref 265), (Value.int 547 0), (Value.int 237 0), (Value.str (Str.ofString "/claim/cut.py") 548)]) #[])) ::
  (nat_lit 267, (Obj.mk (Value.type "function") none (Data.func (FuncData.mk (Str.ofString "_law_first") (Str.ofString "_law_first") (sA (pst 57)) (FuncBody.stmts (sB (pst 57))) (sS (pst 57)) 3 [] Value.none Value.none Value.none (Value.str (Str.ofString "law_om0050_01") 480) none (Value.ref 266) Value.none 0)) #[])) ::
  (nat_lit 268, (Obj.mk (Value.type "tuple") none (Data.seq #[] 0) #[])) ::
  (nat_lit 270, (Obj.mk (Value.type "tuple") none (Data.seq #[(Value.str (Str.ofString "names") 553), (Value.str (Str.ofString "due") 554), (Value.str (Str.ofString "b") 555), (Value.str (Str.ofString "memory") 556), (Value.str (Str.ofString "met") 557), (Value.str (Str.ofString "i") 558), (Value.str (Str.ofString "k") 559)] 0) #[])) ::
  (nat_lit 271, (Obj.mk (Value.type "tuple") none (Data.seq #[] 0) #[])) ::
  (nat_lit 273, (Obj.mk (Value.type "code") none (Data.fields #[(Value.str (Str.ofString "_law_memory") 550), (Value.str (Str.ofString "_law_memory") 551), (Value.str (Str.ofString "/claim/cut.py") 552), (Value.int 241 0), (Value.int 3 0), (Value.int 0 0), (Value.int 0 0), (Value.int 3 0), (Value.ref 268), (Value.bool Bool.true), (Value.int 181 0), (Value.ref 269), Value.none, (Value.ref 270), (Value.ref 271), (Value.ref 272), (Value.int 560 0), (Value.int 241 0), (Value.str (Str.ofString "/claim/cut.py") 561)]) #[])) ::
  (nat_lit 274, (Obj.mk (Value.type "function") none (Data.func (FuncData.mk (Str.ofString "_law_memory") (Str.ofString "_law_memory") (sA (pst 58)) (FuncBody.stmts (sB (pst 58))) (sS (pst 58)) 3 [] Value.none Value.none Value.none (Value.str (Str.ofString "law_om0050_01") 480) none (Value.ref 273) Value.none 0)) #[])) ::
  (nat_lit 275, (Obj.mk (Value.type "tuple") none (Data.seq #[] 0) #[])) ::
  (nat_lit 278, (Obj.mk (Value.type "code") none (Data.fields #[(Value.str (Str.ofString "law") 563), (Value.str (Str.ofString "law") 564), (Value.str (Str.ofString "/claim/cut.py") 565), (Value.int 249 0), (Value.int 1 0), (Value.int 0 0), (Value.int 0 0), (Value.int 3 0), (Value.ref 275), (Value.bool Bool.true), (Value.int 181 0), (Value.ref 276), Value.none, Value.none, Value.none, (Value.ref 277), (Value.int 566 0), (Value.int 249 0), (Value.str (Str.ofString "/claim/cut.py") 567)]) #[])) ::
  (nat_lit 279, (Obj.mk (Value.type "function") none (Data.func (FuncData.mk (Str.ofString "law") (Str.ofString "law") (sA (pst 59)) (FuncBody.stmts (sB (pst 59))) (sS (pst 59)) 3 [] Value.none Value.none Value.none (Value.str (Str.ofString "law_om0050_01") 480) none (Value.ref 278) Value.none 0)) #[])) :: []
/-- the part of the top that is seen -/
noncomputable def hd.view_39 : Program := { PySem.Challenge.pw_om0050_01 with main := { PySem.Challenge.pw_om0050_01.main with body := [pst 0, pst 2, pst 3, pst 4, pst 5, pst 6, pst 7, pst 8, pst 9, pst 10, pst 11, pst 12, pst 13, pst 14, pst 15, pst 16, pst 17, pst 18, pst 19, pst 20, pst 21, pst 22, pst 23, pst 24, pst 25, pst 26, pst 27, pst 28, pst 29, pst 30, pst 31, pst 33, pst 34, pst 35, pst 39, pst 41, pst 42, pst 43, pst 44, pst 45, pst 47, pst 49, pst 50, pst 51, pst 52, pst 53, pst 54, pst 55, pst 56, pst 57, pst 58, pst 59] } }
end Mine
/- Rn -/
namespace Mine
namespace Rn
noncomputable def ob0 : Params → Obj := fun P => (Obj.mk (Value.type "code") none (Data.fields #[(Value.str (Str.ofString "<module>") 182), (Value.str (Str.ofString "<module>") 183), (Value.str (Str.ofString "/claim/cut.py") 184), (Value.int 1 0), (Value.int 0 0), (Value.int 0 0), (Value.int 0 0), (Value.int 0 0), (Value.ref 11), (Value.bool Bool.false), (Value.int 181 0), (Value.ref 12), Value.none, Value.none, Value.none, Value.none, (Value.int 185 0), (Value.int 1 0), (Value.str (Str.ofString "/claim/cut.py") 186)]) #[])
noncomputable def ob1 : Params → Obj := fun P => (Obj.mk (Value.type "frame") none Data.plain #[(Option.some (Value.ref 13)), (Option.some (Value.ref 3)), (Option.some (Value.ref 3)), none, (Option.some (Value.str (Str.ofString "__main__") 164)), none, (Option.some (Value.ref 0))])
noncomputable def ob2 : Params → Obj := fun P => (Obj.mk (Value.type "dict") none (Data.dict #[(DictEntry.mk (PyData.keyHash P (Str.ofString "__name__")) (Value.str (Str.ofString "__name__") 165) (Value.str (Str.ofString "cpy313.stat") 194)), (DictEntry.mk (PyData.keyHash P (Str.ofString "__doc__")) (Value.str (Str.ofString "__doc__") 166) Value.none), (DictEntry.mk (PyData.keyHash P (Str.ofString "__package__")) (Value.str (Str.ofString "__package__") 167) Value.none), (DictEntry.mk (PyData.keyHash P (Str.ofString "__loader__")) (Value.str (Str.ofString "__loader__") 168) (Value.builtin "__main__.__loader__#opaque")), (DictEntry.mk (PyData.keyHash P (Str.ofString "__spec__")) (Value.str (Str.ofString "__spec__") 169) Value.none), (DictEntry.mk (PyData.keyHash P (Str.ofString "__annotations__")) (Value.str (Str.ofString "__annotations__") 170) (Value.ref 6)), (DictEntry.mk (PyData.keyHash P (Str.ofString "__builtins__")) (Value.str (Str.ofString "__builtins__") 171) (Value.ref 4)), (DictEntry.mk (PyData.keyHash P (Str.ofString "__file__")) (Value.str (Str.ofString "__file__") 173) (Value.str (Str.ofString "/claim/cut.py") 172)), (DictEntry.mk (PyData.keyHash P (Str.ofString "__cached__")) (Value.str (Str.ofString "__cached__") 174) Value.none), (DictEntry.mk (PyData.keyHash P (Str.ofString "_wall")) (Value.str (Str.ofString "_wall") 193) (Value.ref 21)), (DictEntry.mk (PyData.keyHash P (Str.ofString "S_IMODE")) (Value.str (Str.ofString "S_IMODE") 202) (Value.ref 28)), (DictEntry.mk (PyData.keyHash P (Str.ofString "S_IFMT")) (Value.str (Str.ofString "S_IFMT") 209) (Value.ref 35)), (DictEntry.mk (PyData.keyHash P (Str.ofString "S_IFDIR")) (Value.str (Str.ofString "S_IFDIR") 211) (Value.int 16384 210)), (DictEntry.mk (PyData.keyHash P (Str.ofString "S_IFCHR")) (Value.str (Str.ofString "S_IFCHR") 213) (Value.int 8192 212)), (DictEntry.mk (PyData.keyHash P (Str.ofString "S_IFBLK")) (Value.str (Str.ofString "S_IFBLK") 215) (Value.int 24576 214)), (DictEntry.mk (PyData.keyHash P (Str.ofString "S_IFREG")) (Value.str (Str.ofString "S_IFREG") 217) (Value.int 32768 216)), (DictEntry.mk (PyData.keyHash P (Str.ofString "S_IFIFO")) (Value.str (Str.ofString "S_IFIFO") 219) (Value.int 4096 218)), (DictEntry.mk (PyData.keyHash P (Str.ofString "S_IFLNK")) (Value.str (Str.ofString "S_IFLNK") 221) (Value.int 40960 220)), (DictEntry.mk (PyData.keyHash P (Str.ofString "S_IFSOCK")) (Value.str (Str.ofString "S_IFSOCK") 223) (Value.int 49152 222)), (DictEntry.mk (PyData.keyHash P (Str.ofString "S_ISDIR")) (Value.str (Str.ofString "S_ISDIR") 230) (Value.ref 42)), (DictEntry.mk (PyData.keyHash P (Str.ofString "S_ISCHR")) (Value.str (Str.ofString "S_ISCHR") 237) (Value.ref 49)), (DictEntry.mk (PyData.keyHash P (Str.ofString "S_ISBLK")) (Value.str (Str.ofString "S_ISBLK") 244) (Value.ref 56))] 22) #[])
noncomputable def ob3 : Params → Obj := fun P => (Obj.mk Value.none none (Data.fields #[(Value.int 1 0), (Value.int 0 0), (Value.ref 20), (Value.int 5 0), (Value.int 0 0), (Value.ref 27), (Value.int 7 0), (Value.int 0 0), (Value.ref 34), (Value.int 16 0), (Value.int 0 0), (Value.ref 41), (Value.int 18 0), (Value.int 0 0), (Value.ref 48), (Value.int 20 0), (Value.int 0 0), (Value.ref 55)]) #[])
noncomputable def ob4 : Params → Obj := fun P => (Obj.mk (Value.type "tuple") none (Data.seq #[(Value.str (Str.ofString "k") 190)] 0) #[])
noncomputable def ob5 : Params → Obj := fun P => (Obj.mk Value.none none (Data.func (FuncData.mk (Str.ofString "_wall") (Str.ofString "_wall") (sA (pst 0)) (FuncBody.stmts (sB (pst 0))) (sS (pst 0)) 0 [] Value.none Value.none Value.none Value.none none Value.none Value.none 0)) #[])
noncomputable def ob6 : Params → Obj := fun P => (Obj.mk (Value.type "code") none (Data.fields #[(Value.str (Str.ofString "_wall") 187), (Value.str (Str.ofString "_wall") 188), (Value.str (Str.ofString "/claim/cut.py") 189), (Value.int 1 0), (Value.int 1 0), (Value.int 0 0), (Value.int 0 0), (Value.int 3 0), (Value.ref 15), (Value.bool Bool.true), (Value.int 181 0), (Value.ref 16), Value.none, (Value.ref 17), (Value.ref 18), (Value.ref 19), (Value.int 191 0), (Value.int 1 0), (Value.str (Str.ofString "/claim/cut.py") 192)]) #[])
noncomputable def ob7 : Params → Obj := fun P => (Obj.mk (Value.type "function") none (Data.func (FuncData.mk (Str.ofString "_wall") (Str.ofString "_wall") (sA (pst 0)) (FuncBody.stmts (sB (pst 0))) (sS (pst 0)) 3 [] Value.none Value.none Value.none (Value.str (Str.ofString "__main__") 164) none (Value.ref 20) Value.none 0)) #[])
noncomputable def ob8 : Params → Obj := fun P => (Obj.mk (Value.type "tuple") none (Data.seq #[(Value.str (Str.ofString "mode") 199)] 0) #[])
noncomputable def ob9 : Params → Obj := fun P => (Obj.mk Value.none none (Data.func (FuncData.mk (Str.ofString "S_IMODE") (Str.ofString "S_IMODE") (sA (pst 2)) (FuncBody.stmts (sB (pst 2))) (sS (pst 2)) 0 [] Value.none Value.none Value.none Value.none none Value.none Value.none 0)) #[])
noncomputable def ob10 : Params → Obj := fun P => (Obj.mk (Value.type "code") none (Data.fields #[(Value.str (Str.ofString "S_IMODE") 196), (Value.str (Str.ofString "S_IMODE") 197), (Value.str (Str.ofString "/claim/cut.py") 198), (Value.int 5 0), (Value.int 1 0), (Value.int 0 0), (Value.int 0 0), (Value.int 3 0), (Value.ref 22), (Value.bool Bool.true), (Value.int 181 0), (Value.ref 23), Value.none, (Value.ref 24), (Value.ref 25), (Value.ref 26), (Value.int 200 0), (Value.int 5 0), (Value.str (Str.ofString "/claim/cut.py") 201)]) #[])
noncomputable def ob11 : Params → Obj := fun P => (Obj.mk (Value.type "function") none (Data.func (FuncData.mk (Str.ofString "S_IMODE") (Str.ofString "S_IMODE") (sA (pst 2)) (FuncBody.stmts (sB (pst 2))) (sS (pst 2)) 3 [] Value.none Value.none Value.none (Value.str (Str.ofString "cpy313.stat") 194) none (Value.ref 27) Value.none 0)) #[])
noncomputable def ob12 : Params → Obj := fun P => (Obj.mk (Value.type "tuple") none (Data.seq #[(Value.str (Str.ofString "mode") 206)] 0) #[])
noncomputable def ob13 : Params → Obj := fun P => (Obj.mk Value.none none (Data.func (FuncData.mk (Str.ofString "S_IFMT") (Str.ofString "S_IFMT") (sA (pst 3)) (FuncBody.stmts (sB (pst 3))) (sS (pst 2)) 0 [] Value.none Value.none Value.none Value.none none Value.none Value.none 0)) #[])
noncomputable def ob14 : Params → Obj := fun P => (Obj.mk (Value.type "code") none (Data.fields #[(Value.str (Str.ofString "S_IFMT") 203), (Value.str (Str.ofString "S_IFMT") 204), (Value.str (Str.ofString "/claim/cut.py") 205), (Value.int 7 0), (Value.int 1 0), (Value.int 0 0), (Value.int 0 0), (Value.int 3 0), (Value.ref 29), (Value.bool Bool.true), (Value.int 181 0), (Value.ref 30), Value.none, (Value.ref 31), (Value.ref 32), (Value.ref 33), (Value.int 207 0), (Value.int 7 0), (Value.str (Str.ofString "/claim/cut.py") 208)]) #[])
noncomputable def ob15 : Params → Obj := fun P => (Obj.mk (Value.type "function") none (Data.func (FuncData.mk (Str.ofString "S_IFMT") (Str.ofString "S_IFMT") (sA (pst 3)) (FuncBody.stmts (sB (pst 3))) (sS (pst 2)) 3 [] Value.none Value.none Value.none (Value.str (Str.ofString "cpy313.stat") 194) none (Value.ref 34) Value.none 0)) #[])
noncomputable def ob16 : Params → Obj := fun P => (Obj.mk (Value.type "tuple") none (Data.seq #[(Value.str (Str.ofString "mode") 227)] 0) #[])
noncomputable def ob17 : Params → Obj := fun P => (Obj.mk Value.none none (Data.func (FuncData.mk (Str.ofString "S_ISDIR") (Str.ofString "S_ISDIR") (sA (pst 11)) (FuncBody.stmts (sB (pst 11))) (sS (pst 11)) 0 [] Value.none Value.none Value.none Value.none none Value.none Value.none 0)) #[])
noncomputable def ob18 : Params → Obj := fun P => (Obj.mk (Value.type "code") none (Data.fields #[(Value.str (Str.ofString "S_ISDIR") 224), (Value.str (Str.ofString "S_ISDIR") 225), (Value.str (Str.ofString "/claim/cut.py") 226), (Value.int 16 0), (Value.int 1 0), (Value.int 0 0), (Value.int 0 0), (Value.int 3 0), (Value.ref 36), (Value.bool Bool.true), (Value.int 181 0), (Value.ref 37), Value.none, (Value.ref 38), (Value.ref 39), (Value.ref 40), (Value.int 228 0), (Value.int 16 0), (Value.str (Str.ofString "/claim/cut.py") 229)]) #[])
noncomputable def ob19 : Params → Obj := fun P => (Obj.mk (Value.type "function") none (Data.func (FuncData.mk (Str.ofString "S_ISDIR") (Str.ofString "S_ISDIR") (sA (pst 11)) (FuncBody.stmts (sB (pst 11))) (sS (pst 11)) 3 [] Value.none Value.none Value.none (Value.str (Str.ofString "cpy313.stat") 194) none (Value.ref 41) Value.none 0)) #[])
noncomputable def ob20 : Params → Obj := fun P => (Obj.mk (Value.type "tuple") none (Data.seq #[(Value.str (Str.ofString "mode") 234)] 0) #[])
noncomputable def ob21 : Params → Obj := fun P => (Obj.mk Value.none none (Data.func (FuncData.mk (Str.ofString "S_ISCHR") (Str.ofString "S_ISCHR") (sA (pst 12)) (FuncBody.stmts (sB (pst 12))) (sS (pst 12)) 0 [] Value.none Value.none Value.none Value.none none Value.none Value.none 0)) #[])
noncomputable def ob22 : Params → Obj := fun P => (Obj.mk (Value.type "code") none (Data.fields #[(Value.str (Str.ofString "S_ISCHR") 231), (Value.str (Str.ofString "S_ISCHR") 232), (Value.str (Str.ofString "/claim/cut.py") 233), (Value.int 18 0), (Value.int 1 0), (Value.int 0 0), (Value.int 0 0), (Value.int 3 0), (Value.ref 43), (Value.bool Bool.true), (Value.int 181 0), (Value.ref 44), Value.none, (Value.ref 45), (Value.ref 46), (Value.ref 47), (Value.int 235 0), (Value.int 18 0), (Value.str (Str.ofString "/claim/cut.py") 236)]) #[])
noncomputable def ob23 : Params → Obj := fun P => (Obj.mk (Value.type "function") none (Data.func (FuncData.mk (Str.ofString "S_ISCHR") (Str.ofString "S_ISCHR") (sA (pst 12)) (FuncBody.stmts (sB (pst 12))) (sS (pst 12)) 3 [] Value.none Value.none Value.none (Value.str (Str.ofString "cpy313.stat") 194) none (Value.ref 48) Value.none 0)) #[])
noncomputable def ob24 : Params → Obj := fun P => (Obj.mk (Value.type "tuple") none (Data.seq #[(Value.str (Str.ofString "mode") 241)] 0) #[])
noncomputable def ob25 : Params → Obj := fun P => (Obj.mk Value.none none (Data.func (FuncData.mk (Str.ofString "S_ISBLK") (Str.ofString "S_ISBLK") (sA (pst 13)) (FuncBody.stmts (sB (pst 13))) (sS (pst 13)) 0 [] Value.none Value.none Value.none Value.none none Value.none Value.none 0)) #[])
noncomputable def ob26 : Params → Obj := fun P => (Obj.mk (Value.type "code") none (Data.fields #[(Value.str (Str.ofString "S_ISBLK") 238), (Value.str (Str.ofString "S_ISBLK") 239), (Value.str (Str.ofString "/claim/cut.py") 240), (Value.int 20 0), (Value.int 1 0), (Value.int 0 0), (Value.int 0 0), (Value.int 3 0), (Value.ref 50), (Value.bool Bool.true), (Value.int 181 0), (Value.ref 51), Value.none, (Value.ref 52), (Value.ref 53), (Value.ref 54), (Value.int 242 0), (Value.int 20 0), (Value.str (Str.ofString "/claim/cut.py") 243)]) #[])
noncomputable def ob27 : Params → Obj := fun P => (Obj.mk (Value.type "function") none (Data.func (FuncData.mk (Str.ofString "S_ISBLK") (Str.ofString "S_ISBLK") (sA (pst 13)) (FuncBody.stmts (sB (pst 13))) (sS (pst 13)) 3 [] Value.none Value.none Value.none (Value.str (Str.ofString "cpy313.stat") 194) none (Value.ref 55) Value.none 0)) #[])
noncomputable def ob28 : Params → Obj := fun P => (Obj.mk (Value.type "dict") none (Data.dict #[(DictEntry.mk (PyData.keyHash P (Str.ofString "__name__")) (Value.str (Str.ofString "__name__") 165) (Value.str (Str.ofString "cpy313.stat") 194)), (DictEntry.mk (PyData.keyHash P (Str.ofString "__doc__")) (Value.str (Str.ofString "__doc__") 166) Value.none), (DictEntry.mk (PyData.keyHash P (Str.ofString "__package__")) (Value.str (Str.ofString "__package__") 167) Value.none), (DictEntry.mk (PyData.keyHash P (Str.ofString "__loader__")) (Value.str (Str.ofString "__loader__") 168) (Value.builtin "__main__.__loader__#opaque")), (DictEntry.mk (PyData.keyHash P (Str.ofString "__spec__")) (Value.str (Str.ofString "__spec__") 169) Value.none), (DictEntry.mk (PyData.keyHash P (Str.ofString "__annotations__")) (Value.str (Str.ofString "__annotations__") 170) (Value.ref 6)), (DictEntry.mk (PyData.keyHash P (Str.ofString "__builtins__")) (Value.str (Str.ofString "__builtins__") 171) (Value.ref 4)), (DictEntry.mk (PyData.keyHash P (Str.ofString "__file__")) (Value.str (Str.ofString "__file__") 173) (Value.str (Str.ofString "/claim/cut.py") 172)), (DictEntry.mk (PyData.keyHash P (Str.ofString "__cached__")) (Value.str (Str.ofString "__cached__") 174) Value.none), (DictEntry.mk (PyData.keyHash P (Str.ofString "_wall")) (Value.str (Str.ofString "_wall") 193) (Value.ref 21)), (DictEntry.mk (PyData.keyHash P (Str.ofString "S_IMODE")) (Value.str (Str.ofString "S_IMODE") 202) (Value.ref 28)), (DictEntry.mk (PyData.keyHash P (Str.ofString "S_IFMT")) (Value.str (Str.ofString "S_IFMT") 209) (Value.ref 35)), (DictEntry.mk (PyData.keyHash P (Str.ofString "S_IFDIR")) (Value.str (Str.ofString "S_IFDIR") 211) (Value.int 16384 210)), (DictEntry.mk (PyData.keyHash P (Str.ofString "S_IFCHR")) (Value.str (Str.ofString "S_IFCHR") 213) (Value.int 8192 212)), (DictEntry.mk (PyData.keyHash P (Str.ofString "S_IFBLK")) (Value.str (Str.ofString "S_IFBLK") 215) (Value.int 24576 214)), (DictEntry.mk (PyData.keyHash P (Str.ofString "S_IFREG")) (Value.str (Str.ofString "S_IFREG") 217) (Value.int 32768 216)), (DictEntry.mk (PyData.keyHash P (Str.ofString "S_IFIFO")) (Value.str (Str.ofString "S_IFIFO") 219) (Value.int 4096 218)), (DictEntry.mk (PyData.keyHash P (Str.ofString "S_IFLNK")) (Value.str (Str.ofString "S_IFLNK") 221) (Value.int 40960 220)), (DictEntry.mk (PyData.keyHash P (Str.ofString "S_IFSOCK")) (Value.str (Str.ofString "S_IFSOCK") 223) (Value.int 49152 222)), (DictEntry.mk (PyData.keyHash P (Str.ofString "S_ISDIR")) (Value.str (Str.ofString "S_ISDIR") 230) (Value.ref 42)), (DictEntry.mk (PyData.keyHash P (Str.ofString "S_ISCHR")) (Value.str (Str.ofString "S_ISCHR") 237) (Value.ref 49)), (DictEntry.mk (PyData.keyHash P (Str.ofString "S_ISBLK")) (Value.str (Str.ofString "S_ISBLK") 244) (Value.ref 56)), (DictEntry.mk (PyData.keyHash P (Str.ofString "S_ISREG")) (Value.str (Str.ofString "S_ISREG") 251) (Value.ref 63)), (DictEntry.mk (PyData.keyHash P (Str.ofString "S_ISFIFO")) (Value.str (Str.ofString "S_ISFIFO") 258) (Value.ref 70)), (DictEntry.mk (PyData.keyHash P (Str.ofString "S_ISLNK")) (Value.str (Str.ofString "S_ISLNK") 265) (Value.ref 77)), (DictEntry.mk (PyData.keyHash P (Str.ofString "S_ISSOCK")) (Value.str (Str.ofString "S_ISSOCK") 272) (Value.ref 84)), (DictEntry.mk (PyData.keyHash P (Str.ofString "S_ISUID")) (Value.str (Str.ofString "S_ISUID") 274) (Value.int 2048 273)), (DictEntry.mk (PyData.keyHash P (Str.ofString "S_ISGID")) (Value.str (Str.ofString "S_ISGID") 276) (Value.int 1024 275)), (DictEntry.mk (PyData.keyHash P (Str.ofString "S_ISVTX")) (Value.str (Str.ofString "S_ISVTX") 278) (Value.int 512 277)), (DictEntry.mk (PyData.keyHash P (Str.ofString "S_IRUSR")) (Value.str (Str.ofString "S_IRUSR") 280) (Value.int 256 279)), (DictEntry.mk (PyData.keyHash P (Str.ofString "S_IWUSR")) (Value.str (Str.ofString "S_IWUSR") 282) (Value.int 128 281)), (DictEntry.mk (PyData.keyHash P (Str.ofString "S_IXUSR")) (Value.str (Str.ofString "S_IXUSR") 284) (Value.int 64 283)), (DictEntry.mk (PyData.keyHash P (Str.ofString "S_IRGRP")) (Value.str (Str.ofString "S_IRGRP") 286) (Value.int 32 285)), (DictEntry.mk (PyData.keyHash P (Str.ofString "S_IWGRP")) (Value.str (Str.ofString "S_IWGRP") 288) (Value.int 16 287)), (DictEntry.mk (PyData.keyHash P (Str.ofString "S_IXGRP")) (Value.str (Str.ofString "S_IXGRP") 290) (Value.int 8 289)), (DictEntry.mk (PyData.keyHash P (Str.ofString "S_IROTH")) (Value.str (Str.ofString "S_IROTH") 292) (Value.int 4 291)), (DictEntry.mk (PyData.keyHash P (Str.ofString "S_IWOTH")) (Value.str (Str.ofString "S_IWOTH") 294) (Value.int 2 293)), (DictEntry.mk (PyData.keyHash P (Str.ofString "S_IXOTH")) (Value.str (Str.ofString "S_IXOTH") 296) (Value.int 1 295))] 38) #[])
noncomputable def ob29 : Params → Obj := fun P => (Obj.mk Value.none none (Data.fields #[(Value.int 1 0), (Value.int 0 0), (Value.ref 20), (Value.int 5 0), (Value.int 0 0), (Value.ref 27), (Value.int 7 0), (Value.int 0 0), (Value.ref 34), (Value.int 16 0), (Value.int 0 0), (Value.ref 41), (Value.int 18 0), (Value.int 0 0), (Value.ref 48), (Value.int 20 0), (Value.int 0 0), (Value.ref 55), (Value.int 22 0), (Value.int 0 0), (Value.ref 62), (Value.int 24 0), (Value.int 0 0), (Value.ref 69), (Value.int 26 0), (Value.int 0 0), (Value.ref 76), (Value.int 28 0), (Value.int 0 0), (Value.ref 83)]) #[])
noncomputable def ob30 : Params → Obj := fun P => (Obj.mk (Value.type "tuple") none (Data.seq #[(Value.str (Str.ofString "mode") 248)] 0) #[])
noncomputable def ob31 : Params → Obj := fun P => (Obj.mk Value.none none (Data.func (FuncData.mk (Str.ofString "S_ISREG") (Str.ofString "S_ISREG") (sA (pst 14)) (FuncBody.stmts (sB (pst 14))) (sS (pst 14)) 0 [] Value.none Value.none Value.none Value.none none Value.none Value.none 0)) #[])
noncomputable def ob32 : Params → Obj := fun P => (Obj.mk (Value.type "code") none (Data.fields #[(Value.str (Str.ofString "S_ISREG") 245), (Value.str (Str.ofString "S_ISREG") 246), (Value.str (Str.ofString "/claim/cut.py") 247), (Value.int 22 0), (Value.int 1 0), (Value.int 0 0), (Value.int 0 0), (Value.int 3 0), (Value.ref 57), (Value.bool Bool.true), (Value.int 181 0), (Value.ref 58), Value.none, (Value.ref 59), (Value.ref 60), (Value.ref 61), (Value.int 249 0), (Value.int 22 0), (Value.str (Str.ofString "/claim/cut.py") 250)]) #[])
noncomputable def ob33 : Params → Obj := fun P => (Obj.mk (Value.type "function") none (Data.func (FuncData.mk (Str.ofString "S_ISREG") (Str.ofString "S_ISREG") (sA (pst 14)) (FuncBody.stmts (sB (pst 14))) (sS (pst 14)) 3 [] Value.none Value.none Value.none (Value.str (Str.ofString "cpy313.stat") 194) none (Value.ref 62) Value.none 0)) #[])
noncomputable def ob34 : Params → Obj := fun P => (Obj.mk (Value.type "tuple") none (Data.seq #[(Value.str (Str.ofString "mode") 255)] 0) #[])
noncomputable def ob35 : Params → Obj := fun P => (Obj.mk Value.none none (Data.func (FuncData.mk (Str.ofString "S_ISFIFO") (Str.ofString "S_ISFIFO") (sA (pst 15)) (FuncBody.stmts (sB (pst 15))) (sS (pst 15)) 0 [] Value.none Value.none Value.none Value.none none Value.none Value.none 0)) #[])
noncomputable def ob36 : Params → Obj := fun P => (Obj.mk (Value.type "code") none (Data.fields #[(Value.str (Str.ofString "S_ISFIFO") 252), (Value.str (Str.ofString "S_ISFIFO") 253), (Value.str (Str.ofString "/claim/cut.py") 254), (Value.int 24 0), (Value.int 1 0), (Value.int 0 0), (Value.int 0 0), (Value.int 3 0), (Value.ref 64), (Value.bool Bool.true), (Value.int 181 0), (Value.ref 65), Value.none, (Value.ref 66), (Value.ref 67), (Value.ref 68), (Value.int 256 0), (Value.int 24 0), (Value.str (Str.ofString "/claim/cut.py") 257)]) #[])
noncomputable def ob37 : Params → Obj := fun P => (Obj.mk (Value.type "function") none (Data.func (FuncData.mk (Str.ofString "S_ISFIFO") (Str.ofString "S_ISFIFO") (sA (pst 15)) (FuncBody.stmts (sB (pst 15))) (sS (pst 15)) 3 [] Value.none Value.none Value.none (Value.str (Str.ofString "cpy313.stat") 194) none (Value.ref 69) Value.none 0)) #[])
noncomputable def ob38 : Params → Obj := fun P => (Obj.mk (Value.type "tuple") none (Data.seq #[(Value.str (Str.ofString "mode") 262)] 0) #[])
noncomputable def ob39 : Params → Obj := fun P => (Obj.mk Value.none none (Data.func (FuncData.mk (Str.ofString "S_ISLNK") (Str.ofString "S_ISLNK") (sA (pst 16)) (FuncBody.stmts (sB (pst 16))) (sS (pst 16)) 0 [] Value.none Value.none Value.none Value.none none Value.none Value.none 0)) #[])
noncomputable def ob40 : Params → Obj := fun P => (Obj.mk (Value.type "code") none (Data.fields #[(Value.str (Str.ofString "S_ISLNK") 259), (Value.str (Str.ofString "S_ISLNK") 260), (Value.str (Str.ofString "/claim/cut.py") 261), (Value.int 26 0), (Value.int 1 0), (Value.int 0 0), (Value.int 0 0), (Value.int 3 0), (Value.ref 71), (Value.bool Bool.true), (Value.int 181 0), (Value.ref 72), Value.none, (Value.ref 73), (Value.ref 74), (Value.ref 75), (Value.int 263 0), (Value.int 26 0), (Value.str (Str.ofString "/claim/cut.py") 264)]) #[])
noncomputable def ob41 : Params → Obj := fun P => (Obj.mk (Value.type "function") none (Data.func (FuncData.mk (Str.ofString "S_ISLNK") (Str.ofString "S_ISLNK") (sA (pst 16)) (FuncBody.stmts (sB (pst 16))) (sS (pst 16)) 3 [] Value.none Value.none Value.none (Value.str (Str.ofString "cpy313.stat") 194) none (Value.ref 76) Value.none 0)) #[])
noncomputable def ob42 : Params → Obj := fun P => (Obj.mk (Value.type "tuple") none (Data.seq #[(Value.str (Str.ofString "mode") 269)] 0) #[])
noncomputable def ob43 : Params → Obj := fun P => (Obj.mk Value.none none (Data.func (FuncData.mk (Str.ofString "S_ISSOCK") (Str.ofString "S_ISSOCK") (sA (pst 17)) (FuncBody.stmts (sB (pst 17))) (sS (pst 17)) 0 [] Value.none Value.none Value.none Value.none none Value.none Value.none 0)) #[])
noncomputable def ob44 : Params → Obj := fun P => (Obj.mk (Value.type "code") none (Data.fields #[(Value.str (Str.ofString "S_ISSOCK") 266), (Value.str (Str.ofString "S_ISSOCK") 267), (Value.str (Str.ofString "/claim/cut.py") 268), (Value.int 28 0), (Value.int 1 0), (Value.int 0 0), (Value.int 0 0), (Value.int 3 0), (Value.ref 78), (Value.bool Bool.true), (Value.int 181 0), (Value.ref 79), Value.none, (Value.ref 80), (Value.ref 81), (Value.ref 82), (Value.int 270 0), (Value.int 28 0), (Value.str (Str.ofString "/claim/cut.py") 271)]) #[])
noncomputable def ob45 : Params → Obj := fun P => (Obj.mk (Value.type "function") none (Data.func (FuncData.mk (Str.ofString "S_ISSOCK") (Str.ofString "S_ISSOCK") (sA (pst 17)) (FuncBody.stmts (sB (pst 17))) (sS (pst 17)) 3 [] Value.none Value.none Value.none (Value.str (Str.ofString "cpy313.stat") 194) none (Value.ref 83) Value.none 0)) #[])
noncomputable def ob46 : Params → Obj := fun P => (Obj.mk (Value.type "dict") none (Data.dict (List.toArray ((DictEntry.mk (PyData.keyHash P (Str.ofString "__name__")) (Value.str (Str.ofString "__name__") 165) (Value.str (Str.ofString "binascii") 335)) :: (DictEntry.mk (PyData.keyHash P (Str.ofString "__doc__")) (Value.str (Str.ofString "__doc__") 166) Value.none) :: (DictEntry.mk (PyData.keyHash P (Str.ofString "__package__")) (Value.str (Str.ofString "__package__") 167) Value.none) :: (DictEntry.mk (PyData.keyHash P (Str.ofString "__loader__")) (Value.str (Str.ofString "__loader__") 168) (Value.builtin "__main__.__loader__#opaque")) :: (DictEntry.mk (PyData.keyHash P (Str.ofString "__spec__")) (Value.str (Str.ofString "__spec__") 169) Value.none) :: (DictEntry.mk (PyData.keyHash P (Str.ofString "__annotations__")) (Value.str (Str.ofString "__annotations__") 170) (Value.ref 6)) :: (DictEntry.mk (PyData.keyHash P (Str.ofString "__builtins__")) (Value.str (Str.ofString "__builtins__") 171) (Value.ref 4)) :: (DictEntry.mk (PyData.keyHash P (Str.ofString "__file__")) (Value.str (Str.ofString "__file__") 173) (Value.str (Str.ofString "/claim/cut.py") 172)) :: (DictEntry.mk (PyData.keyHash P (Str.ofString "__cached__")) (Value.str (Str.ofString "__cached__") 174) Value.none) :: (DictEntry.mk (PyData.keyHash P (Str.ofString "_wall")) (Value.str (Str.ofString "_wall") 193) (Value.ref 21)) :: (DictEntry.mk (PyData.keyHash P (Str.ofString "S_IMODE")) (Value.str (Str.ofString "S_IMODE") 202) (Value.ref 28)) :: (DictEntry.mk (PyData.keyHash P (Str.ofString "S_IFMT")) (Value.str (Str.ofString "S_IFMT") 209) (Value.ref 35)) :: (DictEntry.mk (PyData.keyHash P (Str.ofString "S_IFDIR")) (Value.str (Str.ofString "S_IFDIR") 211) (Value.int 16384 210)) :: (DictEntry.mk (PyData.keyHash P (Str.ofString "S_IFCHR")) (Value.str (Str.ofString "S_IFCHR") 213) (Value.int 8192 212)) :: (DictEntry.mk (PyData.keyHash P (Str.ofString "S_IFBLK")) (Value.str (Str.ofString "S_IFBLK") 215) (Value.int 24576 214)) :: (DictEntry.mk (PyData.keyHash P (Str.ofString "S_IFREG")) (Value.str (Str.ofString "S_IFREG") 217) (Value.int 32768 216)) :: (DictEntry.mk (PyData.keyHash P (Str.ofString "S_IFIFO")) (Value.str (Str.ofString "S_IFIFO") 219) (Value.int 4096 218)) :: (DictEntry.mk (PyData.keyHash P (Str.ofString "S_IFLNK")) (Value.str (Str.ofString "S_IFLNK") 221) (Value.int 40960 220)) :: (DictEntry.mk (PyData.keyHash P (Str.ofString "S_IFSOCK")) (Value.str (Str.ofString "S_IFSOCK") 223) (Value.int 49152 222)) :: (DictEntry.mk (PyData.keyHash P (Str.ofString "S_ISDIR")) (Value.str (Str.ofString "S_ISDIR") 230) (Value.ref 42)) :: (DictEntry.mk (PyData.keyHash P (Str.ofString "S_ISCHR")) (Value.str (Str.ofString "S_ISCHR") 237) (Value.ref 49)) :: (DictEntry.mk (PyData.keyHash P (Str.ofString "S_ISBLK")) (Value.str (Str.ofString "S_ISBLK") 244) (Value.ref 56)) :: (DictEntry.mk (PyData.keyHash P (Str.ofString "S_ISREG")) (Value.str (Str.ofString "S_ISREG") 251) (Value.ref 63)) :: (DictEntry.mk (PyData.keyHash P (Str.ofString "S_ISFIFO")) (Value.str (Str.ofString "S_ISFIFO") 258) (Value.ref 70)) :: (DictEntry.mk (PyData.keyHash P (Str.ofString "S_ISLNK")) (Value.str (Str.ofString "S_ISLNK") 265) (Value.ref 77)) :: (DictEntry.mk (PyData.keyHash P (Str.ofString "S_ISSOCK")) (Value.str (Str.ofString "S_ISSOCK") 272) (Value.ref 84)) :: (DictEntry.mk (PyData.keyHash P (Str.ofString "S_ISUID")) (Value.str (Str.ofString "S_ISUID") 274) (Value.int 2048 273)) :: (DictEntry.mk (PyData.keyHash P (Str.ofString "S_ISGID")) (Value.str (Str.ofString "S_ISGID") 276) (Value.int 1024 275)) :: (DictEntry.mk (PyData.keyHash P (Str.ofString "S_ISVTX")) (Value.str (Str.ofString "S_ISVTX") 278) (Value.int 512 277)) :: (DictEntry.mk (PyData.keyHash P (Str.ofString "S_IRUSR")) (Value.str (Str.ofString "S_IRUSR") 280) (Value.int 256 279)) :: (DictEntry.mk (PyData.keyHash P (Str.ofString "S_IWUSR")) (Value.str (Str.ofString "S_IWUSR") 282) (Value.int 128 281)) :: (DictEntry.mk (PyData.keyHash P (Str.ofString "S_IXUSR")) (Value.str (Str.ofString "S_IXUSR") 284) (Value.int 64 283)) :: (DictEntry.mk (PyData.keyHash P (Str.ofString "S_IRGRP")) (Value.str (Str.ofString "S_IRGRP") 286) (Value.int 32 285)) :: (DictEntry.mk (PyData.keyHash P (Str.ofString "S_IWGRP")) (Value.str (Str.ofString "S_IWGRP") 288) (Value.int 16 287)) :: (DictEntry.mk (PyData.keyHash P (Str.ofString "S_IXGRP")) (Value.str (Str.ofString "S_IXGRP") 290) (Value.int 8 289)) :: (DictEntry.mk (PyData.keyHash P (Str.ofString "S_IROTH")) (Value.str (Str.ofString "S_IROTH") 292) (Value.int 4 291)) :: (DictEntry.mk (PyData.keyHash P (Str.ofString "S_IWOTH")) (Value.str (Str.ofString "S_IWOTH") 294) (Value.int 2 293)) :: (DictEntry.mk (PyData.keyHash P (Str.ofString "S_IXOTH")) (Value.str (Str.ofString "S_IXOTH") 296) (Value.int 1 295)) :: (DictEntry.mk (PyData.keyHash P (Str.ofString "_filemode_table")) (Value.str (Str.ofString "_filemode_table") 322) (Value.ref 117)) :: (DictEntry.mk (PyData.keyHash P (Str.ofString "filemode")) (Value.str (Str.ofString "filemode") 334) (Value.ref 124)) :: (DictEntry.mk (PyData.keyHash P (Str.ofString "_buffer")) (Value.str (Str.ofString "_buffer") 344) (Value.ref 131)) :: [])) 41) #[])
noncomputable def ob47 : Params → Obj := fun P => (Obj.mk Value.none none (Data.fields #[(Value.int 1 0), (Value.int 0 0), (Value.ref 20), (Value.int 5 0), (Value.int 0 0), (Value.ref 27), (Value.int 7 0), (Value.int 0 0), (Value.ref 34), (Value.int 16 0), (Value.int 0 0), (Value.ref 41), (Value.int 18 0), (Value.int 0 0), (Value.ref 48), (Value.int 20 0), (Value.int 0 0), (Value.ref 55), (Value.int 22 0), (Value.int 0 0), (Value.ref 62), (Value.int 24 0), (Value.int 0 0), (Value.ref 69), (Value.int 26 0), (Value.int 0 0), (Value.ref 76), (Value.int 28 0), (Value.int 0 0), (Value.ref 83), (Value.int 43 0), (Value.int 0 0), (Value.ref 123), (Value.int 61 0), (Value.int 0 0), (Value.ref 130)]) #[])
noncomputable def ob48 : Params → Obj := fun P => (Obj.mk (Value.type "tuple") none (Data.seq #[(Value.int 40960 220), (Value.str (Str.ofString "l") 297)] 0) #[])
noncomputable def ob49 : Params → Obj := fun P => (Obj.mk (Value.type "tuple") none (Data.seq #[(Value.int 49152 222), (Value.str (Str.ofString "s") 298)] 0) #[])
noncomputable def ob50 : Params → Obj := fun P => (Obj.mk (Value.type "tuple") none (Data.seq #[(Value.int 32768 216), (Value.str (Str.ofString "-") 299)] 0) #[])
noncomputable def ob51 : Params → Obj := fun P => (Obj.mk (Value.type "tuple") none (Data.seq #[(Value.int 24576 214), (Value.str (Str.ofString "b") 300)] 0) #[])
noncomputable def ob52 : Params → Obj := fun P => (Obj.mk (Value.type "tuple") none (Data.seq #[(Value.int 16384 210), (Value.str (Str.ofString "d") 301)] 0) #[])
noncomputable def ob53 : Params → Obj := fun P => (Obj.mk (Value.type "tuple") none (Data.seq #[(Value.int 8192 212), (Value.str (Str.ofString "c") 302)] 0) #[])
noncomputable def ob54 : Params → Obj := fun P => (Obj.mk (Value.type "tuple") none (Data.seq #[(Value.int 4096 218), (Value.str (Str.ofString "p") 303)] 0) #[])
noncomputable def ob55 : Params → Obj := fun P => (Obj.mk (Value.type "tuple") none (Data.seq #[(Value.ref 85), (Value.ref 86), (Value.ref 87), (Value.ref 88), (Value.ref 89), (Value.ref 90), (Value.ref 91)] 0) #[])
noncomputable def ob56 : Params → Obj := fun P => (Obj.mk (Value.type "tuple") none (Data.seq #[(Value.int 256 279), (Value.str (Str.ofString "r") 304)] 0) #[])
noncomputable def ob57 : Params → Obj := fun P => (Obj.mk (Value.type "tuple") none (Data.seq #[(Value.ref 93)] 0) #[])
noncomputable def ob58 : Params → Obj := fun P => (Obj.mk (Value.type "tuple") none (Data.seq #[(Value.int 128 281), (Value.str (Str.ofString "w") 305)] 0) #[])
noncomputable def ob59 : Params → Obj := fun P => (Obj.mk (Value.type "tuple") none (Data.seq #[(Value.ref 95)] 0) #[])
noncomputable def ob60 : Params → Obj := fun P => (Obj.mk (Value.type "tuple") none (Data.seq #[(Value.int 2112 306), (Value.str (Str.ofString "s") 307)] 0) #[])
noncomputable def ob61 : Params → Obj := fun P => (Obj.mk (Value.type "tuple") none (Data.seq #[(Value.int 2048 273), (Value.str (Str.ofString "S") 308)] 0) #[])
noncomputable def ob62 : Params → Obj := fun P => (Obj.mk (Value.type "tuple") none (Data.seq #[(Value.int 64 283), (Value.str (Str.ofString "x") 309)] 0) #[])
noncomputable def ob63 : Params → Obj := fun P => (Obj.mk (Value.type "tuple") none (Data.seq #[(Value.ref 97), (Value.ref 98), (Value.ref 99)] 0) #[])
noncomputable def ob64 : Params → Obj := fun P => (Obj.mk (Value.type "tuple") none (Data.seq #[(Value.int 32 285), (Value.str (Str.ofString "r") 310)] 0) #[])
noncomputable def ob65 : Params → Obj := fun P => (Obj.mk (Value.type "tuple") none (Data.seq #[(Value.ref 101)] 0) #[])
noncomputable def ob66 : Params → Obj := fun P => (Obj.mk (Value.type "tuple") none (Data.seq #[(Value.int 16 287), (Value.str (Str.ofString "w") 311)] 0) #[])
noncomputable def ob67 : Params → Obj := fun P => (Obj.mk (Value.type "tuple") none (Data.seq #[(Value.ref 103)] 0) #[])
noncomputable def ob68 : Params → Obj := fun P => (Obj.mk (Value.type "tuple") none (Data.seq #[(Value.int 1032 312), (Value.str (Str.ofString "s") 313)] 0) #[])
noncomputable def ob69 : Params → Obj := fun P => (Obj.mk (Value.type "tuple") none (Data.seq #[(Value.int 1024 275), (Value.str (Str.ofString "S") 314)] 0) #[])
noncomputable def ob70 : Params → Obj := fun P => (Obj.mk (Value.type "tuple") none (Data.seq #[(Value.int 8 289), (Value.str (Str.ofString "x") 315)] 0) #[])
noncomputable def ob71 : Params → Obj := fun P => (Obj.mk (Value.type "tuple") none (Data.seq #[(Value.ref 105), (Value.ref 106), (Value.ref 107)] 0) #[])
noncomputable def ob72 : Params → Obj := fun P => (Obj.mk (Value.type "tuple") none (Data.seq #[(Value.int 4 291), (Value.str (Str.ofString "r") 316)] 0) #[])
noncomputable def ob73 : Params → Obj := fun P => (Obj.mk (Value.type "tuple") none (Data.seq #[(Value.ref 109)] 0) #[])
noncomputable def ob74 : Params → Obj := fun P => (Obj.mk (Value.type "tuple") none (Data.seq #[(Value.int 2 293), (Value.str (Str.ofString "w") 317)] 0) #[])
noncomputable def ob75 : Params → Obj := fun P => (Obj.mk (Value.type "tuple") none (Data.seq #[(Value.ref 111)] 0) #[])
noncomputable def ob76 : Params → Obj := fun P => (Obj.mk (Value.type "tuple") none (Data.seq #[(Value.int 513 318), (Value.str (Str.ofString "t") 319)] 0) #[])
noncomputable def ob77 : Params → Obj := fun P => (Obj.mk (Value.type "tuple") none (Data.seq #[(Value.int 512 277), (Value.str (Str.ofString "T") 320)] 0) #[])
noncomputable def ob78 : Params → Obj := fun P => (Obj.mk (Value.type "tuple") none (Data.seq #[(Value.int 1 295), (Value.str (Str.ofString "x") 321)] 0) #[])
noncomputable def ob79 : Params → Obj := fun P => (Obj.mk (Value.type "tuple") none (Data.seq #[(Value.ref 113), (Value.ref 114), (Value.ref 115)] 0) #[])
noncomputable def ob80 : Params → Obj := fun P => (Obj.mk (Value.type "tuple") none (Data.seq #[(Value.ref 92), (Value.ref 94), (Value.ref 96), (Value.ref 100), (Value.ref 102), (Value.ref 104), (Value.ref 108), (Value.ref 110), (Value.ref 112), (Value.ref 116)] 0) #[])
noncomputable def ob81 : Params → Obj := fun P => (Obj.mk (Value.type "tuple") none (Data.seq #[(Value.str (Str.ofString "mode") 326), (Value.str (Str.ofString "perm") 327), (Value.str (Str.ofString "index") 328), (Value.str (Str.ofString "table") 329), (Value.str (Str.ofString "bit") 330), (Value.str (Str.ofString "char") 331)] 0) #[])
noncomputable def ob82 : Params → Obj := fun P => (Obj.mk Value.none none (Data.func (FuncData.mk (Str.ofString "filemode") (Str.ofString "filemode") (sA (pst 31)) (FuncBody.stmts (sB (pst 31))) (sS (pst 31)) 0 [] Value.none Value.none Value.none Value.none none Value.none Value.none 0)) #[])
noncomputable def ob83 : Params → Obj := fun P => (Obj.mk (Value.type "code") none (Data.fields #[(Value.str (Str.ofString "filemode") 323), (Value.str (Str.ofString "filemode") 324), (Value.str (Str.ofString "/claim/cut.py") 325), (Value.int 43 0), (Value.int 1 0), (Value.int 0 0), (Value.int 0 0), (Value.int 3 0), (Value.ref 118), (Value.bool Bool.true), (Value.int 181 0), (Value.ref 119), Value.none, (Value.ref 120), (Value.ref 121), (Value.ref 122), (Value.int 332 0), (Value.int 43 0), (Value.str (Str.ofString "/claim/cut.py") 333)]) #[])
noncomputable def ob84 : Params → Obj := fun P => (Obj.mk (Value.type "function") none (Data.func (FuncData.mk (Str.ofString "filemode") (Str.ofString "filemode") (sA (pst 31)) (FuncBody.stmts (sB (pst 31))) (sS (pst 31)) 3 [] Value.none Value.none Value.none (Value.str (Str.ofString "cpy313.stat") 194) none (Value.ref 123) Value.none 0)) #[])
noncomputable def ob85 : Params → Obj := fun P => (Obj.mk (Value.type "tuple") none (Data.seq #[(Value.str (Str.ofString "data") 340), (Value.str (Str.ofString "t") 341)] 0) #[])
noncomputable def ob86 : Params → Obj := fun P => (Obj.mk Value.none none (Data.func (FuncData.mk (Str.ofString "_buffer") (Str.ofString "_buffer") (sA (pst 33)) (FuncBody.stmts (sB (pst 33))) (sS (pst 33)) 0 [] Value.none Value.none Value.none Value.none none Value.none Value.none 0)) #[])
noncomputable def ob87 : Params → Obj := fun P => (Obj.mk (Value.type "code") none (Data.fields #[(Value.str (Str.ofString "_buffer") 337), (Value.str (Str.ofString "_buffer") 338), (Value.str (Str.ofString "/claim/cut.py") 339), (Value.int 61 0), (Value.int 1 0), (Value.int 0 0), (Value.int 0 0), (Value.int 3 0), (Value.ref 125), (Value.bool Bool.true), (Value.int 181 0), (Value.ref 126), Value.none, (Value.ref 127), (Value.ref 128), (Value.ref 129), (Value.int 342 0), (Value.int 61 0), (Value.str (Str.ofString "/claim/cut.py") 343)]) #[])
noncomputable def ob88 : Params → Obj := fun P => (Obj.mk (Value.type "function") none (Data.func (FuncData.mk (Str.ofString "_buffer") (Str.ofString "_buffer") (sA (pst 33)) (FuncBody.stmts (sB (pst 33))) (sS (pst 33)) 3 [] Value.none Value.none Value.none (Value.str (Str.ofString "binascii") 335) none (Value.ref 130) Value.none 0)) #[])
noncomputable def ob89 : Params → Obj := fun P => (Obj.mk (Value.type "dict") none (Data.dict (List.toArray ((DictEntry.mk (PyData.keyHash P (Str.ofString "__name__")) (Value.str (Str.ofString "__name__") 165) (Value.str (Str.ofString "os.path") 382)) :: (DictEntry.mk (PyData.keyHash P (Str.ofString "__doc__")) (Value.str (Str.ofString "__doc__") 166) Value.none) :: (DictEntry.mk (PyData.keyHash P (Str.ofString "__package__")) (Value.str (Str.ofString "__package__") 167) Value.none) :: (DictEntry.mk (PyData.keyHash P (Str.ofString "__loader__")) (Value.str (Str.ofString "__loader__") 168) (Value.builtin "__main__.__loader__#opaque")) :: (DictEntry.mk (PyData.keyHash P (Str.ofString "__spec__")) (Value.str (Str.ofString "__spec__") 169) Value.none) :: (DictEntry.mk (PyData.keyHash P (Str.ofString "__annotations__")) (Value.str (Str.ofString "__annotations__") 170) (Value.ref 6)) :: (DictEntry.mk (PyData.keyHash P (Str.ofString "__builtins__")) (Value.str (Str.ofString "__builtins__") 171) (Value.ref 4)) :: (DictEntry.mk (PyData.keyHash P (Str.ofString "__file__")) (Value.str (Str.ofString "__file__") 173) (Value.str (Str.ofString "/claim/cut.py") 172)) :: (DictEntry.mk (PyData.keyHash P (Str.ofString "__cached__")) (Value.str (Str.ofString "__cached__") 174) Value.none) :: (DictEntry.mk (PyData.keyHash P (Str.ofString "_wall")) (Value.str (Str.ofString "_wall") 193) (Value.ref 21)) :: (DictEntry.mk (PyData.keyHash P (Str.ofString "S_IMODE")) (Value.str (Str.ofString "S_IMODE") 202) (Value.ref 28)) :: (DictEntry.mk (PyData.keyHash P (Str.ofString "S_IFMT")) (Value.str (Str.ofString "S_IFMT") 209) (Value.ref 35)) :: (DictEntry.mk (PyData.keyHash P (Str.ofString "S_IFDIR")) (Value.str (Str.ofString "S_IFDIR") 211) (Value.int 16384 210)) :: (DictEntry.mk (PyData.keyHash P (Str.ofString "S_IFCHR")) (Value.str (Str.ofString "S_IFCHR") 213) (Value.int 8192 212)) :: (DictEntry.mk (PyData.keyHash P (Str.ofString "S_IFBLK")) (Value.str (Str.ofString "S_IFBLK") 215) (Value.int 24576 214)) :: (DictEntry.mk (PyData.keyHash P (Str.ofString "S_IFREG")) (Value.str (Str.ofString "S_IFREG") 217) (Value.int 32768 216)) :: (DictEntry.mk (PyData.keyHash P (Str.ofString "S_IFIFO")) (Value.str (Str.ofString "S_IFIFO") 219) (Value.int 4096 218)) :: (DictEntry.mk (PyData.keyHash P (Str.ofString "S_IFLNK")) (Value.str (Str.ofString "S_IFLNK") 221) (Value.int 40960 220)) :: (DictEntry.mk (PyData.keyHash P (Str.ofString "S_IFSOCK")) (Value.str (Str.ofString "S_IFSOCK") 223) (Value.int 49152 222)) :: (DictEntry.mk (PyData.keyHash P (Str.ofString "S_ISDIR")) (Value.str (Str.ofString "S_ISDIR") 230) (Value.ref 42)) :: (DictEntry.mk (PyData.keyHash P (Str.ofString "S_ISCHR")) (Value.str (Str.ofString "S_ISCHR") 237) (Value.ref 49)) :: (DictEntry.mk (PyData.keyHash P (Str.ofString "S_ISBLK")) (Value.str (Str.ofString "S_ISBLK") 244) (Value.ref 56)) :: (DictEntry.mk (PyData.keyHash P (Str.ofString "S_ISREG")) (Value.str (Str.ofString "S_ISREG") 251) (Value.ref 63)) :: (DictEntry.mk (PyData.keyHash P (Str.ofString "S_ISFIFO")) (Value.str (Str.ofString "S_ISFIFO") 258) (Value.ref 70)) :: (DictEntry.mk (PyData.keyHash P (Str.ofString "S_ISLNK")) (Value.str (Str.ofString "S_ISLNK") 265) (Value.ref 77)) :: (DictEntry.mk (PyData.keyHash P (Str.ofString "S_ISSOCK")) (Value.str (Str.ofString "S_ISSOCK") 272) (Value.ref 84)) :: (DictEntry.mk (PyData.keyHash P (Str.ofString "S_ISUID")) (Value.str (Str.ofString "S_ISUID") 274) (Value.int 2048 273)) :: (DictEntry.mk (PyData.keyHash P (Str.ofString "S_ISGID")) (Value.str (Str.ofString "S_ISGID") 276) (Value.int 1024 275)) :: (DictEntry.mk (PyData.keyHash P (Str.ofString "S_ISVTX")) (Value.str (Str.ofString "S_ISVTX") 278) (Value.int 512 277)) :: (DictEntry.mk (PyData.keyHash P (Str.ofString "S_IRUSR")) (Value.str (Str.ofString "S_IRUSR") 280) (Value.int 256 279)) :: (DictEntry.mk (PyData.keyHash P (Str.ofString "S_IWUSR")) (Value.str (Str.ofString "S_IWUSR") 282) (Value.int 128 281)) :: (DictEntry.mk (PyData.keyHash P (Str.ofString "S_IXUSR")) (Value.str (Str.ofString "S_IXUSR") 284) (Value.int 64 283)) :: (DictEntry.mk (PyData.keyHash P (Str.ofString "S_IRGRP")) (Value.str (Str.ofString "S_IRGRP") 286) (Value.int 32 285)) :: (DictEntry.mk (PyData.keyHash P (Str.ofString "S_IWGRP")) (Value.str (Str.ofString "S_IWGRP") 288) (Value.int 16 287)) :: (DictEntry.mk (PyData.keyHash P (Str.ofString "S_IXGRP")) (Value.str (Str.ofString "S_IXGRP") 290) (Value.int 8 289)) :: (DictEntry.mk (PyData.keyHash P (Str.ofString "S_IROTH")) (Value.str (Str.ofString "S_IROTH") 292) (Value.int 4 291)) :: (DictEntry.mk (PyData.keyHash P (Str.ofString "S_IWOTH")) (Value.str (Str.ofString "S_IWOTH") 294) (Value.int 2 293)) :: (DictEntry.mk (PyData.keyHash P (Str.ofString "S_IXOTH")) (Value.str (Str.ofString "S_IXOTH") 296) (Value.int 1 295)) :: (DictEntry.mk (PyData.keyHash P (Str.ofString "_filemode_table")) (Value.str (Str.ofString "_filemode_table") 322) (Value.ref 117)) :: (DictEntry.mk (PyData.keyHash P (Str.ofString "filemode")) (Value.str (Str.ofString "filemode") 334) (Value.ref 124)) :: (DictEntry.mk (PyData.keyHash P (Str.ofString "_buffer")) (Value.str (Str.ofString "_buffer") 344) (Value.ref 131)) :: (DictEntry.mk (PyData.keyHash P (Str.ofString "_truth")) (Value.str (Str.ofString "_truth") 352) (Value.ref 138)) :: (DictEntry.mk (PyData.keyHash P (Str.ofString "_B64")) (Value.str (Str.ofString "_B64") 354) (Value.bytes (List.toArray (65 :: 66 :: 67 :: 68 :: 69 :: 70 :: 71 :: 72 :: 73 :: 74 :: 75 :: 76 :: 77 :: 78 :: 79 :: 80 :: 81 :: 82 :: 83 :: 84 :: 85 :: 86 :: 87 :: 88 :: 89 :: 90 :: 97 :: 98 :: 99 :: 100 :: 101 :: 102 :: 103 :: 104 :: 105 :: 106 :: 107 :: 108 :: 109 :: 110 :: 111 :: 112 :: 113 :: 114 :: 115 :: 116 :: 117 :: 118 :: 119 :: 120 :: 121 :: 122 :: 48 :: 49 :: 50 :: 51 :: 52 :: 53 :: 54 :: 55 :: 56 :: 57 :: 43 :: 47 :: [])) 353)) :: (DictEntry.mk (PyData.keyHash P (Str.ofString "b2a_base64")) (Value.str (Str.ofString "b2a_base64") 368) (Value.ref 146)) :: (DictEntry.mk (PyData.keyHash P (Str.ofString "b64encode")) (Value.str (Str.ofString "b64encode") 379) (Value.ref 154)) :: (DictEntry.mk (PyData.keyHash P (Str.ofString "sep")) (Value.str (Str.ofString "sep") 381) (Value.str (Str.ofString "/") 380)) :: (DictEntry.mk (PyData.keyHash P (Str.ofString "_kind")) (Value.str (Str.ofString "_kind") 392) (Value.ref 161)) :: (DictEntry.mk (PyData.keyHash P (Str.ofString "_c_path")) (Value.str (Str.ofString "_c_path") 405) (Value.ref 168)) :: (DictEntry.mk (PyData.keyHash P (Str.ofString "_splitroot")) (Value.str (Str.ofString "_splitroot") 414) (Value.ref 175)) :: [])) 49) #[])
noncomputable def ob90 : Params → Obj := fun P => (Obj.mk Value.none none (Data.fields (List.toArray ((Value.int 1 0) :: (Value.int 0 0) :: (Value.ref 20) :: (Value.int 5 0) :: (Value.int 0 0) :: (Value.ref 27) :: (Value.int 7 0) :: (Value.int 0 0) :: (Value.ref 34) :: (Value.int 16 0) :: (Value.int 0 0) :: (Value.ref 41) :: (Value.int 18 0) :: (Value.int 0 0) :: (Value.ref 48) :: (Value.int 20 0) :: (Value.int 0 0) :: (Value.ref 55) :: (Value.int 22 0) :: (Value.int 0 0) :: (Value.ref 62) :: (Value.int 24 0) :: (Value.int 0 0) :: (Value.ref 69) :: (Value.int 26 0) :: (Value.int 0 0) :: (Value.ref 76) :: (Value.int 28 0) :: (Value.int 0 0) :: (Value.ref 83) :: (Value.int 43 0) :: (Value.int 0 0) :: (Value.ref 123) :: (Value.int 61 0) :: (Value.int 0 0) :: (Value.ref 130) :: (Value.int 68 0) :: (Value.int 0 0) :: (Value.ref 137) :: (Value.int 74 0) :: (Value.int 0 0) :: (Value.ref 145) :: (Value.int 97 0) :: (Value.int 0 0) :: (Value.ref 153) :: (Value.int 105 0) :: (Value.int 0 0) :: (Value.ref 160) :: (Value.int 126 0) :: (Value.int 0 0) :: (Value.ref 167) :: (Value.int 137 0) :: (Value.int 0 0) :: (Value.ref 174) :: []))) #[])
noncomputable def ob91 : Params → Obj := fun P => (Obj.mk (Value.type "tuple") none (Data.seq #[(Value.str (Str.ofString "x") 348), (Value.str (Str.ofString "t") 349)] 0) #[])
noncomputable def ob92 : Params → Obj := fun P => (Obj.mk Value.none none (Data.func (FuncData.mk (Str.ofString "_truth") (Str.ofString "_truth") (sA (pst 34)) (FuncBody.stmts (sB (pst 34))) (sS (pst 34)) 0 [] Value.none Value.none Value.none Value.none none Value.none Value.none 0)) #[])
noncomputable def ob93 : Params → Obj := fun P => (Obj.mk (Value.type "code") none (Data.fields #[(Value.str (Str.ofString "_truth") 345), (Value.str (Str.ofString "_truth") 346), (Value.str (Str.ofString "/claim/cut.py") 347), (Value.int 68 0), (Value.int 1 0), (Value.int 0 0), (Value.int 0 0), (Value.int 3 0), (Value.ref 132), (Value.bool Bool.true), (Value.int 181 0), (Value.ref 133), Value.none, (Value.ref 134), (Value.ref 135), (Value.ref 136), (Value.int 350 0), (Value.int 68 0), (Value.str (Str.ofString "/claim/cut.py") 351)]) #[])
noncomputable def ob94 : Params → Obj := fun P => (Obj.mk (Value.type "function") none (Data.func (FuncData.mk (Str.ofString "_truth") (Str.ofString "_truth") (sA (pst 34)) (FuncBody.stmts (sB (pst 34))) (sS (pst 34)) 3 [] Value.none Value.none Value.none (Value.str (Str.ofString "binascii") 335) none (Value.ref 137) Value.none 0)) #[])
noncomputable def ob95 : Params → Obj := fun P => (Obj.mk (Value.type "dict") none (Data.dict #[(DictEntry.mk (PyData.keyHash P (Str.ofString "newline")) (Value.str (Str.ofString "newline") 355) (Value.bool Bool.true))] 1) #[])
noncomputable def ob96 : Params → Obj := fun P => (Obj.mk (Value.type "tuple") none (Data.seq #[(Value.str (Str.ofString "data") 359), (Value.str (Str.ofString "newline") 360), (Value.str (Str.ofString "bin_data") 361), (Value.str (Str.ofString "out") 362), (Value.str (Str.ofString "leftbits") 363), (Value.str (Str.ofString "leftchar") 364), (Value.str (Str.ofString "b") 365)] 0) #[])
noncomputable def ob97 : Params → Obj := fun P => (Obj.mk Value.none none (Data.func (FuncData.mk (Str.ofString "b2a_base64") (Str.ofString "b2a_base64") (sA (pst 36)) (FuncBody.stmts (sB (pst 36))) (sS (pst 36)) 0 [] Value.none Value.none Value.none Value.none none Value.none Value.none 0)) #[])
noncomputable def ob98 : Params → Obj := fun P => (Obj.mk (Value.type "code") none (Data.fields #[(Value.str (Str.ofString "b2a_base64") 356), (Value.str (Str.ofString "b2a_base64") 357), (Value.str (Str.ofString "/claim/cut.py") 358), (Value.int 74 0), (Value.int 1 0), (Value.int 1 0), (Value.int 1 0), (Value.int 3 0), (Value.ref 140), (Value.bool Bool.true), (Value.int 181 0), (Value.ref 141), Value.none, (Value.ref 142), (Value.ref 143), (Value.ref 144), (Value.int 366 0), (Value.int 74 0), (Value.str (Str.ofString "/claim/cut.py") 367)]) #[])
noncomputable def ob99 : Params → Obj := fun P => (Obj.mk (Value.type "function") none (Data.func (FuncData.mk (Str.ofString "b2a_base64") (Str.ofString "b2a_base64") (sA (pst 36)) (FuncBody.stmts (sB (pst 36))) (sS (pst 36)) 3 [] Value.none (Value.ref 139) Value.none (Value.str (Str.ofString "binascii") 335) none (Value.ref 145) Value.none 0)) #[])
noncomputable def ob100 : Params → Obj := fun P => (Obj.mk (Value.type "tuple") none (Data.seq #[Value.none] 0) #[])
noncomputable def ob101 : Params → Obj := fun P => (Obj.mk (Value.type "tuple") none (Data.seq #[(Value.str (Str.ofString "s") 374), (Value.str (Str.ofString "altchars") 375), (Value.str (Str.ofString "encoded") 376)] 0) #[])
noncomputable def ob102 : Params → Obj := fun P => (Obj.mk Value.none none (Data.func (FuncData.mk (Str.ofString "b64encode") (Str.ofString "b64encode") (sA (pst 38)) (FuncBody.stmts (sB (pst 38))) (sS (pst 38)) 0 [] Value.none Value.none Value.none Value.none none Value.none Value.none 0)) #[])
noncomputable def ob103 : Params → Obj := fun P => (Obj.mk (Value.type "code") none (Data.fields #[(Value.str (Str.ofString "b64encode") 371), (Value.str (Str.ofString "b64encode") 372), (Value.str (Str.ofString "/claim/cut.py") 373), (Value.int 97 0), (Value.int 2 0), (Value.int 0 0), (Value.int 0 0), (Value.int 3 0), (Value.ref 148), (Value.bool Bool.true), (Value.int 181 0), (Value.ref 149), Value.none, (Value.ref 150), (Value.ref 151), (Value.ref 152), (Value.int 377 0), (Value.int 97 0), (Value.str (Str.ofString "/claim/cut.py") 378)]) #[])
noncomputable def ob104 : Params → Obj := fun P => (Obj.mk (Value.type "function") none (Data.func (FuncData.mk (Str.ofString "b64encode") (Str.ofString "b64encode") (sA (pst 38)) (FuncBody.stmts (sB (pst 38))) (sS (pst 38)) 3 [] (Value.ref 147) Value.none Value.none (Value.str (Str.ofString "cpy313.base64") 369) none (Value.ref 153) Value.none 0)) #[])
noncomputable def ob105 : Params → Obj := fun P => (Obj.mk (Value.type "tuple") none (Data.seq #[(Value.str (Str.ofString "name") 387), (Value.str (Str.ofString "x") 388), (Value.str (Str.ofString "t") 389)] 0) #[])
noncomputable def ob106 : Params → Obj := fun P => (Obj.mk Value.none none (Data.func (FuncData.mk (Str.ofString "_kind") (Str.ofString "_kind") (sA (pst 41)) (FuncBody.stmts (sB (pst 41))) (sS (pst 41)) 0 [] Value.none Value.none Value.none Value.none none Value.none Value.none 0)) #[])
noncomputable def ob107 : Params → Obj := fun P => (Obj.mk (Value.type "code") none (Data.fields #[(Value.str (Str.ofString "_kind") 384), (Value.str (Str.ofString "_kind") 385), (Value.str (Str.ofString "/claim/cut.py") 386), (Value.int 105 0), (Value.int 2 0), (Value.int 0 0), (Value.int 0 0), (Value.int 3 0), (Value.ref 155), (Value.bool Bool.true), (Value.int 181 0), (Value.ref 156), Value.none, (Value.ref 157), (Value.ref 158), (Value.ref 159), (Value.int 390 0), (Value.int 105 0), (Value.str (Str.ofString "/claim/cut.py") 391)]) #[])
noncomputable def ob108 : Params → Obj := fun P => (Obj.mk (Value.type "function") none (Data.func (FuncData.mk (Str.ofString "_kind") (Str.ofString "_kind") (sA (pst 41)) (FuncBody.stmts (sB (pst 41))) (sS (pst 41)) 3 [] Value.none Value.none Value.none (Value.str (Str.ofString "os.path") 382) none (Value.ref 160) Value.none 0)) #[])
noncomputable def ob109 : Params → Obj := fun P => (Obj.mk (Value.type "tuple") none (Data.seq #[(Value.str (Str.ofString "name") 396), (Value.str (Str.ofString "cname") 397), (Value.str (Str.ofString "argname") 398), (Value.str (Str.ofString "args") 399), (Value.str (Str.ofString "kwargs") 400), (Value.str (Str.ofString "x") 401), (Value.str (Str.ofString "k") 402)] 0) #[])
noncomputable def ob110 : Params → Obj := fun P => (Obj.mk Value.none none (Data.func (FuncData.mk (Str.ofString "_c_path") (Str.ofString "_c_path") (sA (pst 42)) (FuncBody.stmts (sB (pst 42))) (sS (pst 42)) 0 [] Value.none Value.none Value.none Value.none none Value.none Value.none 0)) #[])
noncomputable def ob111 : Params → Obj := fun P => (Obj.mk (Value.type "code") none (Data.fields #[(Value.str (Str.ofString "_c_path") 393), (Value.str (Str.ofString "_c_path") 394), (Value.str (Str.ofString "/claim/cut.py") 395), (Value.int 126 0), (Value.int 5 0), (Value.int 0 0), (Value.int 0 0), (Value.int 3 0), (Value.ref 162), (Value.bool Bool.true), (Value.int 181 0), (Value.ref 163), Value.none, (Value.ref 164), (Value.ref 165), (Value.ref 166), (Value.int 403 0), (Value.int 126 0), (Value.str (Str.ofString "/claim/cut.py") 404)]) #[])
noncomputable def ob112 : Params → Obj := fun P => (Obj.mk (Value.type "function") none (Data.func (FuncData.mk (Str.ofString "_c_path") (Str.ofString "_c_path") (sA (pst 42)) (FuncBody.stmts (sB (pst 42))) (sS (pst 42)) 3 [] Value.none Value.none Value.none (Value.str (Str.ofString "os.path") 382) none (Value.ref 167) Value.none 0)) #[])
noncomputable def ob113 : Params → Obj := fun P => (Obj.mk (Value.type "tuple") none (Data.seq #[(Value.str (Str.ofString "p") 409), (Value.str (Str.ofString "sep") 410), (Value.str (Str.ofString "empty") 411)] 0) #[])
noncomputable def ob114 : Params → Obj := fun P => (Obj.mk Value.none none (Data.func (FuncData.mk (Str.ofString "_splitroot") (Str.ofString "_splitroot") (sA (pst 43)) (FuncBody.stmts (sB (pst 43))) (sS (pst 43)) 0 [] Value.none Value.none Value.none Value.none none Value.none Value.none 0)) #[])
noncomputable def ob115 : Params → Obj := fun P => (Obj.mk (Value.type "code") none (Data.fields #[(Value.str (Str.ofString "_splitroot") 406), (Value.str (Str.ofString "_splitroot") 407), (Value.str (Str.ofString "/claim/cut.py") 408), (Value.int 137 0), (Value.int 1 0), (Value.int 0 0), (Value.int 0 0), (Value.int 3 0), (Value.ref 169), (Value.bool Bool.true), (Value.int 181 0), (Value.ref 170), Value.none, (Value.ref 171), (Value.ref 172), (Value.ref 173), (Value.int 412 0), (Value.int 137 0), (Value.str (Str.ofString "/claim/cut.py") 413)]) #[])
noncomputable def ob116 : Params → Obj := fun P => (Obj.mk (Value.type "function") none (Data.func (FuncData.mk (Str.ofString "_splitroot") (Str.ofString "_splitroot") (sA (pst 43)) (FuncBody.stmts (sB (pst 43))) (sS (pst 43)) 3 [] Value.none Value.none Value.none (Value.str (Str.ofString "os.path") 382) none (Value.ref 174) Value.none 0)) #[])
noncomputable def ob117 : Params → Obj := fun P => (Obj.mk (Value.type "dict") none (Data.dict (List.toArray ((DictEntry.mk (PyData.keyHash P (Str.ofString "__name__")) (Value.str (Str.ofString "__name__") 165) (Value.str (Str.ofString "cpy313.trace") 438)) :: (DictEntry.mk (PyData.keyHash P (Str.ofString "__doc__")) (Value.str (Str.ofString "__doc__") 166) Value.none) :: (DictEntry.mk (PyData.keyHash P (Str.ofString "__package__")) (Value.str (Str.ofString "__package__") 167) Value.none) :: (DictEntry.mk (PyData.keyHash P (Str.ofString "__loader__")) (Value.str (Str.ofString "__loader__") 168) (Value.builtin "__main__.__loader__#opaque")) :: (DictEntry.mk (PyData.keyHash P (Str.ofString "__spec__")) (Value.str (Str.ofString "__spec__") 169) Value.none) :: (DictEntry.mk (PyData.keyHash P (Str.ofString "__annotations__")) (Value.str (Str.ofString "__annotations__") 170) (Value.ref 6)) :: (DictEntry.mk (PyData.keyHash P (Str.ofString "__builtins__")) (Value.str (Str.ofString "__builtins__") 171) (Value.ref 4)) :: (DictEntry.mk (PyData.keyHash P (Str.ofString "__file__")) (Value.str (Str.ofString "__file__") 173) (Value.str (Str.ofString "/claim/cut.py") 172)) :: (DictEntry.mk (PyData.keyHash P (Str.ofString "__cached__")) (Value.str (Str.ofString "__cached__") 174) Value.none) :: (DictEntry.mk (PyData.keyHash P (Str.ofString "_wall")) (Value.str (Str.ofString "_wall") 193) (Value.ref 21)) :: (DictEntry.mk (PyData.keyHash P (Str.ofString "S_IMODE")) (Value.str (Str.ofString "S_IMODE") 202) (Value.ref 28)) :: (DictEntry.mk (PyData.keyHash P (Str.ofString "S_IFMT")) (Value.str (Str.ofString "S_IFMT") 209) (Value.ref 35)) :: (DictEntry.mk (PyData.keyHash P (Str.ofString "S_IFDIR")) (Value.str (Str.ofString "S_IFDIR") 211) (Value.int 16384 210)) :: (DictEntry.mk (PyData.keyHash P (Str.ofString "S_IFCHR")) (Value.str (Str.ofString "S_IFCHR") 213) (Value.int 8192 212)) :: (DictEntry.mk (PyData.keyHash P (Str.ofString "S_IFBLK")) (Value.str (Str.ofString "S_IFBLK") 215) (Value.int 24576 214)) :: (DictEntry.mk (PyData.keyHash P (Str.ofString "S_IFREG")) (Value.str (Str.ofString "S_IFREG") 217) (Value.int 32768 216)) :: (DictEntry.mk (PyData.keyHash P (Str.ofString "S_IFIFO")) (Value.str (Str.ofString "S_IFIFO") 219) (Value.int 4096 218)) :: (DictEntry.mk (PyData.keyHash P (Str.ofString "S_IFLNK")) (Value.str (Str.ofString "S_IFLNK") 221) (Value.int 40960 220)) :: (DictEntry.mk (PyData.keyHash P (Str.ofString "S_IFSOCK")) (Value.str (Str.ofString "S_IFSOCK") 223) (Value.int 49152 222)) :: (DictEntry.mk (PyData.keyHash P (Str.ofString "S_ISDIR")) (Value.str (Str.ofString "S_ISDIR") 230) (Value.ref 42)) :: (DictEntry.mk (PyData.keyHash P (Str.ofString "S_ISCHR")) (Value.str (Str.ofString "S_ISCHR") 237) (Value.ref 49)) :: (DictEntry.mk (PyData.keyHash P (Str.ofString "S_ISBLK")) (Value.str (Str.ofString "S_ISBLK") 244) (Value.ref 56)) :: (DictEntry.mk (PyData.keyHash P (Str.ofString "S_ISREG")) (Value.str (Str.ofString "S_ISREG") 251) (Value.ref 63)) :: (DictEntry.mk (PyData.keyHash P (Str.ofString "S_ISFIFO")) (Value.str (Str.ofString "S_ISFIFO") 258) (Value.ref 70)) :: (DictEntry.mk (PyData.keyHash P (Str.ofString "S_ISLNK")) (Value.str (Str.ofString "S_ISLNK") 265) (Value.ref 77)) :: (DictEntry.mk (PyData.keyHash P (Str.ofString "S_ISSOCK")) (Value.str (Str.ofString "S_ISSOCK") 272) (Value.ref 84)) :: (DictEntry.mk (PyData.keyHash P (Str.ofString "S_ISUID")) (Value.str (Str.ofString "S_ISUID") 274) (Value.int 2048 273)) :: (DictEntry.mk (PyData.keyHash P (Str.ofString "S_ISGID")) (Value.str (Str.ofString "S_ISGID") 276) (Value.int 1024 275)) :: (DictEntry.mk (PyData.keyHash P (Str.ofString "S_ISVTX")) (Value.str (Str.ofString "S_ISVTX") 278) (Value.int 512 277)) :: (DictEntry.mk (PyData.keyHash P (Str.ofString "S_IRUSR")) (Value.str (Str.ofString "S_IRUSR") 280) (Value.int 256 279)) :: (DictEntry.mk (PyData.keyHash P (Str.ofString "S_IWUSR")) (Value.str (Str.ofString "S_IWUSR") 282) (Value.int 128 281)) :: (DictEntry.mk (PyData.keyHash P (Str.ofString "S_IXUSR")) (Value.str (Str.ofString "S_IXUSR") 284) (Value.int 64 283)) :: (DictEntry.mk (PyData.keyHash P (Str.ofString "S_IRGRP")) (Value.str (Str.ofString "S_IRGRP") 286) (Value.int 32 285)) :: (DictEntry.mk (PyData.keyHash P (Str.ofString "S_IWGRP")) (Value.str (Str.ofString "S_IWGRP") 288) (Value.int 16 287)) :: (DictEntry.mk (PyData.keyHash P (Str.ofString "S_IXGRP")) (Value.str (Str.ofString "S_IXGRP") 290) (Value.int 8 289)) :: (DictEntry.mk (PyData.keyHash P (Str.ofString "S_IROTH")) (Value.str (Str.ofString "S_IROTH") 292) (Value.int 4 291)) :: (DictEntry.mk (PyData.keyHash P (Str.ofString "S_IWOTH")) (Value.str (Str.ofString "S_IWOTH") 294) (Value.int 2 293)) :: (DictEntry.mk (PyData.keyHash P (Str.ofString "S_IXOTH")) (Value.str (Str.ofString "S_IXOTH") 296) (Value.int 1 295)) :: (DictEntry.mk (PyData.keyHash P (Str.ofString "_filemode_table")) (Value.str (Str.ofString "_filemode_table") 322) (Value.ref 117)) :: (DictEntry.mk (PyData.keyHash P (Str.ofString "filemode")) (Value.str (Str.ofString "filemode") 334) (Value.ref 124)) :: (DictEntry.mk (PyData.keyHash P (Str.ofString "_buffer")) (Value.str (Str.ofString "_buffer") 344) (Value.ref 131)) :: (DictEntry.mk (PyData.keyHash P (Str.ofString "_truth")) (Value.str (Str.ofString "_truth") 352) (Value.ref 138)) :: (DictEntry.mk (PyData.keyHash P (Str.ofString "_B64")) (Value.str (Str.ofString "_B64") 354) (Value.bytes (List.toArray (65 :: 66 :: 67 :: 68 :: 69 :: 70 :: 71 :: 72 :: 73 :: 74 :: 75 :: 76 :: 77 :: 78 :: 79 :: 80 :: 81 :: 82 :: 83 :: 84 :: 85 :: 86 :: 87 :: 88 :: 89 :: 90 :: 97 :: 98 :: 99 :: 100 :: 101 :: 102 :: 103 :: 104 :: 105 :: 106 :: 107 :: 108 :: 109 :: 110 :: 111 :: 112 :: 113 :: 114 :: 115 :: 116 :: 117 :: 118 :: 119 :: 120 :: 121 :: 122 :: 48 :: 49 :: 50 :: 51 :: 52 :: 53 :: 54 :: 55 :: 56 :: 57 :: 43 :: 47 :: [])) 353)) :: (DictEntry.mk (PyData.keyHash P (Str.ofString "b2a_base64")) (Value.str (Str.ofString "b2a_base64") 368) (Value.ref 146)) :: (DictEntry.mk (PyData.keyHash P (Str.ofString "b64encode")) (Value.str (Str.ofString "b64encode") 379) (Value.ref 154)) :: (DictEntry.mk (PyData.keyHash P (Str.ofString "sep")) (Value.str (Str.ofString "sep") 381) (Value.str (Str.ofString "/") 380)) :: (DictEntry.mk (PyData.keyHash P (Str.ofString "_kind")) (Value.str (Str.ofString "_kind") 392) (Value.ref 161)) :: (DictEntry.mk (PyData.keyHash P (Str.ofString "_c_path")) (Value.str (Str.ofString "_c_path") 405) (Value.ref 168)) :: (DictEntry.mk (PyData.keyHash P (Str.ofString "_splitroot")) (Value.str (Str.ofString "_splitroot") 414) (Value.ref 175)) :: (DictEntry.mk (PyData.keyHash P (Str.ofString "_normpath")) (Value.str (Str.ofString "_normpath") 429) (Value.ref 182)) :: (DictEntry.mk (PyData.keyHash P (Str.ofString "normpath")) (Value.str (Str.ofString "normpath") 437) (Value.ref 189)) :: [])) 51) #[])
noncomputable def ob118 : Params → Obj := fun P => (Obj.mk Value.none none (Data.fields (List.toArray ((Value.int 1 0) :: (Value.int 0 0) :: (Value.ref 20) :: (Value.int 5 0) :: (Value.int 0 0) :: (Value.ref 27) :: (Value.int 7 0) :: (Value.int 0 0) :: (Value.ref 34) :: (Value.int 16 0) :: (Value.int 0 0) :: (Value.ref 41) :: (Value.int 18 0) :: (Value.int 0 0) :: (Value.ref 48) :: (Value.int 20 0) :: (Value.int 0 0) :: (Value.ref 55) :: (Value.int 22 0) :: (Value.int 0 0) :: (Value.ref 62) :: (Value.int 24 0) :: (Value.int 0 0) :: (Value.ref 69) :: (Value.int 26 0) :: (Value.int 0 0) :: (Value.ref 76) :: (Value.int 28 0) :: (Value.int 0 0) :: (Value.ref 83) :: (Value.int 43 0) :: (Value.int 0 0) :: (Value.ref 123) :: (Value.int 61 0) :: (Value.int 0 0) :: (Value.ref 130) :: (Value.int 68 0) :: (Value.int 0 0) :: (Value.ref 137) :: (Value.int 74 0) :: (Value.int 0 0) :: (Value.ref 145) :: (Value.int 97 0) :: (Value.int 0 0) :: (Value.ref 153) :: (Value.int 105 0) :: (Value.int 0 0) :: (Value.ref 160) :: (Value.int 126 0) :: (Value.int 0 0) :: (Value.ref 167) :: (Value.int 137 0) :: (Value.int 0 0) :: (Value.ref 174) :: (Value.int 146 0) :: (Value.int 0 0) :: (Value.ref 181) :: (Value.int 165 0) :: (Value.int 0 0) :: (Value.ref 188) :: []))) #[])
noncomputable def ob119 : Params → Obj := fun P => (Obj.mk (Value.type "tuple") none (Data.seq #[(Value.str (Str.ofString "path") 418), (Value.str (Str.ofString "sep") 419), (Value.str (Str.ofString "dot") 420), (Value.str (Str.ofString "dotdot") 421), (Value.str (Str.ofString "_") 422), (Value.str (Str.ofString "initial_slashes") 423), (Value.str (Str.ofString "comps") 424), (Value.str (Str.ofString "new_comps") 425), (Value.str (Str.ofString "comp") 426)] 0) #[])
noncomputable def ob120 : Params → Obj := fun P => (Obj.mk Value.none none (Data.func (FuncData.mk (Str.ofString "_normpath") (Str.ofString "_normpath") (sA (pst 44)) (FuncBody.stmts (sB (pst 44))) (sS (pst 44)) 0 [] Value.none Value.none Value.none Value.none none Value.none Value.none 0)) #[])
noncomputable def ob121 : Params → Obj := fun P => (Obj.mk (Value.type "code") none (Data.fields #[(Value.str (Str.ofString "_normpath") 415), (Value.str (Str.ofString "_normpath") 416), (Value.str (Str.ofString "/claim/cut.py") 417), (Value.int 146 0), (Value.int 1 0), (Value.int 0 0), (Value.int 0 0), (Value.int 3 0), (Value.ref 176), (Value.bool Bool.true), (Value.int 181 0), (Value.ref 177), Value.none, (Value.ref 178), (Value.ref 179), (Value.ref 180), (Value.int 427 0), (Value.int 146 0), (Value.str (Str.ofString "/claim/cut.py") 428)]) #[])
noncomputable def ob122 : Params → Obj := fun P => (Obj.mk (Value.type "function") none (Data.func (FuncData.mk (Str.ofString "_normpath") (Str.ofString "_normpath") (sA (pst 44)) (FuncBody.stmts (sB (pst 44))) (sS (pst 44)) 3 [] Value.none Value.none Value.none (Value.str (Str.ofString "os.path") 382) none (Value.ref 181) Value.none 0)) #[])
noncomputable def ob123 : Params → Obj := fun P => (Obj.mk (Value.type "tuple") none (Data.seq #[(Value.str (Str.ofString "args") 433), (Value.str (Str.ofString "kwargs") 434)] 0) #[])
noncomputable def ob124 : Params → Obj := fun P => (Obj.mk Value.none none (Data.func (FuncData.mk (Str.ofString "normpath") (Str.ofString "normpath") (sA (pst 45)) (FuncBody.stmts (sB (pst 45))) (sS (pst 45)) 0 [] Value.none Value.none Value.none Value.none none Value.none Value.none 0)) #[])
noncomputable def ob125 : Params → Obj := fun P => (Obj.mk (Value.type "code") none (Data.fields #[(Value.str (Str.ofString "normpath") 430), (Value.str (Str.ofString "normpath") 431), (Value.str (Str.ofString "/claim/cut.py") 432), (Value.int 165 0), (Value.int 0 0), (Value.int 0 0), (Value.int 0 0), (Value.int 15 0), (Value.ref 183), (Value.bool Bool.true), (Value.int 181 0), (Value.ref 184), Value.none, (Value.ref 185), (Value.ref 186), (Value.ref 187), (Value.int 435 0), (Value.int 165 0), (Value.str (Str.ofString "/claim/cut.py") 436)]) #[])
noncomputable def ob126 : Params → Obj := fun P => (Obj.mk (Value.type "function") none (Data.func (FuncData.mk (Str.ofString "normpath") (Str.ofString "normpath") (sA (pst 45)) (FuncBody.stmts (sB (pst 45))) (sS (pst 45)) 3 [] Value.none Value.none Value.none (Value.str (Str.ofString "os.path") 382) none (Value.ref 188) Value.none 0)) #[])
noncomputable def ob127 : Params → Obj := fun P => (Obj.mk (Value.type "dict") none (Data.dict (List.toArray ((DictEntry.mk (PyData.keyHash P (Str.ofString "__name__")) (Value.str (Str.ofString "__name__") 165) (Value.str (Str.ofString "cpy313.trace") 438)) :: (DictEntry.mk (PyData.keyHash P (Str.ofString "__doc__")) (Value.str (Str.ofString "__doc__") 166) Value.none) :: (DictEntry.mk (PyData.keyHash P (Str.ofString "__package__")) (Value.str (Str.ofString "__package__") 167) Value.none) :: (DictEntry.mk (PyData.keyHash P (Str.ofString "__loader__")) (Value.str (Str.ofString "__loader__") 168) (Value.builtin "__main__.__loader__#opaque")) :: (DictEntry.mk (PyData.keyHash P (Str.ofString "__spec__")) (Value.str (Str.ofString "__spec__") 169) Value.none) :: (DictEntry.mk (PyData.keyHash P (Str.ofString "__annotations__")) (Value.str (Str.ofString "__annotations__") 170) (Value.ref 6)) :: (DictEntry.mk (PyData.keyHash P (Str.ofString "__builtins__")) (Value.str (Str.ofString "__builtins__") 171) (Value.ref 4)) :: (DictEntry.mk (PyData.keyHash P (Str.ofString "__file__")) (Value.str (Str.ofString "__file__") 173) (Value.str (Str.ofString "/claim/cut.py") 172)) :: (DictEntry.mk (PyData.keyHash P (Str.ofString "__cached__")) (Value.str (Str.ofString "__cached__") 174) Value.none) :: (DictEntry.mk (PyData.keyHash P (Str.ofString "_wall")) (Value.str (Str.ofString "_wall") 193) (Value.ref 21)) :: (DictEntry.mk (PyData.keyHash P (Str.ofString "S_IMODE")) (Value.str (Str.ofString "S_IMODE") 202) (Value.ref 28)) :: (DictEntry.mk (PyData.keyHash P (Str.ofString "S_IFMT")) (Value.str (Str.ofString "S_IFMT") 209) (Value.ref 35)) :: (DictEntry.mk (PyData.keyHash P (Str.ofString "S_IFDIR")) (Value.str (Str.ofString "S_IFDIR") 211) (Value.int 16384 210)) :: (DictEntry.mk (PyData.keyHash P (Str.ofString "S_IFCHR")) (Value.str (Str.ofString "S_IFCHR") 213) (Value.int 8192 212)) :: (DictEntry.mk (PyData.keyHash P (Str.ofString "S_IFBLK")) (Value.str (Str.ofString "S_IFBLK") 215) (Value.int 24576 214)) :: (DictEntry.mk (PyData.keyHash P (Str.ofString "S_IFREG")) (Value.str (Str.ofString "S_IFREG") 217) (Value.int 32768 216)) :: (DictEntry.mk (PyData.keyHash P (Str.ofString "S_IFIFO")) (Value.str (Str.ofString "S_IFIFO") 219) (Value.int 4096 218)) :: (DictEntry.mk (PyData.keyHash P (Str.ofString "S_IFLNK")) (Value.str (Str.ofString "S_IFLNK") 221) (Value.int 40960 220)) :: (DictEntry.mk (PyData.keyHash P (Str.ofString "S_IFSOCK")) (Value.str (Str.ofString "S_IFSOCK") 223) (Value.int 49152 222)) :: (DictEntry.mk (PyData.keyHash P (Str.ofString "S_ISDIR")) (Value.str (Str.ofString "S_ISDIR") 230) (Value.ref 42)) :: (DictEntry.mk (PyData.keyHash P (Str.ofString "S_ISCHR")) (Value.str (Str.ofString "S_ISCHR") 237) (Value.ref 49)) :: (DictEntry.mk (PyData.keyHash P (Str.ofString "S_ISBLK")) (Value.str (Str.ofString "S_ISBLK") 244) (Value.ref 56)) :: (DictEntry.mk (PyData.keyHash P (Str.ofString "S_ISREG")) (Value.str (Str.ofString "S_ISREG") 251) (Value.ref 63)) :: (DictEntry.mk (PyData.keyHash P (Str.ofString "S_ISFIFO")) (Value.str (Str.ofString "S_ISFIFO") 258) (Value.ref 70)) :: (DictEntry.mk (PyData.keyHash P (Str.ofString "S_ISLNK")) (Value.str (Str.ofString "S_ISLNK") 265) (Value.ref 77)) :: (DictEntry.mk (PyData.keyHash P (Str.ofString "S_ISSOCK")) (Value.str (Str.ofString "S_ISSOCK") 272) (Value.ref 84)) :: (DictEntry.mk (PyData.keyHash P (Str.ofString "S_ISUID")) (Value.str (Str.ofString "S_ISUID") 274) (Value.int 2048 273)) :: (DictEntry.mk (PyData.keyHash P (Str.ofString "S_ISGID")) (Value.str (Str.ofString "S_ISGID") 276) (Value.int 1024 275)) :: (DictEntry.mk (PyData.keyHash P (Str.ofString "S_ISVTX")) (Value.str (Str.ofString "S_ISVTX") 278) (Value.int 512 277)) :: (DictEntry.mk (PyData.keyHash P (Str.ofString "S_IRUSR")) (Value.str (Str.ofString "S_IRUSR") 280) (Value.int 256 279)) :: (DictEntry.mk (PyData.keyHash P (Str.ofString "S_IWUSR")) (Value.str (Str.ofString "S_IWUSR") 282) (Value.int 128 281)) :: (DictEntry.mk (PyData.keyHash P (Str.ofString "S_IXUSR")) (Value.str (Str.ofString "S_IXUSR") 284) (Value.int 64 283)) :: (DictEntry.mk (PyData.keyHash P (Str.ofString "S_IRGRP")) (Value.str (Str.ofString "S_IRGRP") 286) (Value.int 32 285)) :: (DictEntry.mk (PyData.keyHash P (Str.ofString "S_IWGRP")) (Value.str (Str.ofString "S_IWGRP") 288) (Value.int 16 287)) :: (DictEntry.mk (PyData.keyHash P (Str.ofString "S_IXGRP")) (Value.str (Str.ofString "S_IXGRP") 290) (Value.int 8 289)) :: (DictEntry.mk (PyData.keyHash P (Str.ofString "S_IROTH")) (Value.str (Str.ofString "S_IROTH") 292) (Value.int 4 291)) :: (DictEntry.mk (PyData.keyHash P (Str.ofString "S_IWOTH")) (Value.str (Str.ofString "S_IWOTH") 294) (Value.int 2 293)) :: (DictEntry.mk (PyData.keyHash P (Str.ofString "S_IXOTH")) (Value.str (Str.ofString "S_IXOTH") 296) (Value.int 1 295)) :: (DictEntry.mk (PyData.keyHash P (Str.ofString "_filemode_table")) (Value.str (Str.ofString "_filemode_table") 322) (Value.ref 117)) :: (DictEntry.mk (PyData.keyHash P (Str.ofString "filemode")) (Value.str (Str.ofString "filemode") 334) (Value.ref 124)) :: (DictEntry.mk (PyData.keyHash P (Str.ofString "_buffer")) (Value.str (Str.ofString "_buffer") 344) (Value.ref 131)) :: (DictEntry.mk (PyData.keyHash P (Str.ofString "_truth")) (Value.str (Str.ofString "_truth") 352) (Value.ref 138)) :: (DictEntry.mk (PyData.keyHash P (Str.ofString "_B64")) (Value.str (Str.ofString "_B64") 354) (Value.bytes (List.toArray (65 :: 66 :: 67 :: 68 :: 69 :: 70 :: 71 :: 72 :: 73 :: 74 :: 75 :: 76 :: 77 :: 78 :: 79 :: 80 :: 81 :: 82 :: 83 :: 84 :: 85 :: 86 :: 87 :: 88 :: 89 :: 90 :: 97 :: 98 :: 99 :: 100 :: 101 :: 102 :: 103 :: 104 :: 105 :: 106 :: 107 :: 108 :: 109 :: 110 :: 111 :: 112 :: 113 :: 114 :: 115 :: 116 :: 117 :: 118 :: 119 :: 120 :: 121 :: 122 :: 48 :: 49 :: 50 :: 51 :: 52 :: 53 :: 54 :: 55 :: 56 :: 57 :: 43 :: 47 :: [])) 353)) :: (DictEntry.mk (PyData.keyHash P (Str.ofString "b2a_base64")) (Value.str (Str.ofString "b2a_base64") 368) (Value.ref 146)) :: (DictEntry.mk (PyData.keyHash P (Str.ofString "b64encode")) (Value.str (Str.ofString "b64encode") 379) (Value.ref 154)) :: (DictEntry.mk (PyData.keyHash P (Str.ofString "sep")) (Value.str (Str.ofString "sep") 381) (Value.str (Str.ofString "/") 380)) :: (DictEntry.mk (PyData.keyHash P (Str.ofString "_kind")) (Value.str (Str.ofString "_kind") 392) (Value.ref 161)) :: (DictEntry.mk (PyData.keyHash P (Str.ofString "_c_path")) (Value.str (Str.ofString "_c_path") 405) (Value.ref 168)) :: (DictEntry.mk (PyData.keyHash P (Str.ofString "_splitroot")) (Value.str (Str.ofString "_splitroot") 414) (Value.ref 175)) :: (DictEntry.mk (PyData.keyHash P (Str.ofString "_normpath")) (Value.str (Str.ofString "_normpath") 429) (Value.ref 182)) :: (DictEntry.mk (PyData.keyHash P (Str.ofString "normpath")) (Value.str (Str.ofString "normpath") 437) (Value.ref 189)) :: (DictEntry.mk (PyData.keyHash P (Str.ofString "_Ignore")) (Value.str (Str.ofString "_Ignore") 479) (Value.ref 212)) :: [])) 52) #[])
noncomputable def ob128 : Params → Obj := fun P => (Obj.mk Value.none none (Data.fields (List.toArray ((Value.int 1 0) :: (Value.int 0 0) :: (Value.ref 20) :: (Value.int 5 0) :: (Value.int 0 0) :: (Value.ref 27) :: (Value.int 7 0) :: (Value.int 0 0) :: (Value.ref 34) :: (Value.int 16 0) :: (Value.int 0 0) :: (Value.ref 41) :: (Value.int 18 0) :: (Value.int 0 0) :: (Value.ref 48) :: (Value.int 20 0) :: (Value.int 0 0) :: (Value.ref 55) :: (Value.int 22 0) :: (Value.int 0 0) :: (Value.ref 62) :: (Value.int 24 0) :: (Value.int 0 0) :: (Value.ref 69) :: (Value.int 26 0) :: (Value.int 0 0) :: (Value.ref 76) :: (Value.int 28 0) :: (Value.int 0 0) :: (Value.ref 83) :: (Value.int 43 0) :: (Value.int 0 0) :: (Value.ref 123) :: (Value.int 61 0) :: (Value.int 0 0) :: (Value.ref 130) :: (Value.int 68 0) :: (Value.int 0 0) :: (Value.ref 137) :: (Value.int 74 0) :: (Value.int 0 0) :: (Value.ref 145) :: (Value.int 97 0) :: (Value.int 0 0) :: (Value.ref 153) :: (Value.int 105 0) :: (Value.int 0 0) :: (Value.ref 160) :: (Value.int 126 0) :: (Value.int 0 0) :: (Value.ref 167) :: (Value.int 137 0) :: (Value.int 0 0) :: (Value.ref 174) :: (Value.int 146 0) :: (Value.int 0 0) :: (Value.ref 181) :: (Value.int 165 0) :: (Value.int 0 0) :: (Value.ref 188) :: (Value.int 168 0) :: (Value.int 0 0) :: (Value.ref 195) :: []))) #[])
noncomputable def ob129 : Params → Obj := fun P => (Obj.mk (Value.type "builtin_function_or_method") none (Data.fields #[(Value.builtin "type.__prepare__"), (Value.type "type")]) #[])
noncomputable def ob130 : Params → Obj := fun P => (Obj.mk (Value.type "dict") none (Data.dict #[(DictEntry.mk (PyData.keyHash P (Str.ofString "__module__")) (Value.str (Str.ofString "__module__") 447) (Value.str (Str.ofString "cpy313.trace") 438)), (DictEntry.mk (PyData.keyHash P (Str.ofString "__qualname__")) (Value.str (Str.ofString "__qualname__") 449) (Value.str (Str.ofString "_Ignore") 448)), (DictEntry.mk (PyData.keyHash P (Str.ofString "__firstlineno__")) (Value.str (Str.ofString "__firstlineno__") 451) (Value.int 168 450)), (DictEntry.mk (PyData.keyHash P (Str.ofString "__init__")) (Value.str (Str.ofString "__init__") 457) (Value.ref 202)), (DictEntry.mk (PyData.keyHash P (Str.ofString "names")) (Value.str (Str.ofString "names") 468) (Value.ref 209)), (DictEntry.mk (PyData.keyHash P (Str.ofString "__static_attributes__")) (Value.str (Str.ofString "__static_attributes__") 472) (Value.ref 210))] 6) #[])
noncomputable def ob131 : Params → Obj := fun P => (Obj.mk Value.none none (Data.fields #[(Value.int 170 0), (Value.int 4 0), (Value.ref 201), (Value.int 175 0), (Value.int 4 0), (Value.ref 208)]) #[])
noncomputable def ob132 : Params → Obj := fun P => (Obj.mk (Value.type "code") none (Data.fields #[(Value.str (Str.ofString "_Ignore") 442), (Value.str (Str.ofString "_Ignore") 443), (Value.str (Str.ofString "/claim/cut.py") 444), (Value.int 168 0), (Value.int 0 0), (Value.int 0 0), (Value.int 0 0), (Value.int 0 0), (Value.ref 193), (Value.bool Bool.false), (Value.int 181 0), (Value.ref 194), Value.none, Value.none, Value.none, Value.none, (Value.int 445 0), (Value.int 168 0), (Value.str (Str.ofString "/claim/cut.py") 446)]) #[])
noncomputable def ob133 : Params → Obj := fun P => (Obj.mk (Value.type "frame") none Data.plain #[(Option.some (Value.ref 195)), (Option.some (Value.ref 3)), (Option.some (Value.ref 192)), none, (Option.some (Value.str (Str.ofString "cpy313.trace") 438)), none, (Option.some (Value.ref 0))])
noncomputable def ob134 : Params → Obj := fun P => (Obj.mk (Value.type "tuple") none (Data.seq #[Value.none, Value.none] 0) #[])
noncomputable def ob135 : Params → Obj := fun P => (Obj.mk Value.none none (Data.func (FuncData.mk (Str.ofString "__init__") (Str.ofString "_Ignore.__init__") (sA (nthT (sB (pst 47)) 0)) (FuncBody.stmts (sB (nthT (sB (pst 47)) 0))) (sS (nthT (sB (pst 47)) 0)) 0 [] Value.none Value.none Value.none Value.none none Value.none Value.none 0)) #[])
noncomputable def ob136 : Params → Obj := fun P => (Obj.mk (Value.type "code") none (Data.fields #[(Value.str (Str.ofString "__init__") 452), (Value.str (Str.ofString "_Ignore.__init__") 453), (Value.str (Str.ofString "/claim/cut.py") 454), (Value.int 170 0), (Value.int 3 0), (Value.int 0 0), (Value.int 0 0), (Value.int 3 0), (Value.ref 198), (Value.bool Bool.true), (Value.int 181 0), (Value.ref 199), Value.none, Value.none, Value.none, (Value.ref 200), (Value.int 455 0), (Value.int 170 0), (Value.str (Str.ofString "/claim/cut.py") 456)]) #[])
noncomputable def ob137 : Params → Obj := fun P => (Obj.mk (Value.type "function") none (Data.func (FuncData.mk (Str.ofString "__init__") (Str.ofString "_Ignore.__init__") (sA (nthT (sB (pst 47)) 0)) (FuncBody.stmts (sB (nthT (sB (pst 47)) 0))) (sS (nthT (sB (pst 47)) 0)) 3 [] (Value.ref 197) Value.none Value.none (Value.str (Str.ofString "cpy313.trace") 438) none (Value.ref 201) Value.none 0)) #[])
noncomputable def ob138 : Params → Obj := fun P => (Obj.mk (Value.type "tuple") none (Data.seq #[(Value.str (Str.ofString "self") 461), (Value.str (Str.ofString "filename") 462), (Value.str (Str.ofString "modulename") 463), (Value.str (Str.ofString "mod") 464), (Value.str (Str.ofString "d") 465)] 0) #[])
noncomputable def ob139 : Params → Obj := fun P => (Obj.mk Value.none none (Data.func (FuncData.mk (Str.ofString "names") (Str.ofString "_Ignore.names") (sA (nthT (sB (pst 47)) 1)) (FuncBody.stmts (sB (nthT (sB (pst 47)) 1))) (sS (nthT (sB (pst 47)) 1)) 0 [] Value.none Value.none Value.none Value.none none Value.none Value.none 0)) #[])
noncomputable def ob140 : Params → Obj := fun P => (Obj.mk (Value.type "code") none (Data.fields #[(Value.str (Str.ofString "names") 458), (Value.str (Str.ofString "_Ignore.names") 459), (Value.str (Str.ofString "/claim/cut.py") 460), (Value.int 175 0), (Value.int 3 0), (Value.int 0 0), (Value.int 0 0), (Value.int 3 0), (Value.ref 203), (Value.bool Bool.true), (Value.int 181 0), (Value.ref 204), Value.none, (Value.ref 205), (Value.ref 206), (Value.ref 207), (Value.int 466 0), (Value.int 175 0), (Value.str (Str.ofString "/claim/cut.py") 467)]) #[])
noncomputable def ob141 : Params → Obj := fun P => (Obj.mk (Value.type "function") none (Data.func (FuncData.mk (Str.ofString "names") (Str.ofString "_Ignore.names") (sA (nthT (sB (pst 47)) 1)) (FuncBody.stmts (sB (nthT (sB (pst 47)) 1))) (sS (nthT (sB (pst 47)) 1)) 3 [] Value.none Value.none Value.none (Value.str (Str.ofString "cpy313.trace") 438) none (Value.ref 208) Value.none 0)) #[])
noncomputable def ob142 : Params → Obj := fun P => (Obj.mk (Value.type "tuple") none (Data.seq #[(Value.str (Str.ofString "_dirs") 469), (Value.str (Str.ofString "_ignore") 470), (Value.str (Str.ofString "_mods") 471)] 0) #[])
noncomputable def ob143 : Params → Obj := fun P => (Obj.mk (Value.type "dict") none (Data.dict #[(DictEntry.mk (PyData.keyHash P (Str.ofString "__module__")) (Value.str (Str.ofString "__module__") 447) (Value.str (Str.ofString "cpy313.trace") 438)), (DictEntry.mk (PyData.keyHash P (Str.ofString "__firstlineno__")) (Value.str (Str.ofString "__firstlineno__") 451) (Value.int 168 450)), (DictEntry.mk (PyData.keyHash P (Str.ofString "__init__")) (Value.str (Str.ofString "__init__") 457) (Value.ref 202)), (DictEntry.mk (PyData.keyHash P (Str.ofString "names")) (Value.str (Str.ofString "names") 468) (Value.ref 209)), (DictEntry.mk (PyData.keyHash P (Str.ofString "__static_attributes__")) (Value.str (Str.ofString "__static_attributes__") 472) (Value.ref 210)), (DictEntry.mk (PyData.keyHash P (Str.ofString "__dict__")) (Value.str (Str.ofString "__dict__") 474) (Value.ref 213)), (DictEntry.mk (PyData.keyHash P (Str.ofString "__weakref__")) (Value.str (Str.ofString "__weakref__") 476) (Value.ref 214)), (DictEntry.mk (PyData.keyHash P (Str.ofString "__doc__")) (Value.str (Str.ofString "__doc__") 477) Value.none)] 4) #[])
noncomputable def ob144 : Params → Obj := fun P => (Obj.mk (Value.type "type") none (Data.cls (ClassData.mk (Str.ofString "_Ignore") [(Value.type "object")] [(Value.ref 212), (Value.type "object")] 211 (Str.ofString "_Ignore") Bool.true [] [] Bool.false none Bool.false)) #[none, none, (Option.some (Value.str (Str.ofString "_Ignore") 440)), (Option.some (Value.str (Str.ofString "_Ignore") 448)), (Option.some (Value.builtin "object.__new__")), (Option.some (Value.bool Bool.true))])
noncomputable def ob145 : Params → Obj := fun P => (Obj.mk (Value.type "getset_descriptor") none (Data.fields #[(Value.str (Str.ofString "__dict__") 473), (Value.ref 212), (Value.builtin "function.__dict__"), (Value.builtin "function.__dict__#set")]) #[])
noncomputable def ob146 : Params → Obj := fun P => (Obj.mk (Value.type "getset_descriptor") none (Data.fields #[(Value.str (Str.ofString "__weakref__") 475), (Value.ref 212), (Value.builtin "ExceptionGroup.__weakref__"), Value.none]) #[])
noncomputable def ob147 : Params → Obj := fun P => (Obj.mk (Value.type "super") none (Data.fields #[(Value.ref 212), (Value.ref 212), (Value.ref 212)]) #[])
noncomputable def ob148 : Params → Obj := fun P => (Obj.mk (Value.type "builtin_function_or_method") none (Data.fields #[(Value.builtin "object.__init_subclass__"), (Value.ref 212)]) #[])
noncomputable def ob149 : Params → Obj := fun P => (Obj.mk (Value.type "dict") none (Data.dict (List.toArray ((DictEntry.mk (PyData.keyHash P (Str.ofString "__name__")) (Value.str (Str.ofString "__name__") 165) (Value.str (Str.ofString "law_om0050_01") 480)) :: (DictEntry.mk (PyData.keyHash P (Str.ofString "__doc__")) (Value.str (Str.ofString "__doc__") 166) Value.none) :: (DictEntry.mk (PyData.keyHash P (Str.ofString "__package__")) (Value.str (Str.ofString "__package__") 167) Value.none) :: (DictEntry.mk (PyData.keyHash P (Str.ofString "__loader__")) (Value.str (Str.ofString "__loader__") 168) (Value.builtin "__main__.__loader__#opaque")) :: (DictEntry.mk (PyData.keyHash P (Str.ofString "__spec__")) (Value.str (Str.ofString "__spec__") 169) Value.none) :: (DictEntry.mk (PyData.keyHash P (Str.ofString "__annotations__")) (Value.str (Str.ofString "__annotations__") 170) (Value.ref 6)) :: (DictEntry.mk (PyData.keyHash P (Str.ofString "__builtins__")) (Value.str (Str.ofString "__builtins__") 171) (Value.ref 4)) :: (DictEntry.mk (PyData.keyHash P (Str.ofString "__file__")) (Value.str (Str.ofString "__file__") 173) (Value.str (Str.ofString "/claim/cut.py") 172)) :: (DictEntry.mk (PyData.keyHash P (Str.ofString "__cached__")) (Value.str (Str.ofString "__cached__") 174) Value.none) :: (DictEntry.mk (PyData.keyHash P (Str.ofString "_wall")) (Value.str (Str.ofString "_wall") 193) (Value.ref 21)) :: (DictEntry.mk (PyData.keyHash P (Str.ofString "S_IMODE")) (Value.str (Str.ofString "S_IMODE") 202) (Value.ref 28)) :: (DictEntry.mk (PyData.keyHash P (Str.ofString "S_IFMT")) (Value.str (Str.ofString "S_IFMT") 209) (Value.ref 35)) :: (DictEntry.mk (PyData.keyHash P (Str.ofString "S_IFDIR")) (Value.str (Str.ofString "S_IFDIR") 211) (Value.int 16384 210)) :: (DictEntry.mk (PyData.keyHash P (Str.ofString "S_IFCHR")) (Value.str (Str.ofString "S_IFCHR") 213) (Value.int 8192 212)) :: (DictEntry.mk (PyData.keyHash P (Str.ofString "S_IFBLK")) (Value.str (Str.ofString "S_IFBLK") 215) (Value.int 24576 214)) :: (DictEntry.mk (PyData.keyHash P (Str.ofString "S_IFREG")) (Value.str (Str.ofString "S_IFREG") 217) (Value.int 32768 216)) :: (DictEntry.mk (PyData.keyHash P (Str.ofString "S_IFIFO")) (Value.str (Str.ofString "S_IFIFO") 219) (Value.int 4096 218)) :: (DictEntry.mk (PyData.keyHash P (Str.ofString "S_IFLNK")) (Value.str (Str.ofString "S_IFLNK") 221) (Value.int 40960 220)) :: (DictEntry.mk (PyData.keyHash P (Str.ofString "S_IFSOCK")) (Value.str (Str.ofString "S_IFSOCK") 223) (Value.int 49152 222)) :: (DictEntry.mk (PyData.keyHash P (Str.ofString "S_ISDIR")) (Value.str (Str.ofString "S_ISDIR") 230) (Value.ref 42)) :: (DictEntry.mk (PyData.keyHash P (Str.ofString "S_ISCHR")) (Value.str (Str.ofString "S_ISCHR") 237) (Value.ref 49)) :: (DictEntry.mk (PyData.keyHash P (Str.ofString "S_ISBLK")) (Value.str (Str.ofString "S_ISBLK") 244) (Value.ref 56)) :: (DictEntry.mk (PyData.keyHash P (Str.ofString "S_ISREG")) (Value.str (Str.ofString "S_ISREG") 251) (Value.ref 63)) :: (DictEntry.mk (PyData.keyHash P (Str.ofString "S_ISFIFO")) (Value.str (Str.ofString "S_ISFIFO") 258) (Value.ref 70)) :: (DictEntry.mk (PyData.keyHash P (Str.ofString "S_ISLNK")) (Value.str (Str.ofString "S_ISLNK") 265) (Value.ref 77)) :: (DictEntry.mk (PyData.keyHash P (Str.ofString "S_ISSOCK")) (Value.str (Str.ofString "S_ISSOCK") 272) (Value.ref 84)) :: (DictEntry.mk (PyData.keyHash P (Str.ofString "S_ISUID")) (Value.str (Str.ofString "S_ISUID") 274) (Value.int 2048 273)) :: (DictEntry.mk (PyData.keyHash P (Str.ofString "S_ISGID")) (Value.str (Str.ofString "S_ISGID") 276) (Value.int 1024 275)) :: (DictEntry.mk (PyData.keyHash P (Str.ofString "S_ISVTX")) (Value.str (Str.ofString "S_ISVTX") 278) (Value.int 512 277)) :: (DictEntry.mk (PyData.keyHash P (Str.ofString "S_IRUSR")) (Value.str (Str.ofString "S_IRUSR") 280) (Value.int 256 279)) :: (DictEntry.mk (PyData.keyHash P (Str.ofString "S_IWUSR")) (Value.str (Str.ofString "S_IWUSR") 282) (Value.int 128 281)) :: (DictEntry.mk (PyData.keyHash P (Str.ofString "S_IXUSR")) (Value.str (Str.ofString "S_IXUSR") 284) (Value.int 64 283)) :: (DictEntry.mk (PyData.keyHash P (Str.ofString "S_IRGRP")) (Value.str (Str.ofString "S_IRGRP") 286) (Value.int 32 285)) :: (DictEntry.mk (PyData.keyHash P (Str.ofString "S_IWGRP")) (Value.str (Str.ofString "S_IWGRP") 288) (Value.int 16 287)) :: (DictEntry.mk (PyData.keyHash P (Str.ofString "S_IXGRP")) (Value.str (Str.ofString "S_IXGRP") 290) (Value.int 8 289)) :: (DictEntry.mk (PyData.keyHash P (Str.ofString "S_IROTH")) (Value.str (Str.ofString "S_IROTH") 292) (Value.int 4 291)) :: (DictEntry.mk (PyData.keyHash P (Str.ofString "S_IWOTH")) (Value.str (Str.ofString "S_IWOTH") 294) (Value.int 2 293)) :: (DictEntry.mk (PyData.keyHash P (Str.ofString "S_IXOTH")) (Value.str (Str.ofString "S_IXOTH") 296) (Value.int 1 295)) :: (DictEntry.mk (PyData.keyHash P (Str.ofString "_filemode_table")) (Value.str (Str.ofString "_filemode_table") 322) (Value.ref 117)) :: (DictEntry.mk (PyData.keyHash P (Str.ofString "filemode")) (Value.str (Str.ofString "filemode") 334) (Value.ref 124)) :: (DictEntry.mk (PyData.keyHash P (Str.ofString "_buffer")) (Value.str (Str.ofString "_buffer") 344) (Value.ref 131)) :: (DictEntry.mk (PyData.keyHash P (Str.ofString "_truth")) (Value.str (Str.ofString "_truth") 352) (Value.ref 138)) :: (DictEntry.mk (PyData.keyHash P (Str.ofString "_B64")) (Value.str (Str.ofString "_B64") 354) (Value.bytes (List.toArray (65 :: 66 :: 67 :: 68 :: 69 :: 70 :: 71 :: 72 :: 73 :: 74 :: 75 :: 76 :: 77 :: 78 :: 79 :: 80 :: 81 :: 82 :: 83 :: 84 :: 85 :: 86 :: 87 :: 88 :: 89 :: 90 :: 97 :: 98 :: 99 :: 100 :: 101 :: 102 :: 103 :: 104 :: 105 :: 106 :: 107 :: 108 :: 109 :: 110 :: 111 :: 112 :: 113 :: 114 :: 115 :: 116 :: 117 :: 118 :: 119 :: 120 :: 121 :: 122 :: 48 :: 49 :: 50 :: 51 :: 52 :: 53 :: 54 :: 55 :: 56 :: 57 :: 43 :: 47 :: [])) 353)) :: (DictEntry.mk (PyData.keyHash P (Str.ofString "b2a_base64")) (Value.str (Str.ofString "b2a_base64") 368) (Value.ref 146)) :: (DictEntry.mk (PyData.keyHash P (Str.ofString "b64encode")) (Value.str (Str.ofString "b64encode") 379) (Value.ref 154)) :: (DictEntry.mk (PyData.keyHash P (Str.ofString "sep")) (Value.str (Str.ofString "sep") 381) (Value.str (Str.ofString "/") 380)) :: (DictEntry.mk (PyData.keyHash P (Str.ofString "_kind")) (Value.str (Str.ofString "_kind") 392) (Value.ref 161)) :: (DictEntry.mk (PyData.keyHash P (Str.ofString "_c_path")) (Value.str (Str.ofString "_c_path") 405) (Value.ref 168)) :: (DictEntry.mk (PyData.keyHash P (Str.ofString "_splitroot")) (Value.str (Str.ofString "_splitroot") 414) (Value.ref 175)) :: (DictEntry.mk (PyData.keyHash P (Str.ofString "_normpath")) (Value.str (Str.ofString "_normpath") 429) (Value.ref 182)) :: (DictEntry.mk (PyData.keyHash P (Str.ofString "normpath")) (Value.str (Str.ofString "normpath") 437) (Value.ref 189)) :: (DictEntry.mk (PyData.keyHash P (Str.ofString "_Ignore")) (Value.str (Str.ofString "_Ignore") 479) (Value.ref 212)) :: (DictEntry.mk (PyData.keyHash P (Str.ofString "_law_parts")) (Value.str (Str.ofString "_law_parts") 493) (Value.ref 223)) :: (DictEntry.mk (PyData.keyHash P (Str.ofString "_law_numbered")) (Value.str (Str.ofString "_law_numbered") 499) (Value.ref 228)) :: (DictEntry.mk (PyData.keyHash P (Str.ofString "_law_seen")) (Value.str (Str.ofString "_law_seen") 505) (Value.ref 233)) :: (DictEntry.mk (PyData.keyHash P (Str.ofString "_law_asked")) (Value.str (Str.ofString "_law_asked") 511) (Value.ref 238)) :: (DictEntry.mk (PyData.keyHash P (Str.ofString "_law_row")) (Value.str (Str.ofString "_law_row") 521) (Value.ref 245)) :: (DictEntry.mk (PyData.keyHash P (Str.ofString "_law_named")) (Value.str (Str.ofString "_law_named") 531) (Value.ref 252)) :: (DictEntry.mk (PyData.keyHash P (Str.ofString "_law_file")) (Value.str (Str.ofString "_law_file") 537) (Value.ref 257)) :: (DictEntry.mk (PyData.keyHash P (Str.ofString "_law_made")) (Value.str (Str.ofString "_law_made") 543) (Value.ref 262)) :: [])) 60) #[])
noncomputable def ob150 : Params → Obj := fun P => (Obj.mk Value.none none (Data.fields (List.toArray ((Value.int 1 0) :: (Value.int 0 0) :: (Value.ref 20) :: (Value.int 5 0) :: (Value.int 0 0) :: (Value.ref 27) :: (Value.int 7 0) :: (Value.int 0 0) :: (Value.ref 34) :: (Value.int 16 0) :: (Value.int 0 0) :: (Value.ref 41) :: (Value.int 18 0) :: (Value.int 0 0) :: (Value.ref 48) :: (Value.int 20 0) :: (Value.int 0 0) :: (Value.ref 55) :: (Value.int 22 0) :: (Value.int 0 0) :: (Value.ref 62) :: (Value.int 24 0) :: (Value.int 0 0) :: (Value.ref 69) :: (Value.int 26 0) :: (Value.int 0 0) :: (Value.ref 76) :: (Value.int 28 0) :: (Value.int 0 0) :: (Value.ref 83) :: (Value.int 43 0) :: (Value.int 0 0) :: (Value.ref 123) :: (Value.int 61 0) :: (Value.int 0 0) :: (Value.ref 130) :: (Value.int 68 0) :: (Value.int 0 0) :: (Value.ref 137) :: (Value.int 74 0) :: (Value.int 0 0) :: (Value.ref 145) :: (Value.int 97 0) :: (Value.int 0 0) :: (Value.ref 153) :: (Value.int 105 0) :: (Value.int 0 0) :: (Value.ref 160) :: (Value.int 126 0) :: (Value.int 0 0) :: (Value.ref 167) :: (Value.int 137 0) :: (Value.int 0 0) :: (Value.ref 174) :: (Value.int 146 0) :: (Value.int 0 0) :: (Value.ref 181) :: (Value.int 165 0) :: (Value.int 0 0) :: (Value.ref 188) :: (Value.int 168 0) :: (Value.int 0 0) :: (Value.ref 195) :: (Value.int 195 0) :: (Value.int 0 0) :: (Value.ref 222) :: (Value.int 202 0) :: (Value.int 0 0) :: (Value.ref 227) :: (Value.int 204 0) :: (Value.int 0 0) :: (Value.ref 232) :: (Value.int 208 0) :: (Value.int 0 0) :: (Value.ref 237) :: (Value.int 213 0) :: (Value.int 0 0) :: (Value.ref 244) :: (Value.int 219 0) :: (Value.int 0 0) :: (Value.ref 251) :: (Value.int 223 0) :: (Value.int 0 0) :: (Value.ref 256) :: (Value.int 229 0) :: (Value.int 0 0) :: (Value.ref 261) :: []))) #[])
noncomputable def ob151 : Params → Obj := fun P => (Obj.mk (Value.type "tuple") none (Data.seq #[(Value.str (Str.ofString "mode") 485), (Value.str (Str.ofString "parts") 486), (Value.str (Str.ofString "k") 487), (Value.str (Str.ofString "figure") 488), (Value.str (Str.ofString "above") 489), (Value.str (Str.ofString "ends") 490)] 0) #[])
noncomputable def ob152 : Params → Obj := fun P => (Obj.mk Value.none none (Data.func (FuncData.mk (Str.ofString "_law_parts") (Str.ofString "_law_parts") (sA (pst 49)) (FuncBody.stmts (sB (pst 49))) (sS (pst 49)) 0 [] Value.none Value.none Value.none Value.none none Value.none Value.none 0)) #[])
noncomputable def ob153 : Params → Obj := fun P => (Obj.mk (Value.type "code") none (Data.fields #[(Value.str (Str.ofString "_law_parts") 482), (Value.str (Str.ofString "_law_parts") 483), (Value.str (Str.ofString "/claim/cut.py") 484), (Value.int 195 0), (Value.int 1 0), (Value.int 0 0), (Value.int 0 0), (Value.int 3 0), (Value.ref 217), (Value.bool Bool.true), (Value.int 181 0), (Value.ref 218), Value.none, (Value.ref 219), (Value.ref 220), (Value.ref 221), (Value.int 491 0), (Value.int 195 0), (Value.str (Str.ofString "/claim/cut.py") 492)]) #[])
noncomputable def ob154 : Params → Obj := fun P => (Obj.mk (Value.type "function") none (Data.func (FuncData.mk (Str.ofString "_law_parts") (Str.ofString "_law_parts") (sA (pst 49)) (FuncBody.stmts (sB (pst 49))) (sS (pst 49)) 3 [] Value.none Value.none Value.none (Value.str (Str.ofString "law_om0050_01") 480) none (Value.ref 222) Value.none 0)) #[])
noncomputable def ob155 : Params → Obj := fun P => (Obj.mk Value.none none (Data.func (FuncData.mk (Str.ofString "_law_numbered") (Str.ofString "_law_numbered") (sA (pst 50)) (FuncBody.stmts (sB (pst 50))) (sS (pst 50)) 0 [] Value.none Value.none Value.none Value.none none Value.none Value.none 0)) #[])
noncomputable def ob156 : Params → Obj := fun P => (Obj.mk (Value.type "code") none (Data.fields #[(Value.str (Str.ofString "_law_numbered") 494), (Value.str (Str.ofString "_law_numbered") 495), (Value.str (Str.ofString "/claim/cut.py") 496), (Value.int 202 0), (Value.int 1 0), (Value.int 0 0), (Value.int 0 0), (Value.int 3 0), (Value.ref 224), (Value.bool Bool.true), (Value.int 181 0), (Value.ref 225), Value.none, Value.none, Value.none, (Value.ref 226), (Value.int 497 0), (Value.int 202 0), (Value.str (Str.ofString "/claim/cut.py") 498)]) #[])
noncomputable def ob157 : Params → Obj := fun P => (Obj.mk (Value.type "function") none (Data.func (FuncData.mk (Str.ofString "_law_numbered") (Str.ofString "_law_numbered") (sA (pst 50)) (FuncBody.stmts (sB (pst 50))) (sS (pst 50)) 3 [] Value.none Value.none Value.none (Value.str (Str.ofString "law_om0050_01") 480) none (Value.ref 227) Value.none 0)) #[])
noncomputable def ob158 : Params → Obj := fun P => (Obj.mk Value.none none (Data.func (FuncData.mk (Str.ofString "_law_seen") (Str.ofString "_law_seen") (sA (pst 51)) (FuncBody.stmts (sB (pst 51))) (sS (pst 51)) 0 [] Value.none Value.none Value.none Value.none none Value.none Value.none 0)) #[])
noncomputable def ob159 : Params → Obj := fun P => (Obj.mk (Value.type "code") none (Data.fields #[(Value.str (Str.ofString "_law_seen") 500), (Value.str (Str.ofString "_law_seen") 501), (Value.str (Str.ofString "/claim/cut.py") 502), (Value.int 204 0), (Value.int 1 0), (Value.int 0 0), (Value.int 0 0), (Value.int 3 0), (Value.ref 229), (Value.bool Bool.true), (Value.int 181 0), (Value.ref 230), Value.none, Value.none, Value.none, (Value.ref 231), (Value.int 503 0), (Value.int 204 0), (Value.str (Str.ofString "/claim/cut.py") 504)]) #[])
noncomputable def ob160 : Params → Obj := fun P => (Obj.mk (Value.type "function") none (Data.func (FuncData.mk (Str.ofString "_law_seen") (Str.ofString "_law_seen") (sA (pst 51)) (FuncBody.stmts (sB (pst 51))) (sS (pst 51)) 3 [] Value.none Value.none Value.none (Value.str (Str.ofString "law_om0050_01") 480) none (Value.ref 232) Value.none 0)) #[])
noncomputable def ob161 : Params → Obj := fun P => (Obj.mk Value.none none (Data.func (FuncData.mk (Str.ofString "_law_asked") (Str.ofString "_law_asked") (sA (pst 52)) (FuncBody.stmts (sB (pst 52))) (sS (pst 52)) 0 [] Value.none Value.none Value.none Value.none none Value.none Value.none 0)) #[])
noncomputable def ob162 : Params → Obj := fun P => (Obj.mk (Value.type "code") none (Data.fields #[(Value.str (Str.ofString "_law_asked") 506), (Value.str (Str.ofString "_law_asked") 507), (Value.str (Str.ofString "/claim/cut.py") 508), (Value.int 208 0), (Value.int 1 0), (Value.int 0 0), (Value.int 0 0), (Value.int 3 0), (Value.ref 234), (Value.bool Bool.true), (Value.int 181 0), (Value.ref 235), Value.none, Value.none, Value.none, (Value.ref 236), (Value.int 509 0), (Value.int 208 0), (Value.str (Str.ofString "/claim/cut.py") 510)]) #[])
noncomputable def ob163 : Params → Obj := fun P => (Obj.mk (Value.type "function") none (Data.func (FuncData.mk (Str.ofString "_law_asked") (Str.ofString "_law_asked") (sA (pst 52)) (FuncBody.stmts (sB (pst 52))) (sS (pst 52)) 3 [] Value.none Value.none Value.none (Value.str (Str.ofString "law_om0050_01") 480) none (Value.ref 237) Value.none 0)) #[])
noncomputable def ob164 : Params → Obj := fun P => (Obj.mk (Value.type "tuple") none (Data.seq #[(Value.str (Str.ofString "script") 515), (Value.str (Str.ofString "masks") 516), (Value.str (Str.ofString "row") 517), (Value.str (Str.ofString "v") 518)] 0) #[])
noncomputable def ob165 : Params → Obj := fun P => (Obj.mk Value.none none (Data.func (FuncData.mk (Str.ofString "_law_row") (Str.ofString "_law_row") (sA (pst 53)) (FuncBody.stmts (sB (pst 53))) (sS (pst 53)) 0 [] Value.none Value.none Value.none Value.none none Value.none Value.none 0)) #[])
noncomputable def ob166 : Params → Obj := fun P => (Obj.mk (Value.type "code") none (Data.fields #[(Value.str (Str.ofString "_law_row") 512), (Value.str (Str.ofString "_law_row") 513), (Value.str (Str.ofString "/claim/cut.py") 514), (Value.int 213 0), (Value.int 1 0), (Value.int 0 0), (Value.int 0 0), (Value.int 3 0), (Value.ref 239), (Value.bool Bool.true), (Value.int 181 0), (Value.ref 240), Value.none, (Value.ref 241), (Value.ref 242), (Value.ref 243), (Value.int 519 0), (Value.int 213 0), (Value.str (Str.ofString "/claim/cut.py") 520)]) #[])
noncomputable def ob167 : Params → Obj := fun P => (Obj.mk (Value.type "function") none (Data.func (FuncData.mk (Str.ofString "_law_row") (Str.ofString "_law_row") (sA (pst 53)) (FuncBody.stmts (sB (pst 53))) (sS (pst 53)) 3 [] Value.none Value.none Value.none (Value.str (Str.ofString "law_om0050_01") 480) none (Value.ref 244) Value.none 0)) #[])
noncomputable def ob168 : Params → Obj := fun P => (Obj.mk (Value.type "tuple") none (Data.seq #[(Value.str (Str.ofString "first") 525), (Value.str (Str.ofString "names") 526), (Value.str (Str.ofString "pick") 527), (Value.str (Str.ofString "name") 528)] 0) #[])
noncomputable def ob169 : Params → Obj := fun P => (Obj.mk Value.none none (Data.func (FuncData.mk (Str.ofString "_law_named") (Str.ofString "_law_named") (sA (pst 54)) (FuncBody.stmts (sB (pst 54))) (sS (pst 54)) 0 [] Value.none Value.none Value.none Value.none none Value.none Value.none 0)) #[])
noncomputable def ob170 : Params → Obj := fun P => (Obj.mk (Value.type "code") none (Data.fields #[(Value.str (Str.ofString "_law_named") 522), (Value.str (Str.ofString "_law_named") 523), (Value.str (Str.ofString "/claim/cut.py") 524), (Value.int 219 0), (Value.int 2 0), (Value.int 0 0), (Value.int 0 0), (Value.int 3 0), (Value.ref 246), (Value.bool Bool.true), (Value.int 181 0), (Value.ref 247), Value.none, (Value.ref 248), (Value.ref 249), (Value.ref 250), (Value.int 529 0), (Value.int 219 0), (Value.str (Str.ofString "/claim/cut.py") 530)]) #[])
noncomputable def ob171 : Params → Obj := fun P => (Obj.mk (Value.type "function") none (Data.func (FuncData.mk (Str.ofString "_law_named") (Str.ofString "_law_named") (sA (pst 54)) (FuncBody.stmts (sB (pst 54))) (sS (pst 54)) 3 [] Value.none Value.none Value.none (Value.str (Str.ofString "law_om0050_01") 480) none (Value.ref 251) Value.none 0)) #[])
noncomputable def ob172 : Params → Obj := fun P => (Obj.mk Value.none none (Data.func (FuncData.mk (Str.ofString "_law_file") (Str.ofString "_law_file") (sA (pst 55)) (FuncBody.stmts (sB (pst 55))) (sS (pst 55)) 0 [] Value.none Value.none Value.none Value.none none Value.none Value.none 0)) #[])
noncomputable def ob173 : Params → Obj := fun P => (Obj.mk (Value.type "code") none (Data.fields #[(Value.str (Str.ofString "_law_file") 532), (Value.str (Str.ofString "_law_file") 533), (Value.str (Str.ofString "/claim/cut.py") 534), (Value.int 223 0), (Value.int 3 0), (Value.int 0 0), (Value.int 0 0), (Value.int 3 0), (Value.ref 253), (Value.bool Bool.true), (Value.int 181 0), (Value.ref 254), Value.none, Value.none, Value.none, (Value.ref 255), (Value.int 535 0), (Value.int 223 0), (Value.str (Str.ofString "/claim/cut.py") 536)]) #[])
noncomputable def ob174 : Params → Obj := fun P => (Obj.mk (Value.type "function") none (Data.func (FuncData.mk (Str.ofString "_law_file") (Str.ofString "_law_file") (sA (pst 55)) (FuncBody.stmts (sB (pst 55))) (sS (pst 55)) 3 [] Value.none Value.none Value.none (Value.str (Str.ofString "law_om0050_01") 480) none (Value.ref 256) Value.none 0)) #[])
noncomputable def ob175 : Params → Obj := fun P => (Obj.mk Value.none none (Data.func (FuncData.mk (Str.ofString "_law_made") (Str.ofString "_law_made") (sA (pst 56)) (FuncBody.stmts (sB (pst 56))) (sS (pst 56)) 0 [] Value.none Value.none Value.none Value.none none Value.none Value.none 0)) #[])
noncomputable def ob176 : Params → Obj := fun P => (Obj.mk (Value.type "code") none (Data.fields #[(Value.str (Str.ofString "_law_made") 538), (Value.str (Str.ofString "_law_made") 539), (Value.str (Str.ofString "/claim/cut.py") 540), (Value.int 229 0), (Value.int 3 0), (Value.int 0 0), (Value.int 0 0), (Value.int 3 0), (Value.ref 258), (Value.bool Bool.true), (Value.int 181 0), (Value.ref 259), Value.none, Value.none, Value.none, (Value.ref 260), (Value.int 541 0), (Value.int 229 0), (Value.str (Str.ofString "/claim/cut.py") 542)]) #[])
noncomputable def ob177 : Params → Obj := fun P => (Obj.mk (Value.type "function") none (Data.func (FuncData.mk (Str.ofString "_law_made") (Str.ofString "_law_made") (sA (pst 56)) (FuncBody.stmts (sB (pst 56))) (sS (pst 56)) 3 [] Value.none Value.none Value.none (Value.str (Str.ofString "law_om0050_01") 480) none (Value.ref 261) Value.none 0)) #[])
noncomputable def ob178 : Params → Obj := fun P => (Obj.mk (Value.type "dict") none (Data.dict (List.toArray ((DictEntry.mk (PyData.keyHash P (Str.ofString "__name__")) (Value.str (Str.ofString "__name__") 165) (Value.str (Str.ofString "law_om0050_01") 480)) :: (DictEntry.mk (PyData.keyHash P (Str.ofString "__doc__")) (Value.str (Str.ofString "__doc__") 166) Value.none) :: (DictEntry.mk (PyData.keyHash P (Str.ofString "__package__")) (Value.str (Str.ofString "__package__") 167) Value.none) :: (DictEntry.mk (PyData.keyHash P (Str.ofString "__loader__")) (Value.str (Str.ofString "__loader__") 168) (Value.builtin "__main__.__loader__#opaque")) :: (DictEntry.mk (PyData.keyHash P (Str.ofString "__spec__")) (Value.str (Str.ofString "__spec__") 169) Value.none) :: (DictEntry.mk (PyData.keyHash P (Str.ofString "__annotations__")) (Value.str (Str.ofString "__annotations__") 170) (Value.ref 6)) :: (DictEntry.mk (PyData.keyHash P (Str.ofString "__builtins__")) (Value.str (Str.ofString "__builtins__") 171) (Value.ref 4)) :: (DictEntry.mk (PyData.keyHash P (Str.ofString "__file__")) (Value.str (Str.ofString "__file__") 173) (Value.str (Str.ofString "/claim/cut.py") 172)) :: (DictEntry.mk (PyData.keyHash P (Str.ofString "__cached__")) (Value.str (Str.ofString "__cached__") 174) Value.none) :: (DictEntry.mk (PyData.keyHash P (Str.ofString "_wall")) (Value.str (Str.ofString "_wall") 193) (Value.ref 21)) :: (DictEntry.mk (PyData.keyHash P (Str.ofString "S_IMODE")) (Value.str (Str.ofString "S_IMODE") 202) (Value.ref 28)) :: (DictEntry.mk (PyData.keyHash P (Str.ofString "S_IFMT")) (Value.str (Str.ofString "S_IFMT") 209) (Value.ref 35)) :: (DictEntry.mk (PyData.keyHash P (Str.ofString "S_IFDIR")) (Value.str (Str.ofString "S_IFDIR") 211) (Value.int 16384 210)) :: (DictEntry.mk (PyData.keyHash P (Str.ofString "S_IFCHR")) (Value.str (Str.ofString "S_IFCHR") 213) (Value.int 8192 212)) :: (DictEntry.mk (PyData.keyHash P (Str.ofString "S_IFBLK")) (Value.str (Str.ofString "S_IFBLK") 215) (Value.int 24576 214)) :: (DictEntry.mk (PyData.keyHash P (Str.ofString "S_IFREG")) (Value.str (Str.ofString "S_IFREG") 217) (Value.int 32768 216)) :: (DictEntry.mk (PyData.keyHash P (Str.ofString "S_IFIFO")) (Value.str (Str.ofString "S_IFIFO") 219) (Value.int 4096 218)) :: (DictEntry.mk (PyData.keyHash P (Str.ofString "S_IFLNK")) (Value.str (Str.ofString "S_IFLNK") 221) (Value.int 40960 220)) :: (DictEntry.mk (PyData.keyHash P (Str.ofString "S_IFSOCK")) (Value.str (Str.ofString "S_IFSOCK") 223) (Value.int 49152 222)) :: (DictEntry.mk (PyData.keyHash P (Str.ofString "S_ISDIR")) (Value.str (Str.ofString "S_ISDIR") 230) (Value.ref 42)) :: (DictEntry.mk (PyData.keyHash P (Str.ofString "S_ISCHR")) (Value.str (Str.ofString "S_ISCHR") 237) (Value.ref 49)) :: (DictEntry.mk (PyData.keyHash P (Str.ofString "S_ISBLK")) (Value.str (Str.ofString "S_ISBLK") 244) (Value.ref 56)) :: (DictEntry.mk (PyData.keyHash P (Str.ofString "S_ISREG")) (Value.str (Str.ofString "S_ISREG") 251) (Value.ref 63)) :: (DictEntry.mk (PyData.keyHash P (Str.ofString "S_ISFIFO")) (Value.str (Str.ofString "S_ISFIFO") 258) (Value.ref 70)) :: (DictEntry.mk (PyData.keyHash P (Str.ofString "S_ISLNK")) (Value.str (Str.ofString "S_ISLNK") 265) (Value.ref 77)) :: (DictEntry.mk (PyData.keyHash P (Str.ofString "S_ISSOCK")) (Value.str (Str.ofString "S_ISSOCK") 272) (Value.ref 84)) :: (DictEntry.mk (PyData.keyHash P (Str.ofString "S_ISUID")) (Value.str (Str.ofString "S_ISUID") 274) (Value.int 2048 273)) :: (DictEntry.mk (PyData.keyHash P (Str.ofString "S_ISGID")) (Value.str (Str.ofString "S_ISGID") 276) (Value.int 1024 275)) :: (DictEntry.mk (PyData.keyHash P (Str.ofString "S_ISVTX")) (Value.str (Str.ofString "S_ISVTX") 278) (Value.int 512 277)) :: (DictEntry.mk (PyData.keyHash P (Str.ofString "S_IRUSR")) (Value.str (Str.ofString "S_IRUSR") 280) (Value.int 256 279)) :: (DictEntry.mk (PyData.keyHash P (Str.ofString "S_IWUSR")) (Value.str (Str.ofString "S_IWUSR") 282) (Value.int 128 281)) :: (DictEntry.mk (PyData.keyHash P (Str.ofString "S_IXUSR")) (Value.str (Str.ofString "S_IXUSR") 284) (Value.int 64 283)) :: (DictEntry.mk (PyData.keyHash P (Str.ofString "S_IRGRP")) (Value.str (Str.ofString "S_IRGRP") 286) (Value.int 32 285)) :: (DictEntry.mk (PyData.keyHash P (Str.ofString "S_IWGRP")) (Value.str (Str.ofString "S_IWGRP") 288) (Value.int 16 287)) :: (DictEntry.mk (PyData.keyHash P (Str.ofString "S_IXGRP")) (Value.str (Str.ofString "S_IXGRP") 290) (Value.int 8 289)) :: (DictEntry.mk (PyData.keyHash P (Str.ofString "S_IROTH")) (Value.str (Str.ofString "S_IROTH") 292) (Value.int 4 291)) :: (DictEntry.mk (PyData.keyHash P (Str.ofString "S_IWOTH")) (Value.str (Str.ofString "S_IWOTH") 294) (Value.int 2 293)) :: (DictEntry.mk (PyData.keyHash P (Str.ofString "S_IXOTH")) (Value.str (Str.ofString "S_IXOTH") 296) (Value.int 1 295)) :: (DictEntry.mk (PyData.keyHash P (Str.ofString "_filemode_table")) (Value.str (Str.ofString "_filemode_table") 322) (Value.ref 117)) :: (DictEntry.mk (PyData.keyHash P (Str.ofString "filemode")) (Value.str (Str.ofString "filemode") 334) (Value.ref 124)) :: (DictEntry.mk (PyData.keyHash P (Str.ofString "_buffer")) (Value.str (Str.ofString "_buffer") 344) (Value.ref 131)) :: (DictEntry.mk (PyData.keyHash P (Str.ofString "_truth")) (Value.str (Str.ofString "_truth") 352) (Value.ref 138)) :: (DictEntry.mk (PyData.keyHash P (Str.ofString "_B64")) (Value.str (Str.ofString "_B64") 354) (Value.bytes (List.toArray (65 :: 66 :: 67 :: 68 :: 69 :: 70 :: 71 :: 72 :: 73 :: 74 :: 75 :: 76 :: 77 :: 78 :: 79 :: 80 :: 81 :: 82 :: 83 :: 84 :: 85 :: 86 :: 87 :: 88 :: 89 :: 90 :: 97 :: 98 :: 99 :: 100 :: 101 :: 102 :: 103 :: 104 :: 105 :: 106 :: 107 :: 108 :: 109 :: 110 :: 111 :: 112 :: 113 :: 114 :: 115 :: 116 :: 117 :: 118 :: 119 :: 120 :: 121 :: 122 :: 48 :: 49 :: 50 :: 51 :: 52 :: 53 :: 54 :: 55 :: 56 :: 57 :: 43 :: 47 :: [])) 353)) :: (DictEntry.mk (PyData.keyHash P (Str.ofString "b2a_base64")) (Value.str (Str.ofString "b2a_base64") 368) (Value.ref 146)) :: (DictEntry.mk (PyData.keyHash P (Str.ofString "b64encode")) (Value.str (Str.ofString "b64encode") 379) (Value.ref 154)) :: (DictEntry.mk (PyData.keyHash P (Str.ofString "sep")) (Value.str (Str.ofString "sep") 381) (Value.str (Str.ofString "/") 380)) :: (DictEntry.mk (PyData.keyHash P (Str.ofString "_kind")) (Value.str (Str.ofString "_kind") 392) (Value.ref 161)) :: (DictEntry.mk (PyData.keyHash P (Str.ofString "_c_path")) (Value.str (Str.ofString "_c_path") 405) (Value.ref 168)) :: (DictEntry.mk (PyData.keyHash P (Str.ofString "_splitroot")) (Value.str (Str.ofString "_splitroot") 414) (Value.ref 175)) :: (DictEntry.mk (PyData.keyHash P (Str.ofString "_normpath")) (Value.str (Str.ofString "_normpath") 429) (Value.ref 182)) :: (DictEntry.mk (PyData.keyHash P (Str.ofString "normpath")) (Value.str (Str.ofString "normpath") 437) (Value.ref 189)) :: (DictEntry.mk (PyData.keyHash P (Str.ofString "_Ignore")) (Value.str (Str.ofString "_Ignore") 479) (Value.ref 212)) :: (DictEntry.mk (PyData.keyHash P (Str.ofString "_law_parts")) (Value.str (Str.ofString "_law_parts") 493) (Value.ref 223)) :: (DictEntry.mk (PyData.keyHash P (Str.ofString "_law_numbered")) (Value.str (Str.ofString "_law_numbered") 499) (Value.ref 228)) :: (DictEntry.mk (PyData.keyHash P (Str.ofString "_law_seen")) (Value.str (Str.ofString "_law_seen") 505) (Value.ref 233)) :: (DictEntry.mk (PyData.keyHash P (Str.ofString "_law_asked")) (Value.str (Str.ofString "_law_asked") 511) (Value.ref 238)) :: (DictEntry.mk (PyData.keyHash P (Str.ofString "_law_row")) (Value.str (Str.ofString "_law_row") 521) (Value.ref 245)) :: (DictEntry.mk (PyData.keyHash P (Str.ofString "_law_named")) (Value.str (Str.ofString "_law_named") 531) (Value.ref 252)) :: (DictEntry.mk (PyData.keyHash P (Str.ofString "_law_file")) (Value.str (Str.ofString "_law_file") 537) (Value.ref 257)) :: (DictEntry.mk (PyData.keyHash P (Str.ofString "_law_made")) (Value.str (Str.ofString "_law_made") 543) (Value.ref 262)) :: (DictEntry.mk (PyData.keyHash P (Str.ofString "_law_first")) (Value.str (Str.ofString "_law_first") 549) (Value.ref 267)) :: (DictEntry.mk (PyData.keyHash P (Str.ofString "_law_memory")) (Value.str (Str.ofString "_law_memory") 562) (Value.ref 274)) :: (DictEntry.mk (PyData.keyHash P (Str.ofString "law")) (Value.str (Str.ofString "law") 568) (Value.ref 279)) :: [])) 63) #[])
noncomputable def ob179 : Params → Obj := fun P => (Obj.mk Value.none none (Data.fields (List.toArray ((Value.int 1 0) :: (Value.int 0 0) :: (Value.ref 20) :: (Value.int 5 0) :: (Value.int 0 0) :: (Value.ref 27) :: (Value.int 7 0) :: (Value.int 0 0) :: (Value.ref 34) :: (Value.int 16 0) :: (Value.int 0 0) :: (Value.ref 41) :: (Value.int 18 0) :: (Value.int 0 0) :: (Value.ref 48) :: (Value.int 20 0) :: (Value.int 0 0) :: (Value.ref 55) :: (Value.int 22 0) :: (Value.int 0 0) :: (Value.ref 62) :: (Value.int 24 0) :: (Value.int 0 0) :: (Value.ref 69) :: (Value.int 26 0) :: (Value.int 0 0) :: (Value.ref 76) :: (Value.int 28 0) :: (Value.int 0 0) :: (Value.ref 83) :: (Value.int 43 0) :: (Value.int 0 0) :: (Value.ref 123) :: (Value.int 61 0) :: (Value.int 0 0) :: (Value.ref 130) :: (Value.int 68 0) :: (Value.int 0 0) :: (Value.ref 137) :: (Value.int 74 0) :: (Value.int 0 0) :: (Value.ref 145) :: (Value.int 97 0) :: (Value.int 0 0) :: (Value.ref 153) :: (Value.int 105 0) :: (Value.int 0 0) :: (Value.ref 160) :: (Value.int 126 0) :: (Value.int 0 0) :: (Value.ref 167) :: (Value.int 137 0) :: (Value.int 0 0) :: (Value.ref 174) :: (Value.int 146 0) :: (Value.int 0 0) :: (Value.ref 181) :: (Value.int 165 0) :: (Value.int 0 0) :: (Value.ref 188) :: (Value.int 168 0) :: (Value.int 0 0) :: (Value.ref 195) :: (Value.int 195 0) :: (Value.int 0 0) :: (Value.ref 222) :: (Value.int 202 0) :: (Value.int 0 0) :: (Value.ref 227) :: (Value.int 204 0) :: (Value.int 0 0) :: (Value.ref 232) :: (Value.int 208 0) :: (Value.int 0 0) :: (Value.ref 237) :: (Value.int 213 0) :: (Value.int 0 0) :: (Value.ref 244) :: (Value.int 219 0) :: (Value.int 0 0) :: (Value.ref 251) :: (Value.int 223 0) :: (Value.int 0 0) :: (Value.ref 256) :: (Value.int 229 0) :: (Value.int 0 0) :: (Value.ref 261) :: (Value.int 237 0) :: (Value.int 0 0) :: (Value.ref 266) :: (Value.int 241 0) :: (Value.int 0 0) :: (Value.ref 273) :: (Value.int 249 0) :: (Value.int 0 0) :: (Value.ref 278) :: []))) #[])
noncomputable def ob180 : Params → Obj := fun P => (Obj.mk Value.none none (Data.func (FuncData.mk (Str.ofString "_law_first") (Str.ofString "_law_first") (sA (pst 57)) (FuncBody.stmts (sB (pst 57))) (sS (pst 57)) 0 [] Value.none Value.none Value.none Value.none none Value.none Value.none 0)) #[])
noncomputable def ob181 : Params → Obj := fun P => (Obj.mk (Value.type "code") none (Data.fields #[(Value.str (Str.ofString "_law_first") 544), (Value.str (Str.ofString "_law_first") 545), (Value.str (Str.ofString "/claim/cut.py") 546), (Value.int 237 0), (Value.int 4 0), (Value.int 0 0), (Value.int 0 0), (Value.int 3 0), (Value.ref 263), (Value.bool Bool.true), (Value.int 181 0), (Value.ref 264), Value.none, Value.none, Value.none, (Value.ref 265), (Value.int 547 0), (Value.int 237 0), (Value.str (Str.ofString "/claim/cut.py") 548)]) #[])
noncomputable def ob182 : Params → Obj := fun P => (Obj.mk (Value.type "function") none (Data.func (FuncData.mk (Str.ofString "_law_first") (Str.ofString "_law_first") (sA (pst 57)) (FuncBody.stmts (sB (pst 57))) (sS (pst 57)) 3 [] Value.none Value.none Value.none (Value.str (Str.ofString "law_om0050_01") 480) none (Value.ref 266) Value.none 0)) #[])
noncomputable def ob183 : Params → Obj := fun P => (Obj.mk (Value.type "tuple") none (Data.seq #[(Value.str (Str.ofString "names") 553), (Value.str (Str.ofString "due") 554), (Value.str (Str.ofString "b") 555), (Value.str (Str.ofString "memory") 556), (Value.str (Str.ofString "met") 557), (Value.str (Str.ofString "i") 558), (Value.str (Str.ofString "k") 559)] 0) #[])
noncomputable def ob184 : Params → Obj := fun P => (Obj.mk Value.none none (Data.func (FuncData.mk (Str.ofString "_law_memory") (Str.ofString "_law_memory") (sA (pst 58)) (FuncBody.stmts (sB (pst 58))) (sS (pst 58)) 0 [] Value.none Value.none Value.none Value.none none Value.none Value.none 0)) #[])
noncomputable def ob185 : Params → Obj := fun P => (Obj.mk (Value.type "code") none (Data.fields #[(Value.str (Str.ofString "_law_memory") 550), (Value.str (Str.ofString "_law_memory") 551), (Value.str (Str.ofString "/claim/cut.py") 552), (Value.int 241 0), (Value.int 3 0), (Value.int 0 0), (Value.int 0 0), (Value.int 3 0), (Value.ref 268), (Value.bool Bool.true), (Value.int 181 0), (Value.ref 269), Value.none, (Value.ref 270), (Value.ref 271), (Value.ref 272), (Value.int 560 0), (Value.int 241 0), (Value.str (Str.ofString "/claim/cut.py") 561)]) #[])
noncomputable def ob186 : Params → Obj := fun P => (Obj.mk (Value.type "function") none (Data.func (FuncData.mk (Str.ofString "_law_memory") (Str.ofString "_law_memory") (sA (pst 58)) (FuncBody.stmts (sB (pst 58))) (sS (pst 58)) 3 [] Value.none Value.none Value.none (Value.str (Str.ofString "law_om0050_01") 480) none (Value.ref 273) Value.none 0)) #[])
noncomputable def ob187 : Params → Obj := fun P => (Obj.mk Value.none none (Data.func (FuncData.mk (Str.ofString "law") (Str.ofString "law") (sA (pst 59)) (FuncBody.stmts (sB (pst 59))) (sS (pst 59)) 0 [] Value.none Value.none Value.none Value.none none Value.none Value.none 0)) #[])
noncomputable def ob188 : Params → Obj := fun P => (Obj.mk (Value.type "code") none (Data.fields #[(Value.str (Str.ofString "law") 563), (Value.str (Str.ofString "law") 564), (Value.str (Str.ofString "/claim/cut.py") 565), (Value.int 249 0), (Value.int 1 0), (Value.int 0 0), (Value.int 0 0), (Value.int 3 0), (Value.ref 275), (Value.bool Bool.true), (Value.int 181 0), (Value.ref 276), Value.none, Value.none, Value.none, (Value.ref 277), (Value.int 566 0), (Value.int 249 0), (Value.str (Str.ofString "/claim/cut.py") 567)]) #[])
noncomputable def ob189 : Params → Obj := fun P => (Obj.mk (Value.type "function") none (Data.func (FuncData.mk (Str.ofString "law") (Str.ofString "law") (sA (pst 59)) (FuncBody.stmts (sB (pst 59))) (sS (pst 59)) 3 [] Value.none Value.none Value.none (Value.str (Str.ofString "law_om0050_01") 480) none (Value.ref 278) Value.none 0)) #[])
noncomputable def st0 : Params → Heap := fun P => Heap.mk (Array.mk (W.boot_o_0 P :: W.boot_o_1 P :: W.boot_o_2 P :: W.boot_o_3 P :: W.boot_o_4 P :: W.boot_o_5 P :: W.boot_o_6 P :: W.boot_o_7 P :: W.boot_o_8 P :: W.boot_o_9 P :: W.boot_o_10 P :: W.boot_o_7 P :: W.boot_o_8 P :: ob0 P :: ob1 P :: [])) {}
noncomputable def st1 : Params → Heap := fun P => Heap.mk (Array.mk (W.boot_o_0 P :: W.boot_o_1 P :: W.boot_o_2 P :: ob2 P :: W.boot_o_4 P :: W.boot_o_5 P :: W.boot_o_6 P :: W.boot_o_7 P :: W.boot_o_8 P :: W.boot_o_9 P :: W.boot_o_10 P :: W.boot_o_7 P :: ob3 P :: ob0 P :: ob1 P :: W.boot_o_7 P :: W.boot_o_8 P :: ob4 P :: W.boot_o_7 P :: ob5 P :: ob6 P :: ob7 P :: W.boot_o_7 P :: W.boot_o_8 P :: ob8 P :: W.boot_o_7 P :: ob9 P :: ob10 P :: ob11 P :: W.boot_o_7 P :: W.boot_o_8 P :: ob12 P :: W.boot_o_7 P :: ob13 P :: ob14 P :: ob15 P :: W.boot_o_7 P :: W.boot_o_8 P :: ob16 P :: W.boot_o_7 P :: ob17 P :: ob18 P :: ob19 P :: W.boot_o_7 P :: W.boot_o_8 P :: ob20 P :: W.boot_o_7 P :: ob21 P :: ob22 P :: ob23 P :: W.boot_o_7 P :: W.boot_o_8 P :: ob24 P :: W.boot_o_7 P :: ob25 P :: ob26 P :: ob27 P :: [])) {}
noncomputable def st2 : Params → Heap := fun P => Heap.mk (Array.mk (W.boot_o_0 P :: W.boot_o_1 P :: W.boot_o_2 P :: ob28 P :: W.boot_o_4 P :: W.boot_o_5 P :: W.boot_o_6 P :: W.boot_o_7 P :: W.boot_o_8 P :: W.boot_o_9 P :: W.boot_o_10 P :: W.boot_o_7 P :: ob29 P :: ob0 P :: ob1 P :: W.boot_o_7 P :: W.boot_o_8 P :: ob4 P :: W.boot_o_7 P :: ob5 P :: ob6 P :: ob7 P :: W.boot_o_7 P :: W.boot_o_8 P :: ob8 P :: W.boot_o_7 P :: ob9 P :: ob10 P :: ob11 P :: W.boot_o_7 P :: W.boot_o_8 P :: ob12 P :: W.boot_o_7 P :: ob13 P :: ob14 P :: ob15 P :: W.boot_o_7 P :: W.boot_o_8 P :: ob16 P :: W.boot_o_7 P :: ob17 P :: ob18 P :: ob19 P :: W.boot_o_7 P :: W.boot_o_8 P :: ob20 P :: W.boot_o_7 P :: ob21 P :: ob22 P :: ob23 P :: W.boot_o_7 P :: W.boot_o_8 P :: ob24 P :: W.boot_o_7 P :: ob25 P :: ob26 P :: ob27 P :: W.boot_o_7 P :: W.boot_o_8 P :: ob30 P :: W.boot_o_7 P :: ob31 P :: ob32 P :: ob33 P :: W.boot_o_7 P :: W.boot_o_8 P :: ob34 P :: W.boot_o_7 P :: ob35 P :: ob36 P :: ob37 P :: W.boot_o_7 P :: W.boot_o_8 P :: ob38 P :: W.boot_o_7 P :: ob39 P :: ob40 P :: ob41 P :: W.boot_o_7 P :: W.boot_o_8 P :: ob42 P :: W.boot_o_7 P :: ob43 P :: ob44 P :: ob45 P :: [])) {}
noncomputable def st3 : Params → Heap := fun P => Heap.mk (Array.mk (W.boot_o_0 P :: W.boot_o_1 P :: W.boot_o_2 P :: ob46 P :: W.boot_o_4 P :: W.boot_o_5 P :: W.boot_o_6 P :: W.boot_o_7 P :: W.boot_o_8 P :: W.boot_o_9 P :: W.boot_o_10 P :: W.boot_o_7 P :: ob47 P :: ob0 P :: ob1 P :: W.boot_o_7 P :: W.boot_o_8 P :: ob4 P :: W.boot_o_7 P :: ob5 P :: ob6 P :: ob7 P :: W.boot_o_7 P :: W.boot_o_8 P :: ob8 P :: W.boot_o_7 P :: ob9 P :: ob10 P :: ob11 P :: W.boot_o_7 P :: W.boot_o_8 P :: ob12 P :: W.boot_o_7 P :: ob13 P :: ob14 P :: ob15 P :: W.boot_o_7 P :: W.boot_o_8 P :: ob16 P :: W.boot_o_7 P :: ob17 P :: ob18 P :: ob19 P :: W.boot_o_7 P :: W.boot_o_8 P :: ob20 P :: W.boot_o_7 P :: ob21 P :: ob22 P :: ob23 P :: W.boot_o_7 P :: W.boot_o_8 P :: ob24 P :: W.boot_o_7 P :: ob25 P :: ob26 P :: ob27 P :: W.boot_o_7 P :: W.boot_o_8 P :: ob30 P :: W.boot_o_7 P :: ob31 P :: ob32 P :: ob33 P :: W.boot_o_7 P :: W.boot_o_8 P :: ob34 P :: W.boot_o_7 P :: ob35 P :: ob36 P :: ob37 P :: W.boot_o_7 P :: W.boot_o_8 P :: ob38 P :: W.boot_o_7 P :: ob39 P :: ob40 P :: ob41 P :: W.boot_o_7 P :: W.boot_o_8 P :: ob42 P :: W.boot_o_7 P :: ob43 P :: ob44 P :: ob45 P :: ob48 P :: ob49 P :: ob50 P :: ob51 P :: ob52 P :: ob53 P :: ob54 P :: ob55 P :: ob56 P :: ob57 P :: ob58 P :: ob59 P :: ob60 P :: ob61 P :: ob62 P :: ob63 P :: ob64 P :: ob65 P :: ob66 P :: ob67 P :: ob68 P :: ob69 P :: ob70 P :: ob71 P :: ob72 P :: ob73 P :: ob74 P :: ob75 P :: ob76 P :: ob77 P :: ob78 P :: ob79 P :: ob80 P :: W.boot_o_7 P :: W.boot_o_8 P :: ob81 P :: W.boot_o_7 P :: ob82 P :: ob83 P :: ob84 P :: W.boot_o_7 P :: W.boot_o_8 P :: ob85 P :: W.boot_o_7 P :: ob86 P :: ob87 P :: ob88 P :: [])) {}
noncomputable def st4 : Params → Heap := fun P => Heap.mk (Array.mk (W.boot_o_0 P :: W.boot_o_1 P :: W.boot_o_2 P :: ob89 P :: W.boot_o_4 P :: W.boot_o_5 P :: W.boot_o_6 P :: W.boot_o_7 P :: W.boot_o_8 P :: W.boot_o_9 P :: W.boot_o_10 P :: W.boot_o_7 P :: ob90 P :: ob0 P :: ob1 P :: W.boot_o_7 P :: W.boot_o_8 P :: ob4 P :: W.boot_o_7 P :: ob5 P :: ob6 P :: ob7 P :: W.boot_o_7 P :: W.boot_o_8 P :: ob8 P :: W.boot_o_7 P :: ob9 P :: ob10 P :: ob11 P :: W.boot_o_7 P :: W.boot_o_8 P :: ob12 P :: W.boot_o_7 P :: ob13 P :: ob14 P :: ob15 P :: W.boot_o_7 P :: W.boot_o_8 P :: ob16 P :: W.boot_o_7 P :: ob17 P :: ob18 P :: ob19 P :: W.boot_o_7 P :: W.boot_o_8 P :: ob20 P :: W.boot_o_7 P :: ob21 P :: ob22 P :: ob23 P :: W.boot_o_7 P :: W.boot_o_8 P :: ob24 P :: W.boot_o_7 P :: ob25 P :: ob26 P :: ob27 P :: W.boot_o_7 P :: W.boot_o_8 P :: ob30 P :: W.boot_o_7 P :: ob31 P :: ob32 P :: ob33 P :: W.boot_o_7 P :: W.boot_o_8 P :: ob34 P :: W.boot_o_7 P :: ob35 P :: ob36 P :: ob37 P :: W.boot_o_7 P :: W.boot_o_8 P :: ob38 P :: W.boot_o_7 P :: ob39 P :: ob40 P :: ob41 P :: W.boot_o_7 P :: W.boot_o_8 P :: ob42 P :: W.boot_o_7 P :: ob43 P :: ob44 P :: ob45 P :: ob48 P :: ob49 P :: ob50 P :: ob51 P :: ob52 P :: ob53 P :: ob54 P :: ob55 P :: ob56 P :: ob57 P :: ob58 P :: ob59 P :: ob60 P :: ob61 P :: ob62 P :: ob63 P :: ob64 P :: ob65 P :: ob66 P :: ob67 P :: ob68 P :: ob69 P :: ob70 P :: ob71 P :: ob72 P :: ob73 P :: ob74 P :: ob75 P :: ob76 P :: ob77 P :: ob78 P :: ob79 P :: ob80 P :: W.boot_o_7 P :: W.boot_o_8 P :: ob81 P :: W.boot_o_7 P :: ob82 P :: ob83 P :: ob84 P :: W.boot_o_7 P :: W.boot_o_8 P :: ob85 P :: W.boot_o_7 P :: ob86 P :: ob87 P :: ob88 P :: W.boot_o_7 P :: W.boot_o_8 P :: ob91 P :: W.boot_o_7 P :: ob92 P :: ob93 P :: ob94 P :: ob95 P :: W.boot_o_7 P :: W.boot_o_8 P :: ob96 P :: W.boot_o_7 P :: ob97 P :: ob98 P :: ob99 P :: ob100 P :: W.boot_o_7 P :: W.boot_o_8 P :: ob101 P :: W.boot_o_7 P :: ob102 P :: ob103 P :: ob104 P :: W.boot_o_7 P :: W.boot_o_8 P :: ob105 P :: W.boot_o_7 P :: ob106 P :: ob107 P :: ob108 P :: W.boot_o_7 P :: W.boot_o_8 P :: ob109 P :: W.boot_o_7 P :: ob110 P :: ob111 P :: ob112 P :: W.boot_o_7 P :: W.boot_o_8 P :: ob113 P :: W.boot_o_7 P :: ob114 P :: ob115 P :: ob116 P :: [])) {}
noncomputable def st5 : Params → Heap := fun P => Heap.mk (Array.mk (W.boot_o_0 P :: W.boot_o_1 P :: W.boot_o_2 P :: ob117 P :: W.boot_o_4 P :: W.boot_o_5 P :: W.boot_o_6 P :: W.boot_o_7 P :: W.boot_o_8 P :: W.boot_o_9 P :: W.boot_o_10 P :: W.boot_o_7 P :: ob118 P :: ob0 P :: ob1 P :: W.boot_o_7 P :: W.boot_o_8 P :: ob4 P :: W.boot_o_7 P :: ob5 P :: ob6 P :: ob7 P :: W.boot_o_7 P :: W.boot_o_8 P :: ob8 P :: W.boot_o_7 P :: ob9 P :: ob10 P :: ob11 P :: W.boot_o_7 P :: W.boot_o_8 P :: ob12 P :: W.boot_o_7 P :: ob13 P :: ob14 P :: ob15 P :: W.boot_o_7 P :: W.boot_o_8 P :: ob16 P :: W.boot_o_7 P :: ob17 P :: ob18 P :: ob19 P :: W.boot_o_7 P :: W.boot_o_8 P :: ob20 P :: W.boot_o_7 P :: ob21 P :: ob22 P :: ob23 P :: W.boot_o_7 P :: W.boot_o_8 P :: ob24 P :: W.boot_o_7 P :: ob25 P :: ob26 P :: ob27 P :: W.boot_o_7 P :: W.boot_o_8 P :: ob30 P :: W.boot_o_7 P :: ob31 P :: ob32 P :: ob33 P :: W.boot_o_7 P :: W.boot_o_8 P :: ob34 P :: W.boot_o_7 P :: ob35 P :: ob36 P :: ob37 P :: W.boot_o_7 P :: W.boot_o_8 P :: ob38 P :: W.boot_o_7 P :: ob39 P :: ob40 P :: ob41 P :: W.boot_o_7 P :: W.boot_o_8 P :: ob42 P :: W.boot_o_7 P :: ob43 P :: ob44 P :: ob45 P :: ob48 P :: ob49 P :: ob50 P :: ob51 P :: ob52 P :: ob53 P :: ob54 P :: ob55 P :: ob56 P :: ob57 P :: ob58 P :: ob59 P :: ob60 P :: ob61 P :: ob62 P :: ob63 P :: ob64 P :: ob65 P :: ob66 P :: ob67 P :: ob68 P :: ob69 P :: ob70 P :: ob71 P :: ob72 P :: ob73 P :: ob74 P :: ob75 P :: ob76 P :: ob77 P :: ob78 P :: ob79 P :: ob80 P :: W.boot_o_7 P :: W.boot_o_8 P :: ob81 P :: W.boot_o_7 P :: ob82 P :: ob83 P :: ob84 P :: W.boot_o_7 P :: W.boot_o_8 P :: ob85 P :: W.boot_o_7 P :: ob86 P :: ob87 P :: ob88 P :: W.boot_o_7 P :: W.boot_o_8 P :: ob91 P :: W.boot_o_7 P :: ob92 P :: ob93 P :: ob94 P :: ob95 P :: W.boot_o_7 P :: W.boot_o_8 P :: ob96 P :: W.boot_o_7 P :: ob97 P :: ob98 P :: ob99 P :: ob100 P :: W.boot_o_7 P :: W.boot_o_8 P :: ob101 P :: W.boot_o_7 P :: ob102 P :: ob103 P :: ob104 P :: W.boot_o_7 P :: W.boot_o_8 P :: ob105 P :: W.boot_o_7 P :: ob106 P :: ob107 P :: ob108 P :: W.boot_o_7 P :: W.boot_o_8 P :: ob109 P :: W.boot_o_7 P :: ob110 P :: ob111 P :: ob112 P :: W.boot_o_7 P :: W.boot_o_8 P :: ob113 P :: W.boot_o_7 P :: ob114 P :: ob115 P :: ob116 P :: W.boot_o_7 P :: W.boot_o_8 P :: ob119 P :: W.boot_o_7 P :: ob120 P :: ob121 P :: ob122 P :: W.boot_o_7 P :: W.boot_o_8 P :: ob123 P :: W.boot_o_7 P :: ob124 P :: ob125 P :: ob126 P :: [])) {}
noncomputable def st6 : Params → Heap := fun P => Heap.mk (Array.mk (W.boot_o_0 P :: W.boot_o_1 P :: W.boot_o_2 P :: ob127 P :: W.boot_o_4 P :: W.boot_o_5 P :: W.boot_o_6 P :: W.boot_o_7 P :: W.boot_o_8 P :: W.boot_o_9 P :: W.boot_o_10 P :: W.boot_o_7 P :: ob128 P :: ob0 P :: ob1 P :: W.boot_o_7 P :: W.boot_o_8 P :: ob4 P :: W.boot_o_7 P :: ob5 P :: ob6 P :: ob7 P :: W.boot_o_7 P :: W.boot_o_8 P :: ob8 P :: W.boot_o_7 P :: ob9 P :: ob10 P :: ob11 P :: W.boot_o_7 P :: W.boot_o_8 P :: ob12 P :: W.boot_o_7 P :: ob13 P :: ob14 P :: ob15 P :: W.boot_o_7 P :: W.boot_o_8 P :: ob16 P :: W.boot_o_7 P :: ob17 P :: ob18 P :: ob19 P :: W.boot_o_7 P :: W.boot_o_8 P :: ob20 P :: W.boot_o_7 P :: ob21 P :: ob22 P :: ob23 P :: W.boot_o_7 P :: W.boot_o_8 P :: ob24 P :: W.boot_o_7 P :: ob25 P :: ob26 P :: ob27 P :: W.boot_o_7 P :: W.boot_o_8 P :: ob30 P :: W.boot_o_7 P :: ob31 P :: ob32 P :: ob33 P :: W.boot_o_7 P :: W.boot_o_8 P :: ob34 P :: W.boot_o_7 P :: ob35 P :: ob36 P :: ob37 P :: W.boot_o_7 P :: W.boot_o_8 P :: ob38 P :: W.boot_o_7 P :: ob39 P :: ob40 P :: ob41 P :: W.boot_o_7 P :: W.boot_o_8 P :: ob42 P :: W.boot_o_7 P :: ob43 P :: ob44 P :: ob45 P :: ob48 P :: ob49 P :: ob50 P :: ob51 P :: ob52 P :: ob53 P :: ob54 P :: ob55 P :: ob56 P :: ob57 P :: ob58 P :: ob59 P :: ob60 P :: ob61 P :: ob62 P :: ob63 P :: ob64 P :: ob65 P :: ob66 P :: ob67 P :: ob68 P :: ob69 P :: ob70 P :: ob71 P :: ob72 P :: ob73 P :: ob74 P :: ob75 P :: ob76 P :: ob77 P :: ob78 P :: ob79 P :: ob80 P :: W.boot_o_7 P :: W.boot_o_8 P :: ob81 P :: W.boot_o_7 P :: ob82 P :: ob83 P :: ob84 P :: W.boot_o_7 P :: W.boot_o_8 P :: ob85 P :: W.boot_o_7 P :: ob86 P :: ob87 P :: ob88 P :: W.boot_o_7 P :: W.boot_o_8 P :: ob91 P :: W.boot_o_7 P :: ob92 P :: ob93 P :: ob94 P :: ob95 P :: W.boot_o_7 P :: W.boot_o_8 P :: ob96 P :: W.boot_o_7 P :: ob97 P :: ob98 P :: ob99 P :: ob100 P :: W.boot_o_7 P :: W.boot_o_8 P :: ob101 P :: W.boot_o_7 P :: ob102 P :: ob103 P :: ob104 P :: W.boot_o_7 P :: W.boot_o_8 P :: ob105 P :: W.boot_o_7 P :: ob106 P :: ob107 P :: ob108 P :: W.boot_o_7 P :: W.boot_o_8 P :: ob109 P :: W.boot_o_7 P :: ob110 P :: ob111 P :: ob112 P :: W.boot_o_7 P :: W.boot_o_8 P :: ob113 P :: W.boot_o_7 P :: ob114 P :: ob115 P :: ob116 P :: W.boot_o_7 P :: W.boot_o_8 P :: ob119 P :: W.boot_o_7 P :: ob120 P :: ob121 P :: ob122 P :: W.boot_o_7 P :: W.boot_o_8 P :: ob123 P :: W.boot_o_7 P :: ob124 P :: ob125 P :: ob126 P :: W.boot_o_7 P :: ob129 P :: ob130 P :: W.boot_o_7 P :: ob131 P :: ob132 P :: ob133 P :: ob134 P :: W.boot_o_7 P :: W.boot_o_8 P :: ob135 P :: ob136 P :: ob137 P :: W.boot_o_7 P :: W.boot_o_8 P :: ob138 P :: W.boot_o_7 P :: ob139 P :: ob140 P :: ob141 P :: ob142 P :: ob143 P :: ob144 P :: ob145 P :: ob146 P :: ob147 P :: ob148 P :: [])) {}
noncomputable def st7 : Params → Heap := fun P => Heap.mk (Array.mk (W.boot_o_0 P :: W.boot_o_1 P :: W.boot_o_2 P :: ob149 P :: W.boot_o_4 P :: W.boot_o_5 P :: W.boot_o_6 P :: W.boot_o_7 P :: W.boot_o_8 P :: W.boot_o_9 P :: W.boot_o_10 P :: W.boot_o_7 P :: ob150 P :: ob0 P :: ob1 P :: W.boot_o_7 P :: W.boot_o_8 P :: ob4 P :: W.boot_o_7 P :: ob5 P :: ob6 P :: ob7 P :: W.boot_o_7 P :: W.boot_o_8 P :: ob8 P :: W.boot_o_7 P :: ob9 P :: ob10 P :: ob11 P :: W.boot_o_7 P :: W.boot_o_8 P :: ob12 P :: W.boot_o_7 P :: ob13 P :: ob14 P :: ob15 P :: W.boot_o_7 P :: W.boot_o_8 P :: ob16 P :: W.boot_o_7 P :: ob17 P :: ob18 P :: ob19 P :: W.boot_o_7 P :: W.boot_o_8 P :: ob20 P :: W.boot_o_7 P :: ob21 P :: ob22 P :: ob23 P :: W.boot_o_7 P :: W.boot_o_8 P :: ob24 P :: W.boot_o_7 P :: ob25 P :: ob26 P :: ob27 P :: W.boot_o_7 P :: W.boot_o_8 P :: ob30 P :: W.boot_o_7 P :: ob31 P :: ob32 P :: ob33 P :: W.boot_o_7 P :: W.boot_o_8 P :: ob34 P :: W.boot_o_7 P :: ob35 P :: ob36 P :: ob37 P :: W.boot_o_7 P :: W.boot_o_8 P :: ob38 P :: W.boot_o_7 P :: ob39 P :: ob40 P :: ob41 P :: W.boot_o_7 P :: W.boot_o_8 P :: ob42 P :: W.boot_o_7 P :: ob43 P :: ob44 P :: ob45 P :: ob48 P :: ob49 P :: ob50 P :: ob51 P :: ob52 P :: ob53 P :: ob54 P :: ob55 P :: ob56 P :: ob57 P :: ob58 P :: ob59 P :: ob60 P :: ob61 P :: ob62 P :: ob63 P :: ob64 P :: ob65 P :: ob66 P :: ob67 P :: ob68 P :: ob69 P :: ob70 P :: ob71 P :: ob72 P :: ob73 P :: ob74 P :: ob75 P :: ob76 P :: ob77 P :: ob78 P :: ob79 P :: ob80 P :: W.boot_o_7 P :: W.boot_o_8 P :: ob81 P :: W.boot_o_7 P :: ob82 P :: ob83 P :: ob84 P :: W.boot_o_7 P :: W.boot_o_8 P :: ob85 P :: W.boot_o_7 P :: ob86 P :: ob87 P :: ob88 P :: W.boot_o_7 P :: W.boot_o_8 P :: ob91 P :: W.boot_o_7 P :: ob92 P :: ob93 P :: ob94 P :: ob95 P :: W.boot_o_7 P :: W.boot_o_8 P :: ob96 P :: W.boot_o_7 P :: ob97 P :: ob98 P :: ob99 P :: ob100 P :: W.boot_o_7 P :: W.boot_o_8 P :: ob101 P :: W.boot_o_7 P :: ob102 P :: ob103 P :: ob104 P :: W.boot_o_7 P :: W.boot_o_8 P :: ob105 P :: W.boot_o_7 P :: ob106 P :: ob107 P :: ob108 P :: W.boot_o_7 P :: W.boot_o_8 P :: ob109 P :: W.boot_o_7 P :: ob110 P :: ob111 P :: ob112 P :: W.boot_o_7 P :: W.boot_o_8 P :: ob113 P :: W.boot_o_7 P :: ob114 P :: ob115 P :: ob116 P :: W.boot_o_7 P :: W.boot_o_8 P :: ob119 P :: W.boot_o_7 P :: ob120 P :: ob121 P :: ob122 P :: W.boot_o_7 P :: W.boot_o_8 P :: ob123 P :: W.boot_o_7 P :: ob124 P :: ob125 P :: ob126 P :: W.boot_o_7 P :: ob129 P :: ob130 P :: W.boot_o_7 P :: ob131 P :: ob132 P :: ob133 P :: ob134 P :: W.boot_o_7 P :: W.boot_o_8 P :: ob135 P :: ob136 P :: ob137 P :: W.boot_o_7 P :: W.boot_o_8 P :: ob138 P :: W.boot_o_7 P :: ob139 P :: ob140 P :: ob141 P :: ob142 P :: ob143 P :: ob144 P :: ob145 P :: ob146 P :: ob147 P :: ob148 P :: W.boot_o_7 P :: W.boot_o_8 P :: ob151 P :: W.boot_o_7 P :: ob152 P :: ob153 P :: ob154 P :: W.boot_o_7 P :: W.boot_o_8 P :: ob155 P :: ob156 P :: ob157 P :: W.boot_o_7 P :: W.boot_o_8 P :: ob158 P :: ob159 P :: ob160 P :: W.boot_o_7 P :: W.boot_o_8 P :: ob161 P :: ob162 P :: ob163 P :: W.boot_o_7 P :: W.boot_o_8 P :: ob164 P :: W.boot_o_7 P :: ob165 P :: ob166 P :: ob167 P :: W.boot_o_7 P :: W.boot_o_8 P :: ob168 P :: W.boot_o_7 P :: ob169 P :: ob170 P :: ob171 P :: W.boot_o_7 P :: W.boot_o_8 P :: ob172 P :: ob173 P :: ob174 P :: W.boot_o_7 P :: W.boot_o_8 P :: ob175 P :: ob176 P :: ob177 P :: [])) {}
noncomputable def st8 : Params → Heap := fun P => Heap.mk (Array.mk (W.boot_o_0 P :: W.boot_o_1 P :: W.boot_o_2 P :: ob178 P :: W.boot_o_4 P :: W.boot_o_5 P :: W.boot_o_6 P :: W.boot_o_7 P :: W.boot_o_8 P :: W.boot_o_9 P :: W.boot_o_10 P :: W.boot_o_7 P :: ob179 P :: ob0 P :: ob1 P :: W.boot_o_7 P :: W.boot_o_8 P :: ob4 P :: W.boot_o_7 P :: ob5 P :: ob6 P :: ob7 P :: W.boot_o_7 P :: W.boot_o_8 P :: ob8 P :: W.boot_o_7 P :: ob9 P :: ob10 P :: ob11 P :: W.boot_o_7 P :: W.boot_o_8 P :: ob12 P :: W.boot_o_7 P :: ob13 P :: ob14 P :: ob15 P :: W.boot_o_7 P :: W.boot_o_8 P :: ob16 P :: W.boot_o_7 P :: ob17 P :: ob18 P :: ob19 P :: W.boot_o_7 P :: W.boot_o_8 P :: ob20 P :: W.boot_o_7 P :: ob21 P :: ob22 P :: ob23 P :: W.boot_o_7 P :: W.boot_o_8 P :: ob24 P :: W.boot_o_7 P :: ob25 P :: ob26 P :: ob27 P :: W.boot_o_7 P :: W.boot_o_8 P :: ob30 P :: W.boot_o_7 P :: ob31 P :: ob32 P :: ob33 P :: W.boot_o_7 P :: W.boot_o_8 P :: ob34 P :: W.boot_o_7 P :: ob35 P :: ob36 P :: ob37 P :: W.boot_o_7 P :: W.boot_o_8 P :: ob38 P :: W.boot_o_7 P :: ob39 P :: ob40 P :: ob41 P :: W.boot_o_7 P :: W.boot_o_8 P :: ob42 P :: W.boot_o_7 P :: ob43 P :: ob44 P :: ob45 P :: ob48 P :: ob49 P :: ob50 P :: ob51 P :: ob52 P :: ob53 P :: ob54 P :: ob55 P :: ob56 P :: ob57 P :: ob58 P :: ob59 P :: ob60 P :: ob61 P :: ob62 P :: ob63 P :: ob64 P :: ob65 P :: ob66 P :: ob67 P :: ob68 P :: ob69 P :: ob70 P :: ob71 P :: ob72 P :: ob73 P :: ob74 P :: ob75 P :: ob76 P :: ob77 P :: ob78 P :: ob79 P :: ob80 P :: W.boot_o_7 P :: W.boot_o_8 P :: ob81 P :: W.boot_o_7 P :: ob82 P :: ob83 P :: ob84 P :: W.boot_o_7 P :: W.boot_o_8 P :: ob85 P :: W.boot_o_7 P :: ob86 P :: ob87 P :: ob88 P :: W.boot_o_7 P :: W.boot_o_8 P :: ob91 P :: W.boot_o_7 P :: ob92 P :: ob93 P :: ob94 P :: ob95 P :: W.boot_o_7 P :: W.boot_o_8 P :: ob96 P :: W.boot_o_7 P :: ob97 P :: ob98 P :: ob99 P :: ob100 P :: W.boot_o_7 P :: W.boot_o_8 P :: ob101 P :: W.boot_o_7 P :: ob102 P :: ob103 P :: ob104 P :: W.boot_o_7 P :: W.boot_o_8 P :: ob105 P :: W.boot_o_7 P :: ob106 P :: ob107 P :: ob108 P :: W.boot_o_7 P :: W.boot_o_8 P :: ob109 P :: W.boot_o_7 P :: ob110 P :: ob111 P :: ob112 P :: W.boot_o_7 P :: W.boot_o_8 P :: ob113 P :: W.boot_o_7 P :: ob114 P :: ob115 P :: ob116 P :: W.boot_o_7 P :: W.boot_o_8 P :: ob119 P :: W.boot_o_7 P :: ob120 P :: ob121 P :: ob122 P :: W.boot_o_7 P :: W.boot_o_8 P :: ob123 P :: W.boot_o_7 P :: ob124 P :: ob125 P :: ob126 P :: W.boot_o_7 P :: ob129 P :: ob130 P :: W.boot_o_7 P :: ob131 P :: ob132 P :: ob133 P :: ob134 P :: W.boot_o_7 P :: W.boot_o_8 P :: ob135 P :: ob136 P :: ob137 P :: W.boot_o_7 P :: W.boot_o_8 P :: ob138 P :: W.boot_o_7 P :: ob139 P :: ob140 P :: ob141 P :: ob142 P :: ob143 P :: ob144 P :: ob145 P :: ob146 P :: ob147 P :: ob148 P :: W.boot_o_7 P :: W.boot_o_8 P :: ob151 P :: W.boot_o_7 P :: ob152 P :: ob153 P :: ob154 P :: W.boot_o_7 P :: W.boot_o_8 P :: ob155 P :: ob156 P :: ob157 P :: W.boot_o_7 P :: W.boot_o_8 P :: ob158 P :: ob159 P :: ob160 P :: W.boot_o_7 P :: W.boot_o_8 P :: ob161 P :: ob162 P :: ob163 P :: W.boot_o_7 P :: W.boot_o_8 P :: ob164 P :: W.boot_o_7 P :: ob165 P :: ob166 P :: ob167 P :: W.boot_o_7 P :: W.boot_o_8 P :: ob168 P :: W.boot_o_7 P :: ob169 P :: ob170 P :: ob171 P :: W.boot_o_7 P :: W.boot_o_8 P :: ob172 P :: ob173 P :: ob174 P :: W.boot_o_7 P :: W.boot_o_8 P :: ob175 P :: ob176 P :: ob177 P :: W.boot_o_7 P :: W.boot_o_8 P :: ob180 P :: ob181 P :: ob182 P :: W.boot_o_7 P :: W.boot_o_8 P :: ob183 P :: W.boot_o_7 P :: ob184 P :: ob185 P :: ob186 P :: W.boot_o_7 P :: W.boot_o_8 P :: ob187 P :: ob188 P :: ob189 P :: [])) {}
abbrev RP : Program := PySem.Challenge.rw_om0050_01.row.prog
noncomputable def rB : List Stmt := behindTheImports RP
noncomputable def rEnv : Env := { scope := RP.main.scope, locals := mainNs, globals := mainNs, cells := [], code := Value.ref 13, frame := some 14 }
noncomputable def rC : Code := Code.body rB rEnv
abbrev rF : List Frame := [topFrame { line := 0, col := 0, endLine := 0, endCol := 0 }]
abbrev an : Option Value := some (.ref 6)
noncomputable abbrev S0 (w : World) (os : OsState) : Shared := ⟨boot_heap w.params, Array.mk [], boot_drawn, boot_toks, os⟩
noncomputable abbrev S1 (w : World) (os : OsState) : Shared := ⟨st0 w.params, Array.mk [], {}, 187, os⟩
noncomputable abbrev S2 (w : World) (os : OsState) : Shared := ⟨st1 w.params, Array.mk [], {}, 245, os⟩
noncomputable abbrev S3 (w : World) (os : OsState) : Shared := ⟨st2 w.params, Array.mk [], {}, 297, os⟩
noncomputable abbrev S4 (w : World) (os : OsState) : Shared := ⟨st3 w.params, Array.mk [], {}, 345, os⟩
noncomputable abbrev S5 (w : World) (os : OsState) : Shared := ⟨st4 w.params, Array.mk [], {}, 415, os⟩
noncomputable abbrev S6 (w : World) (os : OsState) : Shared := ⟨st5 w.params, Array.mk [], {}, 440, os⟩
noncomputable abbrev S7 (w : World) (os : OsState) : Shared := ⟨st6 w.params, Array.mk [], {}, 480, os⟩
noncomputable abbrev S8 (w : World) (os : OsState) : Shared := ⟨st7 w.params, Array.mk [], {}, 544, os⟩
noncomputable abbrev S9 (w : World) (os : OsState) : Shared := ⟨st8 w.params, Array.mk [], {}, 569, os⟩
noncomputable def g1 : List Stmt := [pst 0, pst 1, pst 2, pst 3, pst 4, pst 5, pst 6, pst 7, pst 8, pst 9, pst 10, pst 11, pst 12, pst 13]
noncomputable def g2 : List Stmt := [pst 14, pst 15, pst 16, pst 17, pst 18, pst 19, pst 20, pst 21, pst 22, pst 23, pst 24, pst 25, pst 26, pst 27, pst 28, pst 29]
noncomputable def g3 : List Stmt := [pst 30, pst 31, pst 32, pst 33]
noncomputable def g4 : List Stmt := [pst 34, pst 35, pst 36, pst 37, pst 38, pst 39, pst 40, pst 41, pst 42, pst 43]
noncomputable def g5 : List Stmt := [pst 44, pst 45, pst 46]
noncomputable def g6 : List Stmt := [pst 47]
noncomputable def g7 : List Stmt := [pst 48, pst 49, pst 50, pst 51, pst 52, pst 53, pst 54, pst 55, pst 56]
noncomputable def g8 : List Stmt := [pst 57, pst 58, pst 59]
theorem r_open : ∀ w : World, (fencedOpening treeTable RP w 3316).map (fun s => (s.heap, s.gens, s.drawn, s.toks)) = some (boot_heap w.params, Array.mk [], boot_drawn, boot_toks) :=
  boot_open (by kernel_rfl) (by decide) (fun s => by kernel_rfl)
theorem r_size (w : World) : ((boot_heap w.params).isNs mainGlobals && (Array.mk [] : Array GenState).size == 0, (boot_heap w.params).objs.size, (boot_heap w.params).nsMap mainGlobals "__annotations__") = (true, 11, an) := by
  kernel_rfl
theorem r_pre (w : World) (os : OsState) : topGo treeTable RP w 11 an 12 (S0 w os) (topStub RP) = some (S1 w os, ⟨denote treeTable rC, rC, { line := 0, col := 0, endLine := 0, endCol := 0 }, rF⟩) := by
  kernel_rfl
theorem r_block (w : World) (os : OsState) : segRun treeTable RP w 11 an 1 1 (S1 w os) (blockOf rB rEnv rC { line := 0, col := 0, endLine := 0, endCol := 0 } rF) = some (.next, S1 w os, rC, { line := 0, col := 0, endLine := 0, endCol := 0 }) := by
  kernel_rfl
theorem r_1 (w : World) (os : OsState) : segRun treeTable RP w 11 an 1 247 (S1 w os) (piecesOf g1 rEnv rC { line := 0, col := 0, endLine := 0, endCol := 0 } rF) = some (.next, S2 w os, rC, { line := 20, col := 0, endLine := 21, endCol := 34 }) := by
  kernel_rfl
theorem r_2 (w : World) (os : OsState) : segRun treeTable RP w 11 an 1 225 (S2 w os) (piecesOf g2 rEnv rC { line := 20, col := 0, endLine := 21, endCol := 34 } rF) = some (.next, S3 w os, rC, { line := 41, col := 0, endLine := 41, endCol := 7 }) := by
  kernel_rfl
theorem r_3 (w : World) (os : OsState) : segRun treeTable RP w 11 an 1 235 (S3 w os) (piecesOf g3 rEnv rC { line := 41, col := 0, endLine := 41, endCol := 7 } rF) = some (.next, S4 w os, rC, { line := 61, col := 0, endLine := 67, endCol := 12 }) := by
  kernel_rfl
theorem r_4 (w : World) (os : OsState) : segRun treeTable RP w 11 an 1 236 (S4 w os) (piecesOf g4 rEnv rC { line := 61, col := 0, endLine := 67, endCol := 12 } rF) = some (.next, S5 w os, rC, { line := 137, col := 0, endLine := 145, endCol := 36 }) := by
  kernel_rfl
theorem r_5 (w : World) (os : OsState) : segRun treeTable RP w 11 an 1 77 (S5 w os) (piecesOf g5 rEnv rC { line := 137, col := 0, endLine := 145, endCol := 36 } rF) = some (.next, S6 w os, rC, { line := 167, col := 0, endLine := 167, endCol := 8 }) := by
  kernel_rfl
theorem r_6 (w : World) (os : OsState) : segRun treeTable RP w 11 an 1 257 (S6 w os) (piecesOf g6 rEnv rC { line := 167, col := 0, endLine := 167, endCol := 8 } rF) = some (.next, S7 w os, rC, { line := 168, col := 0, endLine := 193, endCol := 16 }) := by
  kernel_rfl
theorem r_7 (w : World) (os : OsState) : segRun treeTable RP w 11 an 1 238 (S7 w os) (piecesOf g7 rEnv rC { line := 168, col := 0, endLine := 193, endCol := 16 } rF) = some (.next, S8 w os, rC, { line := 229, col := 0, endLine := 236, endCol := 17 }) := by
  kernel_rfl
theorem r_8 (w : World) (os : OsState) : segRun treeTable RP w 11 an 1 88 (S8 w os) (piecesOf g8 rEnv rC { line := 229, col := 0, endLine := 236, endCol := 17 } rF) = some (.next, S9 w os, rC, { line := 249, col := 0, endLine := 268, endCol := 15 }) := by
  kernel_rfl
theorem r_fin (w : World) (os : OsState) : topRun treeTable RP w 11 an 2 (S9 w os) ⟨doneF .next, rC, { line := 249, col := 0, endLine := 268, endCol := 15 }, rF⟩ = some (S9 w os) := by
  kernel_rfl
theorem r_split : rB = g1 ++ (g2 ++ (g3 ++ (g4 ++ (g5 ++ (g6 ++ (g7 ++ (g8 ++ []))))))) := by
  kernel_rfl
theorem r_run (w : World) (os : OsState) : topRun treeTable RP w 11 an (12 + (1 + (247 + (225 + (235 + (236 + (77 + (257 + (238 + (88 + 2)))))))))) (S0 w os) (topStub RP) = some (S9 w os) := by
  refine go_top (r_pre w os) (piece_block (r_block w os) ?_)
  rw [show restOf rB rEnv rC { line := 0, col := 0, endLine := 0, endCol := 0 } rF = restOf (g1 ++ (g2 ++ (g3 ++ (g4 ++ (g5 ++ (g6 ++ (g7 ++ (g8 ++ [])))))))) rEnv rC { line := 0, col := 0, endLine := 0, endCol := 0 } rF from congrArg (fun b => restOf b rEnv rC { line := 0, col := 0, endLine := 0, endCol := 0 } rF) r_split]
  exact piece_app (r_1 w os) (piece_app (r_2 w os) (piece_app (r_3 w os) (piece_app (r_4 w os) (piece_app (r_5 w os) (piece_app (r_6 w os) (piece_app (r_7 w os) (piece_app (r_8 w os) (piece_nil (r_fin w os)))))))))
noncomputable abbrev lo : List Str := [Str.ofString "_filemode_table", Str.ofString "b2a_base64", Str.ofString "b64encode"]
noncomputable abbrev Xt : Shared → Bool := fun s => xlAt hd.view_39 [(Str.ofString "_filemode_table", WData.tuple [WData.tuple [WData.tuple [WData.int 40960, WData.str { cps := #[108] }], WData.tuple [WData.int 49152, WData.str { cps := #[115] }], WData.tuple [WData.int 32768, WData.str { cps := #[45] }], WData.tuple [WData.int 24576, WData.str { cps := #[98] }], WData.tuple [WData.int 16384, WData.str { cps := #[100] }], WData.tuple [WData.int 8192, WData.str { cps := #[99] }], WData.tuple [WData.int 4096, WData.str { cps := #[112] }]], WData.tuple [WData.tuple [WData.int 256, WData.str { cps := #[114] }]], WData.tuple [WData.tuple [WData.int 128, WData.str { cps := #[119] }]], WData.tuple [WData.tuple [WData.int 2112, WData.str { cps := #[115] }], WData.tuple [WData.int 2048, WData.str { cps := #[83] }], WData.tuple [WData.int 64, WData.str { cps := #[120] }]], WData.tuple [WData.tuple [WData.int 32, WData.str { cps := #[114] }]], WData.tuple [WData.tuple [WData.int 16, WData.str { cps := #[119] }]], WData.tuple [WData.tuple [WData.int 1032, WData.str { cps := #[115] }], WData.tuple [WData.int 1024, WData.str { cps := #[83] }], WData.tuple [WData.int 8, WData.str { cps := #[120] }]], WData.tuple [WData.tuple [WData.int 4, WData.str { cps := #[114] }]], WData.tuple [WData.tuple [WData.int 2, WData.str { cps := #[119] }]], WData.tuple [WData.tuple [WData.int 513, WData.str { cps := #[116] }], WData.tuple [WData.int 512, WData.str { cps := #[84] }], WData.tuple [WData.int 1, WData.str { cps := #[120] }]]])] s && recOk (RowW.records PySem.Challenge.rw_om0050_01.row.toRowW) s
noncomputable abbrev seenF (w : World) (os : OsState) := openSeen hd.view_39 lo (importedModules RP.main.body) Xt true (S9 w os)
theorem l_0 (w : World) (os : OsState) : (staticsOk (importedModules RP.main.body) (boot_heap w.params) (st8 w.params) && namesBound RP (st8 w.params) && gensDone (S9 w os) && laidKept (boot_heap w.params) (st8 w.params)) = true := by
  kernel_rfl
noncomputable abbrev Sx (w : World) (os : OsState) : Shared := S9 w os
theorem l_1 (w : World) (os : OsState) : seen ((recsOf hd.view_39).map (·.name)) (ownsOf hd.view_39) [] { Sx w os with gens := #[] } = expectedOf hd.view_39 := by
  kernel_rfl
theorem l_2 (w : World) (os : OsState) : (Sx w os).heap.bltView = bltViewBooted := by
  kernel_rfl
theorem l_3 (w : World) (os : OsState) : ((Sx w os).heap.keysOk (looseW hd.view_39 lo) ((recsOf hd.view_39).map (·.name)) ((litsOf hd.view_39).map (·.1)) ((clssOf hd.view_39 (looseW hd.view_39 lo)).map (·.name)) && (Sx w os).heap.accountedOkI (importedModules RP.main.body) && (Sx w os).heap.isNs mainGlobals && (Sx w os).heap.isNs builtinsNs && tablesOk hd.view_39 (Sx w os).heap && Xt (Sx w os) && (if true then (Sx w os).gens.size == 0 else !leftWithCleanup (Sx w os).gens)) = true := by
  kernel_rfl
theorem l_4 (w : World) (os : OsState) : tabsOk hd.view_39 (Sx w os) = true := by
  kernel_rfl
theorem l_5 (w : World) (os : OsState) : pinSeenD hd.view_39 (drecsOf hd.view_39) (Sx w os) = pinGoodD (drecsOf hd.view_39) := by
  kernel_rfl
theorem l_6 (w : World) (os : OsState) : plainSeenE hd.view_39 (looseW hd.view_39 lo) (Sx w os) = plainGoodE hd.view_39 (looseW hd.view_39 lo) := by
  kernel_rfl
theorem l_7 (w : World) (os : OsState) : plainSeenD hd.view_39 lo (Sx w os) = plainGoodD hd.view_39 lo := by
  kernel_rfl
theorem l_8 (w : World) (os : OsState) : wideSeen hd.view_39 (Sx w os) = wideGood hd.view_39 := by
  kernel_rfl
theorem l_9 (w : World) (os : OsState) : clsSeenW hd.view_39 lo (Sx w os) = clsGoodW hd.view_39 lo := by
  kernel_rfl
theorem l_seen (w : World) (os : OsState) : seenF w os = openGood hd.view_39 lo := by
  unfold seenF openSeen openGood
  exact looks_pair (l_1 w os) (looks_pair (l_2 w os) (looks_pair (l_3 w os) (looks_pair (l_4 w os) (looks_pair (l_5 w os) (looks_pair (l_6 w os) (looks_pair (l_7 w os) (looks_pair (l_8 w os) (l_9 w os))))))))
theorem l_y (w : World) (os : OsState) : (Hook.obs (kHook hd.heap_39 (2 :: 3 :: 15 :: 17 :: 18 :: 20 :: 21 :: 22 :: 24 :: 25 :: 27 :: 28 :: 29 :: 31 :: 32 :: 34 :: 35 :: 36 :: 38 :: 39 :: 41 :: 42 :: 43 :: 45 :: 46 :: 48 :: 49 :: 50 :: 52 :: 53 :: 55 :: 56 :: 57 :: 59 :: 60 :: 62 :: 63 :: 64 :: 66 :: 67 :: 69 :: 70 :: 71 :: 73 :: 74 :: 76 :: 77 :: 78 :: 80 :: 81 :: 83 :: 84 :: 85 :: 86 :: 87 :: 88 :: 89 :: 90 :: 91 :: 92 :: 93 :: 94 :: 95 :: 96 :: 97 :: 98 :: 99 :: 100 :: 101 :: 102 :: 103 :: 104 :: 105 :: 106 :: 107 :: 108 :: 109 :: 110 :: 111 :: 112 :: 113 :: 114 :: 115 :: 116 :: 117 :: 118 :: 120 :: 121 :: 123 :: 124 :: 125 :: 127 :: 128 :: 130 :: 131 :: 132 :: 134 :: 135 :: 137 :: 138 :: 139 :: 140 :: 142 :: 143 :: 145 :: 146 :: 147 :: 148 :: 150 :: 151 :: 153 :: 154 :: 155 :: 157 :: 158 :: 160 :: 161 :: 162 :: 164 :: 165 :: 167 :: 168 :: 169 :: 171 :: 172 :: 174 :: 175 :: 176 :: 178 :: 179 :: 181 :: 182 :: 183 :: 185 :: 186 :: 188 :: 189 :: 197 :: 198 :: 201 :: 202 :: 203 :: 205 :: 206 :: 208 :: 209 :: 210 :: 211 :: 212 :: 213 :: 214 :: 217 :: 219 :: 220 :: 222 :: 223 :: 224 :: 227 :: 228 :: 229 :: 232 :: 233 :: 234 :: 237 :: 238 :: 239 :: 241 :: 242 :: 244 :: 245 :: 246 :: 248 :: 249 :: 251 :: 252 :: 253 :: 256 :: 257 :: 258 :: 261 :: 262 :: 263 :: 266 :: 267 :: 268 :: 270 :: 271 :: 273 :: 274 :: 275 :: 278 :: 279 :: []) (fun _ => by kernel_rfl))) (S9 w os) = (Hook.val (kHook hd.heap_39 (2 :: 3 :: 15 :: 17 :: 18 :: 20 :: 21 :: 22 :: 24 :: 25 :: 27 :: 28 :: 29 :: 31 :: 32 :: 34 :: 35 :: 36 :: 38 :: 39 :: 41 :: 42 :: 43 :: 45 :: 46 :: 48 :: 49 :: 50 :: 52 :: 53 :: 55 :: 56 :: 57 :: 59 :: 60 :: 62 :: 63 :: 64 :: 66 :: 67 :: 69 :: 70 :: 71 :: 73 :: 74 :: 76 :: 77 :: 78 :: 80 :: 81 :: 83 :: 84 :: 85 :: 86 :: 87 :: 88 :: 89 :: 90 :: 91 :: 92 :: 93 :: 94 :: 95 :: 96 :: 97 :: 98 :: 99 :: 100 :: 101 :: 102 :: 103 :: 104 :: 105 :: 106 :: 107 :: 108 :: 109 :: 110 :: 111 :: 112 :: 113 :: 114 :: 115 :: 116 :: 117 :: 118 :: 120 :: 121 :: 123 :: 124 :: 125 :: 127 :: 128 :: 130 :: 131 :: 132 :: 134 :: 135 :: 137 :: 138 :: 139 :: 140 :: 142 :: 143 :: 145 :: 146 :: 147 :: 148 :: 150 :: 151 :: 153 :: 154 :: 155 :: 157 :: 158 :: 160 :: 161 :: 162 :: 164 :: 165 :: 167 :: 168 :: 169 :: 171 :: 172 :: 174 :: 175 :: 176 :: 178 :: 179 :: 181 :: 182 :: 183 :: 185 :: 186 :: 188 :: 189 :: 197 :: 198 :: 201 :: 202 :: 203 :: 205 :: 206 :: 208 :: 209 :: 210 :: 211 :: 212 :: 213 :: 214 :: 217 :: 219 :: 220 :: 222 :: 223 :: 224 :: 227 :: 228 :: 229 :: 232 :: 233 :: 234 :: 237 :: 238 :: 239 :: 241 :: 242 :: 244 :: 245 :: 246 :: 248 :: 249 :: 251 :: 252 :: 253 :: 256 :: 257 :: 258 :: 261 :: 262 :: 263 :: 266 :: 267 :: 268 :: 270 :: 271 :: 273 :: 274 :: 275 :: 278 :: 279 :: []) (fun _ => by kernel_rfl))) w := by
  kernel_rfl
end Rn
/-- the run of the top, in pieces -/
theorem hl_run : LeftO PySem.Challenge.rw_om0050_01.row.prog hd.view_39 [Str.ofString "_filemode_table", Str.ofString "b2a_base64", Str.ofString "b64encode"] (fun s => xlAt hd.view_39 [(Str.ofString "_filemode_table", WData.tuple [WData.tuple [WData.tuple [WData.int 40960, WData.str { cps := #[108] }], WData.tuple [WData.int 49152, WData.str { cps := #[115] }], WData.tuple [WData.int 32768, WData.str { cps := #[45] }], WData.tuple [WData.int 24576, WData.str { cps := #[98] }], WData.tuple [WData.int 16384, WData.str { cps := #[100] }], WData.tuple [WData.int 8192, WData.str { cps := #[99] }], WData.tuple [WData.int 4096, WData.str { cps := #[112] }]], WData.tuple [WData.tuple [WData.int 256, WData.str { cps := #[114] }]], WData.tuple [WData.tuple [WData.int 128, WData.str { cps := #[119] }]], WData.tuple [WData.tuple [WData.int 2112, WData.str { cps := #[115] }], WData.tuple [WData.int 2048, WData.str { cps := #[83] }], WData.tuple [WData.int 64, WData.str { cps := #[120] }]], WData.tuple [WData.tuple [WData.int 32, WData.str { cps := #[114] }]], WData.tuple [WData.tuple [WData.int 16, WData.str { cps := #[119] }]], WData.tuple [WData.tuple [WData.int 1032, WData.str { cps := #[115] }], WData.tuple [WData.int 1024, WData.str { cps := #[83] }], WData.tuple [WData.int 8, WData.str { cps := #[120] }]], WData.tuple [WData.tuple [WData.int 4, WData.str { cps := #[114] }]], WData.tuple [WData.tuple [WData.int 2, WData.str { cps := #[119] }]], WData.tuple [WData.tuple [WData.int 513, WData.str { cps := #[116] }], WData.tuple [WData.int 512, WData.str { cps := #[84] }], WData.tuple [WData.int 1, WData.str { cps := #[120] }]]])] s && recOk (RowW.records PySem.Challenge.rw_om0050_01.row.toRowW) s) (Hook.obs (kHook hd.heap_39 (2 :: 3 :: 15 :: 17 :: 18 :: 20 :: 21 :: 22 :: 24 :: 25 :: 27 :: 28 :: 29 :: 31 :: 32 :: 34 :: 35 :: 36 :: 38 :: 39 :: 41 :: 42 :: 43 :: 45 :: 46 :: 48 :: 49 :: 50 :: 52 :: 53 :: 55 :: 56 :: 57 :: 59 :: 60 :: 62 :: 63 :: 64 :: 66 :: 67 :: 69 :: 70 :: 71 :: 73 :: 74 :: 76 :: 77 :: 78 :: 80 :: 81 :: 83 :: 84 :: 85 :: 86 :: 87 :: 88 :: 89 :: 90 :: 91 :: 92 :: 93 :: 94 :: 95 :: 96 :: 97 :: 98 :: 99 :: 100 :: 101 :: 102 :: 103 :: 104 :: 105 :: 106 :: 107 :: 108 :: 109 :: 110 :: 111 :: 112 :: 113 :: 114 :: 115 :: 116 :: 117 :: 118 :: 120 :: 121 :: 123 :: 124 :: 125 :: 127 :: 128 :: 130 :: 131 :: 132 :: 134 :: 135 :: 137 :: 138 :: 139 :: 140 :: 142 :: 143 :: 145 :: 146 :: 147 :: 148 :: 150 :: 151 :: 153 :: 154 :: 155 :: 157 :: 158 :: 160 :: 161 :: 162 :: 164 :: 165 :: 167 :: 168 :: 169 :: 171 :: 172 :: 174 :: 175 :: 176 :: 178 :: 179 :: 181 :: 182 :: 183 :: 185 :: 186 :: 188 :: 189 :: 197 :: 198 :: 201 :: 202 :: 203 :: 205 :: 206 :: 208 :: 209 :: 210 :: 211 :: 212 :: 213 :: 214 :: 217 :: 219 :: 220 :: 222 :: 223 :: 224 :: 227 :: 228 :: 229 :: 232 :: 233 :: 234 :: 237 :: 238 :: 239 :: 241 :: 242 :: 244 :: 245 :: 246 :: 248 :: 249 :: 251 :: 252 :: 253 :: 256 :: 257 :: 258 :: 261 :: 262 :: 263 :: 266 :: 267 :: 268 :: 270 :: 271 :: 273 :: 274 :: 275 :: 278 :: 279 :: []) (fun _ => by kernel_rfl))) (Hook.val (kHook hd.heap_39 (2 :: 3 :: 15 :: 17 :: 18 :: 20 :: 21 :: 22 :: 24 :: 25 :: 27 :: 28 :: 29 :: 31 :: 32 :: 34 :: 35 :: 36 :: 38 :: 39 :: 41 :: 42 :: 43 :: 45 :: 46 :: 48 :: 49 :: 50 :: 52 :: 53 :: 55 :: 56 :: 57 :: 59 :: 60 :: 62 :: 63 :: 64 :: 66 :: 67 :: 69 :: 70 :: 71 :: 73 :: 74 :: 76 :: 77 :: 78 :: 80 :: 81 :: 83 :: 84 :: 85 :: 86 :: 87 :: 88 :: 89 :: 90 :: 91 :: 92 :: 93 :: 94 :: 95 :: 96 :: 97 :: 98 :: 99 :: 100 :: 101 :: 102 :: 103 :: 104 :: 105 :: 106 :: 107 :: 108 :: 109 :: 110 :: 111 :: 112 :: 113 :: 114 :: 115 :: 116 :: 117 :: 118 :: 120 :: 121 :: 123 :: 124 :: 125 :: 127 :: 128 :: 130 :: 131 :: 132 :: 134 :: 135 :: 137 :: 138 :: 139 :: 140 :: 142 :: 143 :: 145 :: 146 :: 147 :: 148 :: 150 :: 151 :: 153 :: 154 :: 155 :: 157 :: 158 :: 160 :: 161 :: 162 :: 164 :: 165 :: 167 :: 168 :: 169 :: 171 :: 172 :: 174 :: 175 :: 176 :: 178 :: 179 :: 181 :: 182 :: 183 :: 185 :: 186 :: 188 :: 189 :: 197 :: 198 :: 201 :: 202 :: 203 :: 205 :: 206 :: 208 :: 209 :: 210 :: 211 :: 212 :: 213 :: 214 :: 217 :: 219 :: 220 :: 222 :: 223 :: 224 :: 227 :: 228 :: 229 :: 232 :: 233 :: 234 :: 237 :: 238 :: 239 :: 241 :: 242 :: 244 :: 245 :: 246 :: 248 :: 249 :: 251 :: 252 :: 253 :: 256 :: 257 :: 258 :: 261 :: 262 :: 263 :: 266 :: 267 :: 268 :: 270 :: 271 :: 273 :: 274 :: 275 :: 278 :: 279 :: []) (fun _ => by kernel_rfl))) 3316 :=
  LeftO.of_pieces (H₀ := fun P => boot_heap P) (H₁ := fun P => Rn.st8 P) (gs₁ := Array.mk []) (d₁ := {}) (k₁ := 569) Rn.r_open Rn.r_size Rn.r_run (by decide) (fun w => funext fun os => Prod.ext (Rn.l_0 w os) (Prod.ext (Rn.l_seen w os) (Rn.l_y w os)))
end Mine
/- Sd -/
namespace Mine
/-- the looks at the law's text, each in a check of its own -/
theorem law_said : OpenLaw.wellSaid PySem.Challenge.rw_om0050_01 = true := by
  unfold OpenLaw.wellSaid OpenRow.wellSaid OpenRow.partSaid looksOpen
  repeat' with_reducible refine look_both ?_ ?_
  all_goals decide +kernel
end Mine
/- B1 -/
namespace Mine
noncomputable abbrev LO : List Str := looseW hd.view_39 [Str.ofString "_filemode_table", Str.ofString "b2a_base64", Str.ofString "b64encode"]
noncomputable abbrev PG : Program := PySem.Challenge.pw_om0050_01
abbrev Kp (h h' : Heap) : Prop := ∀ b o, h.get? b = some o → h'.get? b = some o
theorem Kp.rfl' {h : Heap} : Kp h h := fun _ _ e => e
theorem Kp.tr {a b c : Heap} (x : Kp a b) (y : Kp b c) : Kp a c := fun p o e => y p o (x p o e)

structure G (w : World) (h : Heap) : Prop where
  k : (hd.heap_39 w.params).In h
  t : ∃ mean mg mb, Top hd.view_39 LO mean mg mb h
theorem G.keeps {w : World} {h h' : Heap} (g : G w h) (k : Kp h h') : G w h' :=
  ⟨g.k.keeps k, let ⟨a, b, c, t⟩ := g.t; ⟨a, b, c, t.keeps k⟩⟩
theorem G.nolimit {w : World} {h : Heap} (g : G w h) : h.NoLimit := let ⟨_, _, _, t⟩ := g.t; t.nolimit
theorem G.of {w : World} {h₀ h : Heap} {L : Addr} {m mg mb : Str → Option Value} {mean : ExcName → Option Value} (F : Fr h₀ L h m) (X : (hd.heap_39 w.params).In h₀) (T : Top hd.view_39 LO mean mg mb h₀) : G w h :=
  ⟨X.keeps F.keep, _, _, _, T.keeps F.keep⟩

abbrev AA (dp un : Nat) (fr : Option (List Env)) (gd : Option (List Code)) : Around := { handled := none, depth := dp, frames := fr, guards := gd, units := un }

section
variable {w : World} {A : Around} {s : Shared} {R : Result → Shared → Prop} {name qual : Str} {params : Arguments} {body : List Stmt} {scope : Scope} {dV kV doc pm cdv ct oc : Value} {an od : Option Addr} {osl : Array (Option Value)} {f : Addr} {args : Args} {binds : List (Str × Value)} {Q E : Value → Shared → Prop} {pos : List Value} {kw : List (Str × Value)}
theorem enter (g : G w s.heap) (hroom : A.depth < recursionLimit)
    (ho : (hd.heap_39 w.params).lookup f = some ⟨oc, od, .func (fnOf name qual params body scope dV kV doc pm an cdv ct), osl⟩) (hcd : codeIn (hd.heap_39 w.params) cdv qual = true)
    (hbind : BindsTo s (fnOf name qual params body scope dV kV doc pm an cdv ct) ⟨pos, kw⟩ binds) (hloc : ∀ y ∈ binds, scope.names.lookup y.1 = some .local)
    (h : ∀ L h₁ tk mean mg mb, Fr s.heap L h₁ (fun y => binds.reverse.lookup y) → News s.heap L h₁ [] → (hd.heap_39 w.params).In s.heap → Top hd.view_39 LO mean mg mb s.heap →
      wpAny (model PG w) (A.deeper (envOf qual scope L f cdv)) (execs body (envOf qual scope L f cdv))
        (fun fl s' => Q (match fl with | .ret v => v | _ => .none) s') (fun _ _ => False)
        { s with heap := h₁, toks := tk })
    (hco : scope.isCoroutine = false) (hgen : scope.isGenerator = false) (hk : scope.kind = .function)
    (hcell : ∀ x ∈ scope.names, x.2 ≠ .cell) : wpAny (model PG w) A (call (.ref f) pos kw) Q E s := by
  refine wpAny_call ?_
  obtain ⟨mean, mg, mb, T⟩ := g.t
  refine codeAny_call_def (fd := fnOf name qual params body scope dV kV doc pm an cdv ct) (body := body) (binds := binds) hroom (g.k _ _ ho) rfl g.nolimit (codeRec_of g.k hcd) rfl hbind hcell hloc (fun h₁ hns hk₁ => ?_) hco hgen hk
  exact wpAny_mono (h _ h₁ _ mean mg mb ⟨hns, fun b o e => hk₁ b o e, Nat.le_refl _⟩ News.nil g.k T) (fun fl s' hl => hl) fun _ _ y => y.elim

theorem enterC (g : G w s.heap) (hroom : A.depth < recursionLimit)
    (ho : (hd.heap_39 w.params).lookup f = some ⟨oc, od, .func (fnOf name qual params body scope dV kV doc pm an cdv ct), osl⟩) (hcd : codeIn (hd.heap_39 w.params) cdv qual = true)
    (hbind : BindsTo s (fnOf name qual params body scope dV kV doc pm an cdv ct) ⟨pos, kw⟩ binds)
    (hkind : (binds.all fun y => scope.names.lookup y.1 == some .local || scope.names.lookup y.1 == some .cell) = true)
    (hnd : ((cellsFrom 0 scope.names []).map (·.1)).Nodup)
    (h : ∀ L h₁ tk cells mean mg mb, Fr s.heap L h₁ (bindL (envOfC qual scope L f cdv).kindOf binds fun _ => none) → News s.heap L h₁ cells →
      CellsAre (bindC (envOfC qual scope L f cdv).kindOf binds fun _ => none) (cellsFrom (L + 1) scope.names []) cells → (hd.heap_39 w.params).In s.heap → Top hd.view_39 LO mean mg mb s.heap →
      wpAny (model PG w) (A.deeper (envOfC qual scope L f cdv)) (execs body (envOfC qual scope L f cdv))
        (fun fl s' => Q (match fl with | .ret v => v | _ => .none) s') (fun _ _ => False)
        { s with heap := h₁, toks := tk })
    (hco : scope.isCoroutine = false) (hgen : scope.isGenerator = false) (hk : scope.kind = .function) : wpAny (model PG w) A (call (.ref f) pos kw) Q E s := by
  refine wpAny_call ?_
  obtain ⟨mean, mg, mb, T⟩ := g.t
  refine codeAny_call_function hroom (g.k _ _ ho) rfl hco hgen rfl (codeRec_of g.k hcd) (hbind _ _ _ _ ?_)
  refine wpAny_newFunctionEnv_cells hk (kindsX hkind _) fun env' he s' x => ?_
  subst he
  refine ⟨g.nolimit.keeps x.toInCall.keep, codeAny_func ?_⟩
  obtain ⟨h₁, tk, rfl, _⟩ := x.done
  have hk₁ := x.toInCall.keep
  obtain ⟨cells, NC, Y⟩ := Cl.news (h₀ := s.heap) (Nat.le_refl _) fun n c hm => ⟨x.cell n c (lookup_of_mem_nodup (cellsFrom_names scope.names 0 (s.heap.objs.size + 1) [] [] rfl ▸ hnd) hm), x.above n c hm⟩
  exact wpAny_mono (h _ h₁ tk cells mean mg mb ⟨x.toInCall.ns, hk₁, Nat.le_refl _⟩ NC Y g.k T) (fun fl s' hl => hl) fun _ _ y => y.elim
end

theorem fill0 : PySem.Challenge.rw_om0050_01 = PySem.Challenge.rw_om0050_01 ∧ hd.heap_39 = hd.heap_39 := by
  k_fill
  exact ⟨rfl, rfl⟩
end Mine
/- B2 -/
namespace Mine

noncomputable def cEnv (scope : Scope) (cl : List (Str × Addr)) (C : Addr) (env : Env) : Env :=
  { scope := relabel scope env, locals := C, globals := env.globals, cells := cellsFrom (C + 1) scope.names cl, qual := env.qual, func := none, code := env.code, frame := env.frame, builtins := env.builtins }

/-- the block's own variable x holds ov -/
noncomputable def CF (cenv : Env) (x : Str) (h : Heap) (ov : Option Value) : Prop :=
  ∃ m, h.Ns cenv.locals m ∧ ((cenv.kindOf x = some .local ∧ m x = ov) ∨ (cenv.kindOf x = some .cell ∧ cenv.cells.lookup x = some (cenv.locals + 1) ∧ h.IsCell (cenv.locals + 1) ov))

/-- the kinds of block that are served: the variable is a local of its own, or its one cell -/
noncomputable def OneVar (scope : Scope) (cl : List (Str × Addr)) (env : Env) (x : Str) : Prop :=
  ((∀ y ∈ scope.names, y.2 ≠ .cell) ∧ scope.names.lookup x = some .local) ∨
  ((∀ n, cellsFrom n scope.names cl = (x, n) :: cl) ∧ (∀ h, pushCells h scope.names = h.push { cls := .type "cell", data := .cell none }) ∧ (relabel scope env).names.lookup x = some .cell)

theorem pushCells_none : ∀ (names : List (Str × NameKind)) (h : Heap), (∀ y ∈ names, y.2 ≠ .cell) → pushCells h names = h
  | [], _, _ => rfl
  | (n, k) :: r, h, hc => by
    unfold pushCells
    have : (k == NameKind.cell) = false := by simpa using hc (n, k) (by simp)
    rw [this]
    exact pushCells_none r h fun y hy => hc y (by simp [hy])
section
variable {w : World} {A : Around} {E : Value → Shared → Prop} {s : Shared}

theorem newEnv_comp {scope : Scope} {cl : List (Str × Addr)} {env : Env} {Q : Env → Shared → Prop}
    (h : Q { scope := scope, locals := s.heap.objs.size, globals := env.globals, cells := cellsFrom (s.heap.objs.size + 1) scope.names cl, qual := env.qual, func := none, code := env.code, frame := env.frame, builtins := env.builtins }
      { s with heap := pushCells (s.heap.push { cls := .type "dict", data := .dict #[] }) scope.names }) :
    wpAny (model PG w) A (newFunctionEnv scope env.globals cl [] env.qual none .none (some env)) Q E s := by
  simp only [newFunctionEnv, Option.isSome_some, if_true]
  refine wpAny_bind (wpAny_alloc ?_)
  refine wpAny_bind (wpAny_layCells _ (fun name kind cells => by cases hkc : kind == NameKind.cell <;> simp [hkc]) _ _ _ _ ?_)
  rw [show ({ s with heap := s.heap.push { cls := .type "dict", data := .dict #[] } } : Shared).heap.objs.size = s.heap.objs.size + 1 from Heap.size_push ..]
  exact wpAny_bind (wpAny_pure (wpAny_pure h))

theorem CF.sameBut {cenv : Env} {x : Str} {h h' : Heap} {ov : Option Value} {b : Addr} (c : CF cenv x h ov) (hs : Heap.SameBut b h h') (h1 : b ≠ cenv.locals) (h2 : b ≠ cenv.locals + 1) : CF cenv x h' ov := by
  obtain ⟨m, hn, hc⟩ := c
  refine ⟨m, hn.sameBut hs h1.symm, hc.imp id fun ⟨a, b', c'⟩ => ⟨a, b', c'.sameBut hs h2.symm⟩⟩
theorem CF.at {cenv : Env} {x : Str} {h h' : Heap} {ov : Option Value} (c : CF cenv x h ov) (hk : ∀ b o, (b = cenv.locals ∨ (b = cenv.locals + 1 ∧ cenv.kindOf x = some .cell)) → h.get? b = some o → h'.get? b = some o) : CF cenv x h' ov := by
  obtain ⟨m, hn, hc⟩ := c
  refine ⟨m, hn.at' fun o e => hk _ o (.inl rfl) e, hc.imp id fun ⟨a, b', ⟨o, c1, c2⟩⟩ => ⟨a, b', ⟨o, hk _ o (.inr ⟨rfl, a⟩) c1, c2⟩⟩⟩
theorem CF.ns {cenv : Env} {x : Str} {h : Heap} {ov : Option Value} (c : CF cenv x h ov) : ∃ m, h.Ns cenv.locals m := let ⟨m, hn, _⟩ := c; ⟨m, hn⟩

/-- the address where the variable lies -/
noncomputable def varAt (scope : Scope) (env : Env) (x : Str) (C : Addr) : Addr := if (relabel scope env).names.lookup x = some .local then C else C + 1

theorem CF.store {scope : Scope} {cl : List (Str × Addr)} {C : Addr} {env : Env} {x : Str} {px : Pos} {ov : Option Value} {v : Value} {Q : Unit → Shared → Prop}
    (hkind : scope.kind = .function) (c : CF (cEnv scope cl C env) x s.heap ov)
    (h : ∀ h' tk, CF (cEnv scope cl C env) x h' (some v) → Heap.SameBut (varAt scope env x C) s.heap h' → Q () { s with heap := h', toks := tk }) :
    wpAny (model PG w) A (assign (.Name x px) (cEnv scope cl C env) v) Q E s := by
  obtain ⟨m, hn, hc⟩ := c
  have hk' : (cEnv scope cl C env).scope.kind = .function := hkind
  rcases hc with ⟨hl, hm⟩ | ⟨hl, hlk, hcell⟩
  · have hv : varAt scope env x C = C := by
      unfold varAt; rw [if_pos]; exact hl
    refine wpAny_assign_Name (wpAny_storeName_local hl hn (fun h' hn' hs' => h h' _ ⟨_, hn', .inl ⟨hl, by simp⟩⟩ (by rw [hv]; exact hs')) (by rw [hk']; rfl))
  · have hv : varAt scope env x C = C + 1 := by
      unfold varAt; rw [if_neg]; intro e
      have e' : (cEnv scope cl C env).kindOf x = some .local := e
      rw [hl] at e'; cases e'
    refine wpAny_assign_Name (wpAny_storeName_cell hk' hl hlk hcell fun h' hc' hs' => h h' _ ⟨m, hn.sameBut hs' ?_, .inr ⟨hl, hlk, hc'⟩⟩ (by rw [hv]; exact hs'))
    exact Nat.ne_of_lt (Nat.lt_succ_self _)
end

section
variable {w : World} {A : Around} {E : Value → Shared → Prop}

/-- the block's own places: the list, the frame, the cell of its variable if it has one -/
noncomputable def Own (scope : Scope) (env : Env) (x : Str) (D b : Nat) : Prop := b = D ∨ b = D + 1 ∨ (b = D + 2 ∧ (relabel scope env).names.lookup x ≠ some .local)

/-- the block's start and its whole loop, by a word J over the heap -/
theorem comp_core {elt iter : Expr} {x : Str} {px : Pos} {scope : Scope} {cl : List (Str × Addr)} {pos : Pos} {env : Env} {s₂ : Shared} {I : Addr} {fp wr : List Addr} {n : Nat} {P : Nat → Value → Prop}
    {St : Nat → Heap → Prop} (W : Walks PG w A I fp wr n P St) (hsz : n ≤ sizeLine) {RR : Value → Addr → Result → Shared → Prop}
    (hlive : ∀ i h, St i h → ∀ b ∈ wr, ∃ o, h.get? b = some o)
    (hvar : OneVar scope cl env x) (hkind : scope.kind = .function) (hst : St 0 s₂.heap) (hfp : ∀ b : Nat, b ∈ fp → b < s₂.heap.objs.size)
    (J : Nat → List Value → Heap → Prop)
    (hJ0 : J 0 [] s₂.heap)
    (hJ : ∀ i ys h h', J i ys h → (∀ (b : Nat) o, b ∉ wr → ¬ Own scope env x s₂.heap.objs.size b → h.get? b = some o → h'.get? b = some o) → J i ys h')
    (helt : ∀ i v ys h₃ tk₃ E', P i v → i < n → ys.length = i → CF (cEnv scope cl (s₂.heap.objs.size + 1) env) x h₃ (some v) → J i ys h₃ →
      (∀ b : Nat, (b ∈ wr ∨ Own scope env x s₂.heap.objs.size b) → ∃ o, h₃.get? b = some o) →
      wpAny (model PG w) A (eval elt (cEnv scope cl (s₂.heap.objs.size + 1) env)) (fun y s₄ => ∃ h' tk, s₄ = { s₂ with heap := h', toks := tk } ∧ J (i + 1) (ys ++ [y]) h' ∧
        (∀ (b : Nat) o, (b ∈ fp ∨ Own scope env x s₂.heap.objs.size b) → h₃.get? b = some o → h'.get? b = some o)) E' { s₂ with heap := h₃, toks := tk₃ })
    (hRR : ∀ h' tk ys m', h'.Ns (s₂.heap.objs.size + 1) m' → h'.PlainList s₂.heap.objs.size ys.toArray → ys.length = n → J n ys h' →
      RR (.ref s₂.heap.objs.size) (s₂.heap.objs.size + 1) (.ok .next) { s₂ with heap := h', toks := tk }) :
    wpAny (model PG w) A (newList []) (fun acc s₃ => wpAny (model PG w) A (newFunctionEnv scope env.globals cl [] env.qual none .none (some env)) (fun cenv s₄ =>
      codeAny (model PG w) A (.compStart (.ListComp elt [⟨.Name x px, iter, [], 0⟩] scope pos) 0 (.ref I) acc { cenv with scope := relabel scope env }) (RR acc cenv.locals) s₄) E s₃) E s₂ := by
  refine wpAny_newObj_type (newEnv_comp ?_)
  dsimp only
  have hC : (s₂.heap.push { cls := .type "list", dict := none, data := .seq ([] : List Value).toArray }).objs.size = s₂.heap.objs.size + 1 := Heap.size_push ..
  rw [hC]
  generalize hH2 : s₂.heap.push { cls := .type "list", dict := none, data := .seq ([] : List Value).toArray } = H2 at hC ⊢
  generalize hH3 : H2.push { cls := .type "dict", data := .dict #[] } = H3
  generalize hD : s₂.heap.objs.size = D at *
  have hs3 : H3.objs.size = D + 2 := by rw [← hH3, Heap.size_push, hC]
  have k12 : Kp s₂.heap H2 := fun b o e => hH2 ▸ Heap.get?_push_of_some _ e
  have k23 : Kp H2 H3 := fun b o e => hH3 ▸ Heap.get?_push_of_some _ e
  have k34 : Kp H3 (pushCells H3 scope.names) := pushCells_keeps _ _
  have k : Kp s₂.heap (pushCells H3 scope.names) := (k12.tr k23).tr k34
  have hacc : (pushCells H3 scope.names).PlainList D #[] := ⟨0, k34 _ _ (k23 _ _ (by rw [← hH2, ← hD]; exact Heap.get?_push_size _ rfl))⟩
  have hns : (pushCells H3 scope.names).Ns (D + 1) fun _ => none := by
    have := (Heap.Ns.new H2 (.type "dict")).keeps (h' := pushCells H3 scope.names) (by rw [hH3]; exact k34)
    rw [hC] at this; exact this
  have hcf : CF (cEnv scope cl (D + 1) env) x (pushCells H3 scope.names) none := by
    refine ⟨_, hns, ?_⟩
    rcases hvar with ⟨h1, h2⟩ | ⟨h1, h2, h3⟩
    · exact .inl ⟨lookup_relabel_local h2, rfl⟩
    · refine .inr ⟨h3, ?_, ?_⟩
      · show (cellsFrom (D + 1 + 1) scope.names cl).lookup x = _
        rw [h1]; simp [List.lookup_cons]; rfl
      · rw [h2]
        exact ⟨_, by rw [show (cEnv scope cl (D + 1) env).locals + 1 = H3.objs.size by rw [hs3]; rfl]; exact Heap.get?_push_size _ rfl, rfl⟩
  have hst1 : St 0 (pushCells H3 scope.names) := W.frame _ _ _ hst fun b _ o e => k b o e
  have hJ1 : J 0 [] (pushCells H3 scope.names) := hJ _ _ _ _ hJ0 fun b o _ _ e => k b o e
  have hvat : Own scope env x D (varAt scope env x (D + 1)) ∧ varAt scope env x (D + 1) ≠ D ∧ D ≤ varAt scope env x (D + 1) := by
    unfold varAt; split
    · exact ⟨.inr (.inl rfl), Nat.succ_ne_self D, Nat.le_succ D⟩
    · exact ⟨.inr (.inr ⟨rfl, by assumption⟩), (by show D + 1 + 1 ≠ D; omega), (by show D ≤ D + 1 + 1; omega)⟩
  have own : ∀ b : Nat, b ∈ fp → ¬ Own scope env x D b := fun b hb ho => by
    have := hfp b hb
    rcases ho with e | e | ⟨e, _⟩ <;> omega
  have ownw : ∀ b : Nat, Own scope env x D b → b ∉ wr := fun b hb hw => own b (W.sub _ hw) hb
  have vown : ∀ b : Nat, ¬ Own scope env x D b → b ≠ varAt scope env x (D + 1) := fun b hb e => hb (e ▸ hvat.1)
  have alive : ∀ (h : Heap) (ov : Option Value), h.PlainList D #[] ∨ (∃ o, h.get? D = some o) → CF (cEnv scope cl (D + 1) env) x h ov → ∀ b : Nat, Own scope env x D b → ∃ o, h.get? b = some o := by
    intro h ov hd hc b hb
    rcases hb with rfl | rfl | ⟨rfl, hq⟩
    · rcases hd with ⟨_, e⟩ | e
      · exact ⟨_, e⟩
      · exact e
    · obtain ⟨m, ⟨o, _, _, ho, _⟩, _⟩ := hc; exact ⟨o, ho⟩
    · obtain ⟨m, _, hc⟩ := hc
      rcases hc with ⟨hl, _⟩ | ⟨_, _, ⟨o, ho, _⟩⟩
      · exact absurd hl hq
      · exact ⟨o, ho⟩
  have loop : ∀ s₃ : Shared, s₃ = { s₂ with heap := pushCells H3 scope.names } →
      codeAny (model PG w) A (.compLoop (.ListComp elt [⟨.Name x px, iter, [], 0⟩] scope pos) 0 (.ref I) (.ref D) (cEnv scope cl (D + 1) env)) (RR (.ref D) (D + 1)) s₃ := by
    rintro s₃ rfl
    refine codeAny_compLoop_list
      (fun k s' => ∃ h' tk ov, ∃ ys : List Value, s' = { s₂ with heap := h', toks := tk } ∧ St ys.length h' ∧ h'.PlainList D ys.toArray ∧ CF (cEnv scope cl (D + 1) env) x h' ov ∧ J ys.length ys h' ∧
        ys.length ≤ n ∧ k = n + 1 - ys.length) ?_ (n + 1)
      ⟨_, _, none, [], rfl, hst1, hacc, hcf, hJ1, Nat.zero_le _, rfl⟩
    rintro k s' ⟨H, tk, ov, ys, rfl, hst', hacc', hcf', hJ', hi, rfl⟩
    have cfo : ∀ (b : Nat), (b = (cEnv scope cl (D + 1) env).locals ∨ (b = (cEnv scope cl (D + 1) env).locals + 1 ∧ (cEnv scope cl (D + 1) env).kindOf x = some .cell)) → Own scope env x D b := by
      rintro b (rfl | ⟨rfl, hq⟩)
      · exact .inr (.inl rfl)
      · refine .inr (.inr ⟨rfl, fun e => ?_⟩)
        have e' : (cEnv scope cl (D + 1) env).kindOf x = some .local := e
        rw [hq] at e'; cases e'
    by_cases hlt : ys.length < n
    · refine W.item ys.length _ _ _ hlt hst' fun v h₁ tk₁ hPv hst₁ hk₁ => ?_
      have hcf₁ : CF (cEnv scope cl (D + 1) env) x h₁ ov := hcf'.at fun b o hb e => hk₁ b o (ownw b (cfo b hb)) e
      refine CF.store hkind hcf₁ fun h₂ tk₂ hcf₂ hs₂ => ?_
      have hst₂ : St (ys.length + 1) h₂ := W.frame _ _ _ hst₁ fun b hb o e => hs₂.extBut b o (vown b (own b hb)) e
      have hacc₂ : h₂.PlainList D ys.toArray := (hacc'.at fun o e => hk₁ _ o (ownw D (.inl rfl)) e).at fun o e => hs₂.extBut D o hvat.2.1.symm e
      have hJ₂ : J ys.length ys h₂ := hJ _ _ _ _ hJ' fun b o hbw hbo e => hs₂.extBut b o (vown b hbo) (hk₁ b o hbw e)
      refine wpAny_mono (helt ys.length v ys h₂ tk₂ _ hPv hlt rfl hcf₂ hJ₂ (fun b hb => hb.elim (fun hb => hlive _ _ hst₂ b hb) fun hb => alive h₂ _ (.inr (let ⟨_, e⟩ := hacc₂; ⟨_, e⟩)) hcf₂ b hb)) (fun y s₄ h₄ => ?_) fun _ _ e => e
      obtain ⟨h₄, tk₄, rfl, hJ₄, hk₄⟩ := h₄
      refine wpAny_list_append_plain (hsz := by simp; omega) (hacc₂.at fun o e => hk₄ D o (.inr (.inl rfl)) e) fun h₅ hl₅ hs₅ => ?_
      have hD5 : ∀ b : Nat, b ≠ D → ∀ o, h₄.get? b = some o → h₅.get? b = some o := fun b hb o e => hs₅.extBut b o hb e
      have hst₄ : St (ys.length + 1) h₄ := W.frame _ _ _ hst₂ fun b hb o e => hk₄ b o (.inl hb) e
      have hcf₄ : CF (cEnv scope cl (D + 1) env) x h₄ (some v) := hcf₂.at fun b o hb e => hk₄ b o (.inr (cfo b hb)) e
      refine ⟨n + 1 - (ys ++ [y]).length, by simp; omega, h₅, tk₄, some v, ys ++ [y], rfl, ?_, ?_, ?_, ?_, by simp; omega, rfl⟩
      · have := W.frame _ _ h₅ hst₄ fun b hb o e => hD5 b (fun h => own b hb (h ▸ .inl rfl)) o e
        simpa using this
      · simpa using hl₅
      · refine hcf₄.at fun b o hb e => hD5 b ?_ o e
        rcases hb with rfl | ⟨rfl, _⟩
        · exact Nat.succ_ne_self D
        · show D + 1 + 1 ≠ D; omega
      · have := hJ _ _ _ h₅ hJ₄ fun b o _ hbo e => hD5 b (fun h => hbo (h ▸ .inl rfl)) o e
        simpa using this
    · have hin : ys.length = n := by omega
      refine W.done _ _ _ (hin ▸ hst') fun h₁ tk₁ hk₁ => ?_
      obtain ⟨m', hn'⟩ := hcf'.ns
      exact hRR h₁ tk₁ ys m' (hn'.at' fun o e => hk₁ _ o (ownw _ (.inr (.inl rfl))) e) (hacc'.at fun o e => hk₁ _ o (ownw _ (.inl rfl)) e) hin (hJ _ _ _ _ (hin ▸ hJ') fun b o hb _ e => hk₁ b o hb e)
  exact codeAny_compStart_list (loop _ rfl) (W.self 0 _ _ _ hst1 (loop _ rfl))
end
end Mine
/- B3 -/
namespace Mine

/-- the iterators' classes -/
noncomputable def isIt (o : Obj) : Bool := match o.cls with
  | .type n => ["list_iterator", "tuple_iterator", "range_iterator", "bytes_iterator", "set_iterator", "enumerate", "dict_itemiterator"].contains n
  | _ => false

/-- a thing that can be walked: n items, the i-th as P says -/
noncomputable def Iters (w : World) (A : Around) (s : Shared) (v : Value) (n : Nat) (P : Nat → Value → Prop) (src : List Addr) : Prop :=
  ∀ (Q : Value → Shared → Prop) (E : Value → Shared → Prop),
    (∀ I fp wr St h' tk, Walks PG w A I fp wr n P St → (∀ i h, St i h → ∀ b ∈ wr, ∃ o, h.get? b = some o ∧ isIt o = true) →
      (∀ target x i (s' : Shared) (Q' : Unit → Shared → Prop) (E' : Value → Shared → Prop), St i s'.heap → Q' () s' → wpAny (model PG w) A (letOwnedTupleGo target (.ref I) x) Q' E' s') →
      St 0 h' → (∀ b : Nat, b ∈ fp → b < h'.objs.size) → (∀ b ∈ fp, b ∈ wr ∨ b ∈ src) → Kp s.heap h' → (∀ b ∈ wr, s.heap.get? b = none) →
      Q (.ref I) { s with heap := h', toks := tk }) → wpAny (model PG w) A (pyIter v) Q E s

theorem none_of_size {h : Heap} {a : Nat} (ha : h.objs.size ≤ a) : h.get? a = none := by
  cases e : h.get? a with
  | none => rfl
  | some o => exact absurd (Heap.lt_size e) (Nat.not_lt.mpr ha)

theorem go_quiet {w : World} {A : Around} {s : Shared} {target : Expr} {I : Addr} {x : Value} {o : Obj} {n : String} {Q : Unit → Shared → Prop} {E : Value → Shared → Prop} (ho : s.heap.get? I = some o) (hc : o.cls = .type n)
    (hn : ["enumerate", "zip", "dict_itemiterator", "dict_reverseitemiterator", "odict_iterator", "itertools.zip_longest", "itertools.pairwise"].contains n = false) (h : Q () s) :
    wpAny (model PG w) A (letOwnedTupleGo target (.ref I) x) Q E s := by
  unfold letOwnedTupleGo
  split
  · cases x <;> first
      | exact wpAny_pure h
      | (refine wpAny_bind (wpAny_load ho ?_)
         rw [hc]
         cases o.data <;> simp only [hn, Bool.false_and, Bool.false_eq_true, if_false] <;> exact wpAny_pure h)
  · cases x <;> first
      | exact wpAny_pure h
      | (refine wpAny_bind (wpAny_load ho ?_)
         rw [hc]
         cases o.data <;> simp only [hn, Bool.false_and, Bool.false_eq_true, if_false] <;> exact wpAny_pure h)
  · exact wpAny_pure h

theorem iters_list {w : World} {A : Around} {s : Shared} (hh : A.handled = none) {a : Addr} {items : Array Value} (hl : s.heap.IsList a items) :
    Iters w A s (.ref a) items.size (fun i v => items[i]? = some v) [a] := by
  intro Q E h
  refine wpAny_pyIter_list hl ?_
  have hlt : a < s.heap.objs.size := let ⟨o, ho, _⟩ := hl; Heap.lt_size ho
  have hne : a ≠ s.heap.objs.size := Nat.ne_of_lt hlt
  refine h s.heap.objs.size _ _ _ _ _ (Walks.list hh s.heap.objs.size a hne items) ?_ ?_ ⟨⟨_, Heap.get?_push_size _ rfl, rfl, rfl⟩, hl.at fun o e => Heap.get?_push_of_some _ e⟩ ?_ ?_ (fun _ _ e => Heap.get?_push_of_some _ e) ?_
  · intro i h st b hb
    rw [List.mem_singleton] at hb; subst hb
    obtain ⟨⟨o, e, hc, _⟩, _⟩ := st; exact ⟨o, e, by unfold isIt; rw [hc]; rfl⟩
  · intro target x i s' Q' E' st hq
    obtain ⟨⟨o, e, hc, _⟩, _⟩ := st
    exact go_quiet e hc (by decide) hq
  · intro b hb
    have hs : (s.heap.push { cls := .type "list_iterator", data := .fields #[.ref a, .int 0 0] }).objs.size = s.heap.objs.size + 1 := Heap.size_push ..
    rw [hs]
    rcases List.mem_cons.mp hb with e | hb
    · rw [e]; exact Nat.lt_succ_self _
    · rw [List.mem_singleton] at hb; rw [hb]; exact Nat.lt_succ_of_lt hlt
  · intro b hb
    rcases List.mem_cons.mp hb with e | hb
    · exact .inl (List.mem_singleton.mpr e)
    · exact .inr hb
  · intro b hb
    rw [List.mem_singleton] at hb; subst hb
    exact none_of_size (Nat.le_refl _)

theorem iters_tuple {w : World} {A : Around} {s : Shared} (hh : A.handled = none) {a : Addr} {items : Array Value} (hl : s.heap.IsTuple a items) :
    Iters w A s (.ref a) items.size (fun i v => items[i]? = some v) [a] := by
  intro Q E h
  refine wpAny_pyIter_tuple hl ?_
  have hlt : a < s.heap.objs.size := let ⟨o, ho, _⟩ := hl; Heap.lt_size ho
  have hne : a ≠ s.heap.objs.size := Nat.ne_of_lt hlt
  refine h s.heap.objs.size _ _ _ _ _ (Walks.tuple hh s.heap.objs.size a hne items) ?_ ?_ ⟨⟨_, Heap.get?_push_size _ rfl, rfl, rfl⟩, hl.at fun o e => Heap.get?_push_of_some _ e⟩ ?_ ?_ (fun _ _ e => Heap.get?_push_of_some _ e) ?_
  · intro i h st b hb
    rw [List.mem_singleton] at hb; subst hb
    obtain ⟨⟨o, e, hc, _⟩, _⟩ := st; exact ⟨o, e, by unfold isIt; rw [hc]; rfl⟩
  · intro target x i s' Q' E' st hq
    obtain ⟨⟨o, e, hc, _⟩, _⟩ := st
    exact go_quiet e hc (by decide) hq
  · intro b hb
    have hs : (s.heap.push { cls := .type "tuple_iterator", data := .fields #[.ref a, .int 0 0] }).objs.size = s.heap.objs.size + 1 := Heap.size_push ..
    rw [hs]
    rcases List.mem_cons.mp hb with e | hb
    · rw [e]; exact Nat.lt_succ_self _
    · rw [List.mem_singleton] at hb; rw [hb]; exact Nat.lt_succ_of_lt hlt
  · intro b hb
    rcases List.mem_cons.mp hb with e | hb
    · exact .inl (List.mem_singleton.mpr e)
    · exact .inr hb
  · intro b hb
    rw [List.mem_singleton] at hb; subst hb
    exact none_of_size (Nat.le_refl _)

theorem iters_range {w : World} {A : Around} {s : Shared} (hh : A.handled = none) {r : Addr} {n : Nat} {t u v : Tok} (hr : IsRange s.heap r 0 (n : Int) 1 t u v) (hn : n < 2 ^ 30) :
    Iters w A s (.ref r) n (fun i v => ∃ t, v = .int (i : Int) t) [] := by
  intro Q E h
  refine wpAny_pyIter_range hr (small_one (by decide) (by decide) (by omega) (by omega)) ?_
  have hsz : Builtin.Range.rangeSize 0 (n : Int) 1 = (n : Int) := by rw [rangeSize_one]; split <;> omega
  have hW := Walks.range (prog := PG) (w := w) hh s.heap.objs.size 0 1 n
  have hW' : Walks PG w A s.heap.objs.size [s.heap.objs.size] [s.heap.objs.size] n (fun i v => ∃ t, v = .int (i : Int) t) (fun i h => IsRangeIter h s.heap.objs.size (0 + (i : Nat) * 1) ((n : Int) - (i : Nat)) 1) :=
    { sub := hW.sub, frame := hW.frame, item := fun i s' Q' E' hi st hQ => hW.item i s' Q' E' hi st fun v h' tk ⟨t, e⟩ => hQ v h' tk ⟨t, by simpa using e⟩, done := hW.done, self := hW.self }
  refine h s.heap.objs.size _ _ _ _ _ hW' ?_ ?_ ?_ ?_ ?_ (fun _ _ e => Heap.get?_push_of_some _ e) ?_
  · intro i h st b hb
    rw [List.mem_singleton] at hb; subst hb
    exact ⟨_, st, rfl⟩
  · intro target x i s' Q' E' st hq
    exact go_quiet st rfl (by decide) hq
  · have e1 : (0 + ((0 : Nat) : Int) * 1) = 0 := by simp
    have e2 : ((n : Int) - ((0 : Nat) : Int)) = Builtin.Range.rangeSize 0 (n : Int) 1 := by rw [hsz]; simp
    rw [e1, e2]
    exact Heap.get?_push_size _ rfl
  · intro b hb
    rw [List.mem_singleton] at hb; subst hb
    rw [Heap.size_push]; exact Nat.lt_succ_self _
  · intro b hb
    exact .inl hb
  · intro b hb
    rw [List.mem_singleton] at hb; subst hb
    exact none_of_size (Nat.le_refl _)

/-- objects that lie in a heap -/
noncomputable def Lie (h : Heap) (objs : List (Addr × Obj)) : Prop := ∀ p ∈ objs, h.get? p.1 = some p.2
theorem Lie.nil {h : Heap} : Lie h [] := fun _ hp => nomatch hp
theorem Lie.keeps {h h' : Heap} {objs : List (Addr × Obj)} (x : Lie h objs) (k : Kp h h') : Lie h' objs := fun p hp => k _ _ (x p hp)
noncomputable def Fresh (h : Heap) (objs : List (Addr × Obj)) : Prop := ∀ p ∈ objs, h.get? p.1 = none
theorem Fresh.nil {h : Heap} : Fresh h [] := fun _ hp => nomatch hp
theorem Fresh.of {h h' : Heap} {objs : List (Addr × Obj)} (x : Fresh h' objs) (k : Kp h h') : Fresh h objs := fun p hp => by
  cases e : h.get? p.1 with
  | none => rfl
  | some o => have := k _ _ e; rw [x p hp] at this; cases this

/-- what a quiet block gives: the list D of ys, each with its own objects -/
structure Made (h₀ h : Heap) (D : Addr) (n : Nat) (φ : Nat → Value → List (Addr × Obj) → Prop) (ys : List Value) (os : List (List (Addr × Obj))) : Prop where
  list : h.PlainList D ys.toArray
  fresh : h₀.get? D = none
  len : ys.length = n
  lens : os.length = n
  each : ∀ i y o, ys[i]? = some y → os[i]? = some o → φ i y o
  lie : ∀ o ∈ os, Lie h o
  new : ∀ o ∈ os, Fresh h₀ o
  off : ∀ o ∈ os, ∀ p ∈ o, p.1 ≠ D
  apart : os.Pairwise fun a b => ∀ p ∈ a, ∀ q ∈ b, p.1 ≠ q.1
theorem Made.keeps {h₀ h h' : Heap} {D : Addr} {n : Nat} {φ : Nat → Value → List (Addr × Obj) → Prop} {ys : List Value} {os : List (List (Addr × Obj))} (m : Made h₀ h D n φ ys os) (k : Kp h h') : Made h₀ h' D n φ ys os :=
  { m with list := m.list.at fun o e => k _ o e, lie := fun o ho => (m.lie o ho).keeps k }

section
variable {w : World} {A : Around} {E : Value → Shared → Prop}

theorem comp_quiet {elt iter : Expr} {x : Str} {px : Pos} {scope : Scope} {cl : List (Str × Addr)} {pos : Pos} {env : Env} {s s₂ : Shared} {I : Addr} {fp wr : List Addr} {n : Nat} {P : Nat → Value → Prop}
    {St : Nat → Heap → Prop} (W : Walks PG w A I fp wr n P St) (hsz : n ≤ sizeLine) {RR : Value → Addr → Result → Shared → Prop}
    (hlive : ∀ i h, St i h → ∀ b ∈ wr, ∃ o, h.get? b = some o)
    (hvar : OneVar scope cl env x) (hkind : scope.kind = .function) (hst : St 0 s₂.heap) (hfp : ∀ b : Nat, b ∈ fp → b < s₂.heap.objs.size)
    (hB : Kp s.heap s₂.heap) (hwr : ∀ b ∈ wr, s.heap.get? b = none)
    (φ : Nat → Value → List (Addr × Obj) → Prop)
    (helt : ∀ i v B h₃ tk₃ C E', P i v → i < n → Kp s.heap B → B.objs.size ≤ C → CF (cEnv scope cl C env) x h₃ (some v) → Kp B h₃ →
      wpAny (model PG w) A (eval elt (cEnv scope cl C env)) (fun y s₄ => ∃ h' tk o, s₄ = { s₂ with heap := h', toks := tk } ∧ Kp h₃ h' ∧ φ i y o ∧ Lie h' o ∧ Fresh h₃ o) E' { s₂ with heap := h₃, toks := tk₃ })
    (hRR : ∀ h' tk D C ys os m', h'.Ns C m' → Made s.heap h' D n φ ys os → s.heap.get? C = none → D ≠ C → (∀ o ∈ os, ∀ p ∈ o, p.1 ≠ C) → Kp s.heap h' →
      RR (.ref D) C (.ok .next) { s₂ with heap := h', toks := tk }) :
    wpAny (model PG w) A (newList []) (fun acc s₃ => wpAny (model PG w) A (newFunctionEnv scope env.globals cl [] env.qual none .none (some env)) (fun cenv s₄ =>
      codeAny (model PG w) A (.compStart (.ListComp elt [⟨.Name x px, iter, [], 0⟩] scope pos) 0 (.ref I) acc { cenv with scope := relabel scope env }) (RR acc cenv.locals) s₄) E s₃) E s₂ := by
  have hown : ∀ b : Nat, Own scope env x s₂.heap.objs.size b → s.heap.get? b = none := fun b hb => by
    cases e : s.heap.get? b with
    | none => rfl
    | some o =>
      have hlt : @LT.lt Nat _ b s₂.heap.objs.size := Heap.lt_size (hB _ _ e)
      rcases hb with rfl | rfl | ⟨rfl, _⟩ <;> exact absurd hlt (by omega)
  have hBw : Kp s.heap (hideAll s₂.heap wr) := fun b o e => hideAll_get _ (hB b o e) fun hw => by rw [hwr b hw] at e; cases e
  refine comp_core (E := E) (RR := RR) (px := px) (iter := iter) (pos := pos) (elt := elt) W hsz hlive hvar hkind hst hfp
    (fun i ys h => Kp (hideAll s₂.heap wr) h ∧ ∃ os : List (List (Addr × Obj)), os.length = i ∧ (∀ j y o, ys[j]? = some y → os[j]? = some o → φ j y o) ∧ (∀ o ∈ os, Lie h o ∧ Fresh s.heap o ∧ ∀ p ∈ o, (p.1 : Nat) ∉ wr ∧ ¬ Own scope env x s₂.heap.objs.size p.1) ∧
      os.Pairwise (fun (a b : List (Addr × Obj)) => ∀ p ∈ a, ∀ q ∈ b, p.1 ≠ q.1))
    ⟨fun b o e => of_hideAll _ e, [], rfl, (fun j y o hj => by simp at hj), (fun o ho => by cases ho), List.Pairwise.nil⟩ ?_ ?_ ?_
  · rintro i ys h h' ⟨hk, os, h1, h2, h3, h4⟩ hkk
    refine ⟨fun b o e => hkk b o (fun hw => by rw [hideAll_none _ hw] at e; cases e) (fun ho => ?_) (hk b o e), os, h1, h2, fun o ho => ?_, h4⟩
    · have hlt : @LT.lt Nat _ b s₂.heap.objs.size := Heap.lt_size (of_hideAll _ e)
      rcases ho with rfl | rfl | ⟨rfl, _⟩ <;> exact absurd hlt (by omega)
    obtain ⟨l1, l2, l3⟩ := h3 o ho
    exact ⟨fun p hp => hkk p.1 _ (l3 p hp).1 (l3 p hp).2 (l1 p hp), l2, l3⟩
  · rintro i v ys h₃ tk₃ E' hP hi hys hcf ⟨hk, os, h1, h2, h3, h4⟩ hal
    refine wpAny_mono (helt i v (hideAll s₂.heap wr) h₃ tk₃ (s₂.heap.objs.size + 1) E' hP hi hBw (by rw [hideAll_size]; exact Nat.le_succ _) hcf hk) (fun y s₄ h₄ => ?_) fun _ _ e => e
    obtain ⟨h', tk, o, rfl, hk', hφ, hl, hf⟩ := h₄
    have hnot : ∀ p ∈ o, (p.1 : Nat) ∉ wr ∧ ¬ Own scope env x s₂.heap.objs.size p.1 := fun p hp => by
      have hn := hf p hp
      refine ⟨fun hw => ?_, fun hw => ?_⟩
      · obtain ⟨o', e⟩ := hal p.1 (.inl hw); rw [hn] at e; cases e
      · obtain ⟨o', e⟩ := hal p.1 (.inr hw); rw [hn] at e; cases e
    refine ⟨h', tk, rfl, ⟨hk.tr hk', os ++ [o], by simp [h1], ?_, ?_, ?_⟩, fun b o _ e => hk' b o e⟩
    · intro j y' o' hj hj'
      rcases Nat.lt_trichotomy j i with hlt | rfl | hlt
      · rw [List.getElem?_append_left (by omega)] at hj hj'
        exact h2 j y' o' hj hj'
      · rw [List.getElem?_append_right (by omega), hys] at hj
        rw [List.getElem?_append_right (by omega), h1] at hj'
        simp at hj hj'; subst hj; subst hj'; exact hφ
      · rw [List.getElem?_append_right (by omega)] at hj
        have : j - ys.length ≠ 0 := by omega
        simp [this] at hj
    · intro o' ho'
      rcases List.mem_append.mp ho' with ho' | ho'
      · obtain ⟨l1, l2, l3⟩ := h3 o' ho'; exact ⟨l1.keeps hk', l2, l3⟩
      · rw [List.mem_singleton] at ho'; subst ho'; exact ⟨hl, hf.of (hBw.tr hk), hnot⟩
    · refine List.pairwise_append.mpr ⟨h4, List.pairwise_singleton _ _, fun a ha b hb p hp q hq e => ?_⟩
      rw [List.mem_singleton] at hb; subst hb
      have e1 := (h3 a ha).1 p hp
      rw [e, hf q hq] at e1; cases e1
  · rintro h' tk ys m' hn hpl hlen ⟨hk, os, h1, h2, h3, h4⟩
    refine hRR h' tk _ _ ys os m' hn ⟨hpl, hown _ (.inl rfl), hlen, h1, h2, fun o ho => (h3 o ho).1, fun o ho => (h3 o ho).2.1, fun o ho p hp e => ((h3 o ho).2.2 p hp).2 (.inl e), h4⟩ (hown _ (.inr (.inl rfl))) (Nat.ne_of_lt (Nat.lt_succ_self _)) (fun o ho p hp e => ((h3 o ho).2.2 p hp).2 (.inr (.inl e))) (hBw.tr hk)
end
end Mine
/- B4 -/
namespace Mine
/-- what the evaluation of a block's source gives -/
noncomputable def ItP (w : World) (A : Around) (s : Shared) (n : Nat) (P : Nat → Value → Prop) (xv : Value) (s₁ : Shared) : Prop := Keeps s s₁ ∧ ∃ src, Iters w A s₁ xv n P src
/-- what the evaluation of a block's element gives -/
noncomputable def EltP (s : Shared) (h₃ : Heap) (φ : Value → List (Addr × Obj) → Prop) (y : Value) (s₄ : Shared) : Prop :=
  ∃ h' tk o, s₄ = { s with heap := h', toks := tk } ∧ Kp h₃ h' ∧ φ y o ∧ Lie h' o ∧ Fresh h₃ o
section
variable {w : World} {A : Around} {E : Value → Shared → Prop} {s : Shared}

theorem comp_eval {elt iter : Expr} {x : Str} {px : Pos} {scope : Scope} {cl : List (Str × Addr)} {pos : Pos} {env : Env} {Q : Value → Shared → Prop} (n : Nat) (P : Nat → Value → Prop)
    (φ : Nat → Value → List (Addr × Obj) → Prop)
    (hclos : closureFor scope env = pure cl) (hvar : OneVar scope cl env x) (hkind : scope.kind = .function)
    (hnames : ∀ y ∈ scope.names, y.2 = .local → scope.names.lookup y.1 = some .local) (hsz : n ≤ sizeLine)
    (h1 : wpAny (model PG w) A (eval iter env) (ItP w A s n P) E s)
    (helt : ∀ i v B h₃ tk₃ C E', P i v → i < n → Kp s.heap B → B.objs.size ≤ C → CF (cEnv scope cl C env) x h₃ (some v) → Kp B h₃ →
      wpAny (model PG w) A (eval elt (cEnv scope cl C env)) (EltP s h₃ (φ i)) E' { s with heap := h₃, toks := tk₃ })
    (hQ : ∀ h' tk D ys os, Made s.heap h' D n φ ys os → Kp s.heap h' → Q (.ref D) { s with heap := h', toks := tk })
    (hs : ∀ x, foldedSetIterable iter env x = pure x := by intro _; rfl) :
    wpAny (model PG w) A (eval (.ListComp elt [⟨.Name x px, iter, [], 0⟩] scope pos) env) Q E s := by
  rw [eval_ListComp]
  refine wpAny_comprehension_free (use := none) rfl hs hclos hkind hnames (wpAny_mono h1 (fun xv s₁ h₁ => ?_) fun _ _ e => e)
  obtain ⟨⟨h₁, tk₁, rfl, k₁⟩, src, it⟩ := h₁
  refine it _ _ fun I fp wr St h' tk W hl' _ hst hfp _ hk hwr => ?_
  have hl : ∀ i h, St i h → ∀ b ∈ wr, ∃ o, h.get? b = some o := fun i h st b hb => let ⟨o, e, _⟩ := hl' i h st b hb; ⟨o, e⟩
  refine comp_quiet (s := s) (s₂ := { s with heap := h', toks := tk }) (RR := fun acc C => compPost (model PG w) A E none Q acc C) W hsz hl hvar hkind hst hfp (Kp.tr k₁ hk) (fun b hb => ?_) φ helt ?_
  · cases e : s.heap.get? b with
    | none => rfl
    | some o => have := k₁ _ _ e; rw [hwr b hb] at this; cases this
  · intro h₂ tk₂ D C ys os m' hn hM hC hDC hoC hk₂
    refine ⟨m', hn, fun h₃ hs₃ => ?_⟩
    have hkC : ∀ b o, s.heap.get? b = some o → h₃.get? b = some o := fun b o e => hs₃.extBut b o (by rintro rfl; rw [hC] at e; cases e) (hk₂ b o e)
    exact hQ h₃ tk₂ D ys os { hM with list := hM.list.extBut hs₃.extBut hDC, lie := fun o ho p hp => hs₃.extBut _ _ (hoC o ho p hp) (hM.lie o ho p hp) } hkC

theorem comp_assign {elt iter : Expr} {x y : Str} {px py : Pos} {scope : Scope} {cl : List (Str × Addr)} {pos spos : Pos} {env : Env} {Q : Flow → Shared → Prop} {m : Str → Option Value} (n : Nat) (P : Nat → Value → Prop)
    (φ : Nat → Value → List (Addr × Obj) → Prop)
    (hsw : swapsWith (.ListComp elt [⟨.Name x px, iter, [], 0⟩] scope pos) (some (.Name y py)) spos.line env = pure true)
    (hclos : closureFor scope env = pure cl) (hvar : OneVar scope cl env x) (hkind : scope.kind = .function)
    (hnames : ∀ y ∈ scope.names, y.2 = .local → scope.names.lookup y.1 = some .local) (hsz : n ≤ sizeLine)
    (hy : env.kindOf y = some .local) (hp : (env.scope.kind == .class || (env.scope.kind == .module && env.locals != env.globals)) = false) (hn : s.heap.Ns env.locals m)
    (h1 : wpAny (model PG w) A (eval iter env) (ItP w A s n P) E s)
    (helt : ∀ i v B h₃ tk₃ C E', P i v → i < n → Kp s.heap B → B.objs.size ≤ C → CF (cEnv scope cl C env) x h₃ (some v) → Kp B h₃ →
      wpAny (model PG w) A (eval elt (cEnv scope cl C env)) (EltP s h₃ (φ i)) E' { s with heap := h₃, toks := tk₃ })
    (hQ : ∀ h' tk D ys os, Made s.heap h' D n φ ys os → h'.Ns env.locals (fun z => if z = y then some (.ref D) else m z) → (∀ b o, b ≠ env.locals → s.heap.get? b = some o → h'.get? b = some o) → Q .next { s with heap := h', toks := tk })
    (hs : ∀ x, foldedSetIterable iter env x = pure x := by intro _; rfl) :
    wpAny (model PG w) A (exec (.Assign [.Name y py] (.ListComp elt [⟨.Name x px, iter, [], 0⟩] scope pos) spos) env) Q E s := by
  rw [exec_Assign_Name_used _ _ _ _ hsw]
  refine wpAny_bind (wpAny_standAt (wpAny_bind ?_))
  show wpAny _ A (do let _ ← comprehension (.ListComp elt [⟨.Name x px, iter, [], 0⟩] scope pos) scope env _ (newList []) false (eval iter env) (some (assign (.Name y py) env))) _ _ s
  refine wpAny_bind (wpAny_mono (wpAny_comprehension_free (use := some (assign (.Name y py) env)) (Q := fun _ s' => Q .next s') rfl hs hclos hkind hnames
    (wpAny_mono h1 (fun xv s₁ h₁ => ?_) fun _ _ e => e)) (fun _ s' hq => wpAny_pure (wpAny_pure hq)) fun _ _ e => e)
  obtain ⟨⟨h₁, tk₁, rfl, k₁⟩, src, it⟩ := h₁
  refine it _ _ fun I fp wr St h' tk W hl' _ hst hfp _ hk hwr => ?_
  have hl : ∀ i h, St i h → ∀ b ∈ wr, ∃ o, h.get? b = some o := fun i h st b hb => let ⟨o, e, _⟩ := hl' i h st b hb; ⟨o, e⟩
  refine comp_quiet (s := s) (s₂ := { s with heap := h', toks := tk }) (RR := fun acc C => compPost (model PG w) A E (some (assign (.Name y py) env)) (fun _ s' => Q .next s') acc C) W hsz hl hvar hkind hst hfp (Kp.tr k₁ hk) (fun b hb => ?_) φ helt ?_
  · cases e : s.heap.get? b with
    | none => rfl
    | some o => have := k₁ _ _ e; rw [hwr b hb] at this; cases this
  · intro h₂ tk₂ D C ys os m' hnC hM hC hDC hoC hk₂
    have hL : ∃ o, s.heap.get? env.locals = some o := let ⟨o, _, _, ho, _⟩ := hn; ⟨o, ho⟩
    obtain ⟨oL, hoL⟩ := hL
    have hLC : env.locals ≠ C := by rintro rfl; rw [hC] at hoL; cases hoL
    have hLD : env.locals ≠ D := by intro e; have := hM.fresh; rw [← e, hoL] at this; cases this
    have hLo : ∀ o ∈ os, ∀ p ∈ o, p.1 ≠ env.locals := fun o ho p hp e => by have := hM.new o ho p hp; rw [e, hoL] at this; cases this
    show wpAny _ A (assign (.Name y py) env (.ref D)) _ _ _
    refine wpAny_assign_Name (wpAny_storeName_local hy (hn.keeps hk₂) (fun h₃ hn₃ hs₃ => ?_) hp)
    refine ⟨m', hnC.sameBut hs₃ (Ne.symm hLC), fun h₄ hs₄ => ?_⟩
    refine hQ h₄ _ D ys os { hM with list := (hM.list.extBut hs₃.extBut (Ne.symm hLD)).extBut hs₄.extBut hDC, lie := fun o ho p hp => hs₄.extBut _ _ (hoC o ho p hp) (hs₃.extBut _ _ (hLo o ho p hp) (hM.lie o ho p hp)) } (hn₃.sameBut hs₄ hLC) fun b o hb e => ?_
    exact hs₄.extBut b o (by rintro rfl; rw [hC] at e; cases e) (hs₃.extBut b o hb (hk₂ b o e))

theorem Made.news {h₀ h h' : Heap} {L : Addr} {m : Str → Option Value} {news : List (Addr × Obj)} {D : Addr} {n : Nat} {φ : Nat → Value → List (Addr × Obj) → Prop} {ys : List Value} {os : List (List (Addr × Obj))}
    (F : Fr h₀ L h m) (N : News h₀ L h news) (M : Made h h' D n φ ys os) (k : ∀ b o, b ≠ L → h.get? b = some o → h'.get? b = some o) :
    ∃ ep, News h₀ L h' ((D, { cls := .type "list", data := .seq ys.toArray ep }) :: (os.flatten ++ news)) := by
  obtain ⟨oL, _, _, hoL, _⟩ := F.ns
  have hf : ∀ a, h.get? a = none → a ≠ L ∧ h₀.get? a = none := fun a ha => by
    refine ⟨fun e => ?_, ?_⟩
    · rw [e, hoL] at ha; cases ha
    · cases e : h₀.get? a with
      | none => rfl
      | some o => have := F.keep _ _ e; rw [ha] at this; cases this
  obtain ⟨ep, hl⟩ := M.list
  refine ⟨ep, fun p hp => ?_⟩
  rcases List.mem_cons.mp hp with rfl | hp
  · exact ⟨hl, hf _ M.fresh⟩
  · rcases List.mem_append.mp hp with hp | hp
    · obtain ⟨o, ho, hpo⟩ := List.mem_flatten.mp hp
      exact ⟨M.lie o ho p hpo, hf _ (M.new o ho p hpo)⟩
    · exact ⟨k _ _ (N p hp).2.1 (N p hp).1, (N p hp).2⟩
end
end Mine
/- B5 -/
namespace Mine
/-- no iterator among them but such as stood in the heap h -/
noncomputable def NoIt (h : Heap) (news : List (Addr × Obj)) : Prop := ∀ p ∈ news, (∃ o, h.get? p.1 = some o) ∨ isIt p.2 = false
theorem NoIt.nil {h : Heap} : NoIt h [] := fun _ h => nomatch h
theorem NoIt.cons {h : Heap} {p : Addr × Obj} {l : List (Addr × Obj)} (hp : isIt p.2 = false) (r : NoIt h l) : NoIt h (p :: l) := fun q hq => by
  rcases List.mem_cons.mp hq with rfl | hq
  · exact .inr hp
  · exact r q hq
theorem NoIt.old {h₀ h : Heap} {L : Addr} {news l : List (Addr × Obj)} (N : News h₀ L h news) (hs : ∀ p ∈ l, p ∈ news) : NoIt h l := fun q hq => .inl ⟨_, (N q (hs q hq)).1⟩
theorem NoIt.append {h : Heap} {l r : List (Addr × Obj)} (hl : NoIt h l) (k : NoIt h r) : NoIt h (l ++ r) := fun q hq => (List.mem_append.mp hq).elim (hl q) (k q)

section
variable {w : World} {A : Around} {E : Value → Shared → Prop}

/-- what a turn of a for leaves -/
noncomputable def ForEnd (h₀ : Heap) (L : Addr) (s : Shared) (its : List (Addr × Obj)) (J : (Str → Option Value) → List (Addr × Obj) → Prop) (s' : Shared) : Prop :=
  ∃ h' tk m' news', s' = { s with heap := h', toks := tk } ∧ Fr h₀ L h' m' ∧ News h₀ L h' (news' ++ its) ∧ NoIt s.heap news' ∧ J m' news'
noncomputable def ForPost (h₀ : Heap) (L : Addr) (s : Shared) (its : List (Addr × Obj)) (J : (Str → Option Value) → List (Addr × Obj) → Prop) (Q : Flow → Shared → Prop) (f : Flow) (s' : Shared) : Prop :=
  match f with
  | .ret v => Q (.ret v) s'
  | .brk => Q .next s'
  | _ => ForEnd h₀ L s its J s'

/-- a thing that can be walked by a for with this target -/
noncomputable def IterG (w : World) (A : Around) (s : Shared) (target : Expr) (Wp : (Value → Shared → Prop) → (Value → Shared → Prop) → Prop) (n : Nat) (P : Nat → Value → Heap → Prop) (src : List Addr) : Prop :=
  ∀ (Q : Value → Shared → Prop) (E : Value → Shared → Prop),
    (∀ (I : Addr) (fp wr : List Addr) (St : Nat → Heap → Prop) h' tk,
      (∀ i h h', St i h → (∀ b ∈ fp, ∀ o, h.get? b = some o → h'.get? b = some o) → St i h') →
      (∀ i (s' : Shared) (Q' : Value → Shared → Prop) (E' : Value → Shared → Prop), i < n → St i s'.heap →
        (∀ x h' tk, P i x h' → St (i + 1) h' → (∀ b o, b ∉ wr → s'.heap.get? b = some o → h'.get? b = some o) → Q' x { s' with heap := h', toks := tk }) →
        wpAny (model PG w) A (pyNext (.ref I)) (fun r s₁ => match r with | none => False | some x => wpAny (model PG w) A (letOwnedTupleGo target (.ref I) x) (fun _ s₂ => Q' x s₂) E' s₁) E' s') →
      (∀ (s' : Shared) (Q' : Option Value → Shared → Prop) (E' : Value → Shared → Prop), St n s'.heap →
        (∀ h' tk, (∀ b o, b ∉ wr → s'.heap.get? b = some o → h'.get? b = some o) → Q' none { s' with heap := h', toks := tk }) → wpAny (model PG w) A (pyNext (.ref I)) Q' E' s') →
      (∀ i h, St i h → ∀ b ∈ wr, ∃ o, h.get? b = some o ∧ isIt o = true) →
      St 0 h' → (∀ b ∈ fp, b ∈ wr ∨ b ∈ src) → Kp s.heap h' → (∀ b ∈ wr, s.heap.get? b = none) →
      Q (.ref I) { s with heap := h', toks := tk }) → Wp Q E
theorem Iters.toG {s : Shared} {v : Value} {n : Nat} {P : Nat → Value → Prop} {src : List Addr} (target : Expr) (it : Iters w A s v n P src) : IterG w A s target (fun Q E => wpAny (model PG w) A (pyIter v) Q E s) n (fun i x _ => P i x) src := by
  intro Q E h
  refine it Q E fun I fp wr St h' tk W hl hgo hst hfp hfs hk hwr => ?_
  refine h I fp wr St h' tk W.frame ?_ W.done hl hst hfs hk hwr
  intro i s' Q' E' hi st hQ
  refine W.item i s' _ E' hi st fun x h₁ tk₁ hP hst₁ hk₁ => ?_
  exact hgo target x (i + 1) _ _ _ hst₁ (hQ x h₁ tk₁ hP hst₁ hk₁)

theorem for_iterG {target : Expr} {body orelse : List Stmt} {env : Env} {s : Shared} {Wp : (Value → Shared → Prop) → (Value → Shared → Prop) → Prop} {h₀ : Heap} {m₀ : Str → Option Value} {news₀ : List (Addr × Obj)} {Q : Flow → Shared → Prop}
    {n : Nat} {P : Nat → Value → Heap → Prop} {src : List Addr} (J : Nat → (Str → Option Value) → List (Addr × Obj) → Prop) (it : IterG w A s target Wp n P src)
    (F : Fr h₀ env.locals s.heap m₀) (N : News h₀ env.locals s.heap news₀) (hJ0 : J 0 m₀ news₀)
    (hsrc : ∀ b ∈ src, (∃ o, h₀.get? b = some o) ∨ ∃ o, ∀ i m news, J i m news → (b, o) ∈ news)
    (turn : ∀ i v m₁ news₁ its h tk E₂, i < n → P i v h → J i m₁ news₁ → Fr h₀ env.locals h m₁ → News h₀ env.locals h (news₁ ++ its) → (∀ p ∈ its, ∀ q ∈ news₁, p.1 ≠ q.1) →
      wpAny (model PG w) A (assign target env v) (fun _ s₂ => wpAny (model PG w) A (execs body env) (ForPost h₀ env.locals s its (J (i + 1)) Q) E₂ s₂) E₂ { s with heap := h, toks := tk })
    (done : ∀ m₁ news₁ h tk E₂, J n m₁ news₁ → Fr h₀ env.locals h m₁ → News h₀ env.locals h news₁ →
      wpAny (model PG w) A (execs orelse env) Q E₂ { s with heap := h, toks := tk }) :
    Wp (fun it s₂ => codeAny (model PG w) A (.forLoop target it body orelse env) (fun r s' => match r with | .ok f => Q f s' | .error e => cameBackBy (model PG w) A env E e s') s₂) E := by
  refine it _ _ fun I fp wr St h' tk Wf Wi Wd hl hst hfs hk hwr => ?_
  have hLw' : env.locals ∉ wr := fun hw => by
    obtain ⟨o, _, _, ho, _⟩ := F.ns
    rw [hwr _ hw] at ho; cases ho
  have h0w : ∀ b o, h₀.get? b = some o → b ∉ wr := fun b o e hw => by
    have := F.keep _ _ e; rw [hwr _ hw] at this; cases this
  have hnw : ∀ i (h : Heap) news, St i h → (∀ p ∈ news, h.get? p.1 = some p.2) → NoIt s.heap news → ∀ p ∈ news, p.1 ∉ wr := fun i h news st hn hno p hp hw => by
    obtain ⟨o, e, hi⟩ := hl i h st _ hw
    rw [hn p hp] at e
    have e' := Option.some.inj e
    rcases hno p hp with ⟨o', ho'⟩ | hq
    · rw [hwr _ hw] at ho'; cases ho'
    · rw [← e', hq] at hi; cases hi
  refine codeAny_forLoop_any
    (fun k s' => ∃ h' tk m' news' i, s' = { s with heap := h', toks := tk } ∧ St i h' ∧ Fr h₀ env.locals h' m' ∧ News h₀ env.locals h' news' ∧ NoIt s.heap news' ∧ J i m' news' ∧ i ≤ n ∧ k = n + 1 - i) ?_ (n + 1)
    ⟨h', tk, m₀, news₀, 0, rfl, hst, F.keeps hk, N.grown hk, NoIt.old N (fun _ h => h), hJ0, Nat.zero_le _, rfl⟩
  rintro k s' ⟨H, tk', m', news', i, rfl, hst', F', N', hno', hJ', hi, rfl⟩
  have kept : ∀ h₁ : Heap, (∀ b o, b ∉ wr → H.get? b = some o → h₁.get? b = some o) → Fr h₀ env.locals h₁ m' ∧ News h₀ env.locals h₁ news' := fun h₁ hk₁ =>
    ⟨⟨F'.ns.at' fun o e => hk₁ _ o hLw' e, fun b o e => hk₁ b o (h0w b o e) (F'.keep b o e), F'.above⟩,
      fun p hp => ⟨hk₁ _ _ (hnw i H news' hst' (fun p hp => (N' p hp).1) hno' p hp) (N' p hp).1, (N' p hp).2⟩⟩
  by_cases hlt : i < n
  · refine wpAny_mono (Wi i _ (fun v s₂ => wpAny (model PG w) A (assign target env v) (fun _ s₂ => wpAny (model PG w) A (execs body env) (fun f s₃ => match f with
            | .next | .cont => ∃ m, m < n + 1 - i ∧ ∃ h' tk m' news' i, s₃ = { s with heap := h', toks := tk } ∧ St i h' ∧ Fr h₀ env.locals h' m' ∧ News h₀ env.locals h' news' ∧ NoIt s.heap news' ∧ J i m' news' ∧ i ≤ n ∧ m = n + 1 - i
            | .brk => Q .next s₃
            | .ret v => Q (.ret v) s₃) (notedBy (model PG w) A env fun e s' => cameBackBy (model PG w) A env E e s') s₂) (notedBy (model PG w) A env fun e s' => cameBackBy (model PG w) A env E e s') s₂) _ hlt hst' fun v h₁ tk₁ hPv hst₁ hk₁ => ?_) (fun r s₁ h₁ => by cases r with | none => exact h₁.elim | some v => exact h₁) fun _ _ e => e
    obtain ⟨F₁, N₁⟩ := kept h₁ hk₁
    -- the iterators, laid on the ledger
    have hits : ∃ its : List (Addr × Obj), (∀ b ∈ wr, ∃ o, (b, o) ∈ its) ∧ ∀ p ∈ its, p.1 ∈ wr ∧ h₁.get? p.1 = some p.2 ∧ isIt p.2 = true := by
      have hall := hl _ _ hst₁
      clear hfs hst hwr hLw' h0w hnw kept Wf Wi Wd hk₁ turn done hl
      induction wr with
      | nil => exact ⟨[], (fun _ h => by cases h), (fun _ h => by cases h)⟩
      | cons b r ih =>
        obtain ⟨its, h1, h2⟩ := ih (fun b hb => hall b (List.mem_cons_of_mem _ hb))
        obtain ⟨o, e, hi⟩ := hall b (by simp)
        refine ⟨(b, o) :: its, fun b' hb' => ?_, fun p hp => ?_⟩
        · rcases List.mem_cons.mp hb' with rfl | hb'
          · exact ⟨o, by simp⟩
          · obtain ⟨o', h'⟩ := h1 b' hb'; exact ⟨o', List.mem_cons_of_mem _ h'⟩
        · rcases List.mem_cons.mp hp with rfl | hp
          · exact ⟨by simp, e, hi⟩
          · obtain ⟨a, b', c⟩ := h2 p hp; exact ⟨List.mem_cons_of_mem _ a, b', c⟩
    obtain ⟨its, hin, hits⟩ := hits
    have Nits : News h₀ env.locals h₁ (news' ++ its) := fun p hp => by
      rcases List.mem_append.mp hp with hp | hp
      · exact N₁ p hp
      · obtain ⟨a, b, c⟩ := hits p hp
        refine ⟨b, fun e => hLw' (e ▸ a), ?_⟩
        cases e : h₀.get? p.1 with
        | none => rfl
        | some o => exact absurd a (h0w _ _ e)
    have Off : ∀ p ∈ its, ∀ q ∈ news', p.1 ≠ q.1 := fun p hp q hq e => by
      obtain ⟨a, b, c⟩ := hits p hp
      rw [e] at a
      exact hnw i H news' hst' (fun p hp => (N' p hp).1) hno' q hq a
    refine wpAny_mono (turn i v m' news' its h₁ tk₁ _ hlt hPv hJ' F₁ Nits Off) (fun _ s₂ h₂ => wpAny_mono h₂ (fun f s₃ h₃ => ?_) fun _ _ e => e) fun _ _ e => e
    have fin : ForEnd h₀ env.locals s its (J (i + 1)) s₃ → ∃ m, m < n + 1 - i ∧ ∃ h' tk m' news' i, s₃ = { s with heap := h', toks := tk } ∧ St i h' ∧ Fr h₀ env.locals h' m' ∧ News h₀ env.locals h' news' ∧ NoIt s.heap news' ∧ J i m' news' ∧ i ≤ n ∧ m = n + 1 - i := by
      rintro ⟨h₄, tk₄, m₄, news₄, rfl, F₄, N₄, hno₄, hJ₄⟩
      refine ⟨n + 1 - (i + 1), by omega, h₄, tk₄, m₄, news₄, i + 1, rfl, ?_, F₄, fun p hp => N₄ p (List.mem_append_left _ hp), hno₄, hJ₄, hlt, rfl⟩
      refine Wf _ _ _ hst₁ fun b hb o e => ?_
      rcases hfs b hb with hw | hs
      · obtain ⟨o', ho'⟩ := hin b hw
        have e1 := (hits _ ho').2.1
        rw [e] at e1; cases e1
        exact (N₄ _ (List.mem_append_right _ ho')).1
      · rcases hsrc b hs with ⟨o', e'⟩ | ⟨o', ho'⟩
        · have := F₁.keep _ _ e'; rw [e] at this; cases this
          exact F₄.keep _ _ e'
        · have := (N₁ _ (ho' _ _ _ hJ')).1; rw [e] at this; cases this
          exact (N₄ _ (List.mem_append_left _ (ho' _ _ _ hJ₄))).1
    cases f with
    | next => exact fin h₃
    | cont => exact fin h₃
    | brk => exact h₃
    | ret v => exact h₃
  · have hin : i = n := by omega
    subst hin
    refine Wd _ _ _ hst' fun h₁ tk₁ hk₁ => ?_
    obtain ⟨F₁, N₁⟩ := kept h₁ hk₁
    exact wpAny_mono (done m' news' h₁ tk₁ _ hJ' F₁ N₁) (fun f s₃ h₃ => h₃) fun _ _ e => e

theorem for_iter {target : Expr} {body orelse : List Stmt} {env : Env} {s : Shared} {xv : Value} {h₀ : Heap} {m₀ : Str → Option Value} {news₀ : List (Addr × Obj)} {Q : Flow → Shared → Prop}
    {n : Nat} {P : Nat → Value → Prop} {src : List Addr} (J : Nat → (Str → Option Value) → List (Addr × Obj) → Prop) (it : Iters w A s xv n P src)
    (F : Fr h₀ env.locals s.heap m₀) (N : News h₀ env.locals s.heap news₀) (hJ0 : J 0 m₀ news₀)
    (hsrc : ∀ b ∈ src, (∃ o, h₀.get? b = some o) ∨ ∃ o, ∀ i m news, J i m news → (b, o) ∈ news)
    (turn : ∀ i v m₁ news₁ its h tk E₂, i < n → P i v → J i m₁ news₁ → Fr h₀ env.locals h m₁ → News h₀ env.locals h (news₁ ++ its) → (∀ p ∈ its, ∀ q ∈ news₁, p.1 ≠ q.1) →
      wpAny (model PG w) A (assign target env v) (fun _ s₂ => wpAny (model PG w) A (execs body env) (ForPost h₀ env.locals s its (J (i + 1)) Q) E₂ s₂) E₂ { s with heap := h, toks := tk })
    (done : ∀ m₁ news₁ h tk E₂, J n m₁ news₁ → Fr h₀ env.locals h m₁ → News h₀ env.locals h news₁ →
      wpAny (model PG w) A (execs orelse env) Q E₂ { s with heap := h, toks := tk }) :
    wpAny (model PG w) A (pyIter xv) (fun it s₂ => codeAny (model PG w) A (.forLoop target it body orelse env) (fun r s' => match r with | .ok f => Q f s' | .error e => cameBackBy (model PG w) A env E e s') s₂) E s :=
  for_iterG (Wp := fun Q E => wpAny (model PG w) A (pyIter xv) Q E s) J (it.toG target) F N hJ0 hsrc turn done
end
end Mine
/- B6 -/
open AutoSeq1 (wpAny_loadPart')
namespace Mine
section
variable {w : World} {A : Around} {E : Value → Shared → Prop} {s : Shared}
theorem nextOf_tuple_item {it l : Addr} {i : Nat} {items : Array Value} {x : Value} {Q : Value → Shared → Prop} (hit : s.heap.IsTupleIter it l i) (hl : s.heap.IsTuple l items) (hx : items[i]? = some x)
    (hQ : ∀ h', h'.IsTupleIter it l (i + 1) → Heap.SameBut it s.heap h' → Q x { s with heap := h' }) :
    wpAny (model PG w) A (Builtin.SmallTypes.nextOf (.ref it)) Q E s := by
  obtain ⟨o, ho, hc, hd⟩ := id hit
  obtain ⟨ol, hol, _, nl, hdl⟩ := hl
  unfold Builtin.SmallTypes.nextOf
  refine wpAny_bind (wpAny_callSpecial?_slot (name := Str.ofString "__next__") hit.typeIs F.slot_tuple_iterator_next
    (wpAny_call_entry F.slot_tuple_iterator_next hit.typeIs F.entry_tuple_iterator_next ?_ (F.args_tuple_iterator_next_1 _)))
  show wpAny _ _ (field (.ref it) 0 >>= _) _ _ s
  refine wpAny_bind (wpAny_field ho hd (x := .ref l) rfl ?_)
  show wpAny _ _ (if (Value.ref l == Value.none) = true then _ else _) _ _ s
  rw [if_neg (show ¬ ((Value.ref l == Value.none) = true) from Bool.false_ne_true)]
  show wpAny _ _ (field (.ref it) 1 >>= _) _ _ s
  refine wpAny_bind (wpAny_field ho hd (x := .int i 0) rfl ?_)
  show wpAny _ _ (seqItems? (.ref l) >>= _) _ _ s
  refine wpAny_bind (wpAny_seqItems hol hdl ?_)
  simp only [Int.toNat_natCast, hx]
  refine wpAny_bind (wpAny_setField ho hd (by simp) (wpAny_pure ⟨x, rfl, wpAny_pure (hQ _ ?_ (Heap.SameBut.update ..))⟩))
  exact ⟨_, Heap.get?_update_self _ ho (Obj.isFreed_of_fields (Obj.data_mapFields hd _)), (Obj.cls_mapFields ..).trans hc, by
    rw [Obj.data_mapFields hd]; simp [rawInt]⟩
theorem nextOf_tuple_end {it l : Addr} {i : Nat} {items : Array Value} {Q : Value → Shared → Prop} (hh : A.handled = none)
    (hit : s.heap.IsTupleIter it l i) (hl : s.heap.IsTuple l items) (hx : items[i]? = none)
    (hE : ∀ h' e, Heap.ExtBut it s.heap h' → (∃ o, h'.get? e = some o ∧ o.cls = .type "StopIteration") → E (.ref e) { s with heap := h' }) :
    wpAny (model PG w) A (Builtin.SmallTypes.nextOf (.ref it)) Q E s := by
  obtain ⟨o, ho, hc, hd⟩ := id hit
  obtain ⟨ol, hol, _, nl, hdl⟩ := hl
  unfold Builtin.SmallTypes.nextOf
  refine wpAny_bind (wpAny_callSpecial?_slot (name := Str.ofString "__next__") hit.typeIs F.slot_tuple_iterator_next
    (wpAny_call_entry F.slot_tuple_iterator_next hit.typeIs F.entry_tuple_iterator_next ?_ (F.args_tuple_iterator_next_1 _)))
  show wpAny _ _ (field (.ref it) 0 >>= _) _ _ s
  refine wpAny_bind (wpAny_field ho hd (x := .ref l) rfl ?_)
  show wpAny _ _ (if (Value.ref l == Value.none) = true then _ else _) _ _ s
  rw [if_neg (show ¬ ((Value.ref l == Value.none) = true) from Bool.false_ne_true)]
  show wpAny _ _ (field (.ref it) 1 >>= _) _ _ s
  refine wpAny_bind (wpAny_field ho hd (x := .int i 0) rfl ?_)
  show wpAny _ _ (seqItems? (.ref l) >>= _) _ _ s
  refine wpAny_bind (wpAny_seqItems hol hdl ?_)
  simp only [Int.toNat_natCast, hx]
  refine wpAny_bind (wpAny_rule (wpAny_bind (wpAny_setField ho hd (by simp) ?_)))
  show wpAny _ _ (newExc (.type "StopIteration") [] >>= _) _ _ _
  refine wpAny_bind ?_
  simp only [newExc, newTuple]
  refine wpAny_bind (wpAny_newObj_type ?_ (by size_fits))
  refine wpAny_bind (m := firstArgMember _ _) (wpAny_of_eq (a := Value.none) (by first | rfl | (simp only [firstArgMember]; rfl)) ?_)
  refine wpAny_newObj_type ?_ (by size_fits)
  simp only [raiseNew]
  refine wpAny_bind (wpAny_handled ?_)
  first | rw [show A.in1.handled = none from hh] | rw [hh]
  refine wpAny_bind (wpAny_pure (wpAny_throw ?_))
  exact hE _ _ (((Heap.SameBut.update ..).extBut.push _).push _) ⟨_, Heap.get?_push_size _ rfl, rfl⟩

theorem draws_tuple (hh : A.handled = none) (it l : Addr) (hne : l ≠ it) (items : Array Value) :
    Draws PG w A it [it, l] items.size (fun i v => items[i]? = some v) (fun i h => h.IsTupleIter it l i ∧ h.IsTuple l items) where
  live := fun _ _ st => let ⟨o, ho, _⟩ := st.1; ⟨o, ho⟩
  frame := fun _ _ _ st hk => ⟨st.1.at fun o e => hk it (by simp) o e, st.2.at fun o e => hk l (by simp) o e⟩
  item := fun i s Q E hi st hQ => by
    refine nextOf_tuple_item st.1 st.2 (x := items[i]) (by simp [hi]) fun h' hit' hs' => ?_
    exact hQ _ h' s.toks (by simp [hi]) ⟨hit', st.2.extBut hs'.extBut hne⟩ hs'
  done := fun s Q E st hE => nextOf_tuple_end hh st.1 st.2 (by simp) hE

theorem meets_enum_tuple (l : Addr) (items : Array Value) (o : Obj) (ho : o.cls = .type "tuple") (n : Nat) (hd : o.data = .seq items n) :
    Meets (Builtin.«enumerate.__new__» ⟨[.type "enumerate", .ref l], []⟩) (fun _ R s => s.heap.get? l = some o ∧
      R (.ok (.ret (.ref (s.heap.push { cls := .type "tuple_iterator", data := .fields #[.ref l, .int 0 0] }).objs.size)))
        { s with heap := (s.heap.push { cls := .type "tuple_iterator", data := .fields #[.ref l, .int 0 0] }).push { cls := .type "enumerate", data := .fields #[.none, .bool false, .ref s.heap.objs.size, rawInt 0, .none, .none] } }) :=
  .of_wp fun prog w A R s h => by
    obtain ⟨hp, g, d, tk, os⟩ := s; obtain ⟨hl, h⟩ := h
    have hsub := sub_enumerate
    have hL : Heap.IsTuple (Shared.heap ⟨hp, g, d, tk, os⟩) l items := ⟨_, hl, ho, n, hd⟩
    (wp_delta)
    (with_reducible refine PySem.wpAny_bind ?_)
    (wp_delta)
    (with_reducible refine PySem.wpAny_bind ?_)
    (wp_delta)
    (with_reducible refine PySem.wpAny_pure ?_)
    ((with_reducible apply PySem.wpAny_ite_false); focus (rfl; done))
    (with_reducible refine PySem.wpAny_bind ?_)
    (with_reducible refine PySem.wpAny_of_eq (by assumption) ?_)
    ((with_reducible apply PySem.wpAny_ite_false); focus (rfl; done))
    (with_reducible refine PySem.wpAny_pure ?_)
    ((with_reducible apply PySem.wpAny_ite_true); focus (rfl; done))
    (with_reducible refine PySem.wpAny_bind ?_)
    (wp_delta)
    (with_reducible refine PySem.wpAny_bind ?_)
    refine wpAny_stack_any fun st => wpAny_pure ?_
    split
    · rename_i c _ _ _ _ _
      cases (c == Value.type "enumerate")
      · ((with_reducible apply PySem.wpAny_ite_false); focus (rfl; done))
        (with_reducible refine PySem.wpAny_bind ?_)
        (wp_delta)
        ((with_reducible apply PySem.wpAny_ite_false); focus (rfl; done))
        (wp_delta)
        ((with_reducible apply PySem.wpAny_ite_false); focus (rfl; done))
        (wp_delta)
        (with_reducible refine PySem.wpAny_pure ?_)
        (wp_delta)
        (with_reducible refine PySem.wpAny_bind ?_)
        (with_reducible apply wpAny_pyIter_tuple hL)
        (with_reducible refine PySem.wpAny_bind ?_)
        (wp_delta)
        (wp_delta)
        ((with_reducible apply PySem.wpAny_ite_false); focus (rfl; done))
        (wp_delta)
        (wp_delta)
        (with_reducible refine PySem.wpAny_bind ?_)
        (with_reducible refine PySem.wpAny_alloc' ?_)
        (with_reducible refine PySem.wpAny_pure ?_)
        (wp_delta)
        (with_reducible refine PySem.wpAny_pure ?_)
        exact ⟨_, rfl, h⟩
      · ((with_reducible apply PySem.wpAny_ite_true); focus (rfl; done))
        (with_reducible refine PySem.wpAny_bind ?_)
        (wp_delta)
        (with_reducible refine PySem.wpAny_pure ?_)
        (with_reducible refine PySem.wpAny_bind ?_)
        (with_reducible apply wpAny_pyIter_tuple hL)
        (with_reducible refine PySem.wpAny_bind ?_)
        (wp_delta)
        (wp_delta)
        ((with_reducible apply PySem.wpAny_ite_false); focus (rfl; done))
        (wp_delta)
        (wp_delta)
        (with_reducible refine PySem.wpAny_bind ?_)
        (with_reducible refine PySem.wpAny_alloc' ?_)
        (with_reducible refine PySem.wpAny_pure ?_)
        (wp_delta)
        (with_reducible refine PySem.wpAny_pure ?_)
        exact ⟨_, rfl, h⟩
    · ((with_reducible apply PySem.wpAny_ite_false); focus (rfl; done))
      (with_reducible refine PySem.wpAny_bind ?_)
      (wp_delta)
      ((with_reducible apply PySem.wpAny_ite_false); focus (rfl; done))
      (wp_delta)
      ((with_reducible apply PySem.wpAny_ite_false); focus (rfl; done))
      (wp_delta)
      (with_reducible refine PySem.wpAny_pure ?_)
      (wp_delta)
      (with_reducible refine PySem.wpAny_bind ?_)
      (with_reducible apply wpAny_pyIter_tuple hL)
      (with_reducible refine PySem.wpAny_bind ?_)
      (wp_delta)
      (wp_delta)
      ((with_reducible apply PySem.wpAny_ite_false); focus (rfl; done))
      (wp_delta)
      (wp_delta)
      (with_reducible refine PySem.wpAny_bind ?_)
      (with_reducible refine PySem.wpAny_alloc' ?_)
      (with_reducible refine PySem.wpAny_pure ?_)
      (wp_delta)
      (with_reducible refine PySem.wpAny_pure ?_)
      exact ⟨_, rfl, h⟩

theorem iterG_enum {target : Expr} {elts : List Expr} {k : Nat} {pos : Pos} (ht : target = .Tuple elts k pos) (hh : A.handled = none) {l : Addr} {items : Array Value} (hl : s.heap.IsTuple l items) :
    IterG w A s target (fun Q E => wpAny (model PG w) A (call (.type "enumerate") [.ref l]) (fun xv s₁ => wpAny (model PG w) A (pyIter xv) Q E s₁) E s) items.size
      (fun i v h => ∃ T t x, v = .ref T ∧ h.IsTuple T #[.int (i : Int) t, x] ∧ items[i]? = some x) [l] := by
  intro Q E h
  obtain ⟨o, ho, hc, n, hd⟩ := id hl
  refine callType_new F.called_enumerate (by decide) (F.typeCall_enumerate_1 _) (F.newCall_enumerate_1 _) (fun obj => F.args_object_init_2 obj _) F.entry_enumerate_new
    (meets_enum_tuple l items o hc n hd) ⟨ho, ?_⟩
  have hz : (s.heap.push { cls := .type "tuple_iterator", data := .fields #[.ref l, .int 0 0] }).objs.size = s.heap.objs.size + 1 := Heap.size_push ..
  show _ ∧ _
  rw [hz]
  have he : IsEnum ((s.heap.push { cls := .type "tuple_iterator", data := .fields #[.ref l, .int 0 0] }).push
      { cls := .type "enumerate", data := .fields #[.none, .bool false, .ref s.heap.objs.size, rawInt 0, .none, .none] }) (s.heap.objs.size + 1) s.heap.objs.size 0 .none := by
    have := Heap.get?_push_size (s.heap.push { cls := .type "tuple_iterator", data := .fields #[.ref l, .int 0 0] })
      (o := { cls := .type "enumerate", data := .fields #[.none, .bool false, .ref s.heap.objs.size, rawInt 0, .none, .none] }) rfl
    rw [hz] at this; exact this
  refine ⟨⟨_, he, rfl⟩, wpAny_pyIter_enum he ?_⟩
  have hlt : @LT.lt Nat _ l s.heap.objs.size := Heap.lt_size ho
  have hne : l ≠ s.heap.objs.size := Nat.ne_of_lt hlt
  have W := WalksT.enumerateD (draws_tuple (w := w) (A := A.in1) hh s.heap.objs.size l hne items) (s.heap.objs.size + 1) (Nat.succ_ne_self _) (by
    intro hm; rcases List.mem_cons.mp hm with e | hm
    · exact Nat.succ_ne_self _ e
    · rw [List.mem_singleton] at hm
      have hm' : s.heap.objs.size + 1 = (l : Nat) := hm
      omega) (List.mem_cons_self ..)
  have k2 : Kp s.heap ((s.heap.push { cls := .type "tuple_iterator", data := .fields #[.ref l, .int 0 0] }).push
      { cls := .type "enumerate", data := .fields #[.none, .bool false, .ref s.heap.objs.size, rawInt 0, .none, .none] }) := fun b o x => Heap.get?_push_of_some _ (Heap.get?_push_of_some _ x)
  refine h (s.heap.objs.size + 1) _ _ _ _ _ W.frame ?_ W.done ?_ ⟨⟨_, he⟩, ⟨_, Heap.get?_push_of_some _ (Heap.get?_push_size _ rfl), rfl, rfl⟩, hl.at fun o e => k2 _ o e⟩ ?_ k2 ?_
  · intro i s' Q' E' hi st hQ
    refine W.item i s' _ E' hi st fun T vals h₁ tk₁ hP _ hT hm hk₁ => ?_
    subst ht
    refine W.go elts k pos i T _ _ _ hm fun h₂ hst₂ hk₂ => ?_
    obtain ⟨t, x, hx, rfl⟩ := hP
    exact hQ (.ref T) h₂ tk₁ ⟨T, t, x, rfl, hT.at fun o e => hk₂ T o (W.apart _ _ _ hm) e, hx⟩ hst₂ fun b o hb e => hk₂ b o hb (hk₁ b o hb e)
  · intro i h st b hb
    rcases List.mem_cons.mp hb with rfl | hb
    · obtain ⟨⟨old, e⟩, _⟩ := st; exact ⟨_, e, rfl⟩
    · rw [List.mem_singleton] at hb; subst hb
      obtain ⟨_, ⟨o', e, hc', _⟩, _⟩ := st; exact ⟨o', e, by unfold isIt; rw [hc']; rfl⟩
  · intro b hb
    rcases List.mem_cons.mp hb with rfl | hb
    · exact .inl (List.mem_cons_self ..)
    · rcases List.mem_cons.mp hb with rfl | hb
      · exact .inl (List.mem_cons_of_mem _ (List.mem_singleton.mpr rfl))
      · exact .inr hb
  · intro b hb
    rcases List.mem_cons.mp hb with rfl | hb
    · exact none_of_size (Nat.le_succ _)
    · rw [List.mem_singleton] at hb; subst hb; exact none_of_size (Nat.le_refl _)

theorem for_enum {elts : List Expr} {k : Nat} {tpos : Pos} {body orelse : List Stmt} {env : Env} {h₀ : Heap} {m₀ : Str → Option Value} {news₀ : List (Addr × Obj)} {Q : Flow → Shared → Prop}
    (hh : A.handled = none) {l : Addr} {items : Array Value} (hl : h₀.IsTuple l items) (J : Nat → (Str → Option Value) → List (Addr × Obj) → Prop)
    (F : Fr h₀ env.locals s.heap m₀) (N : News h₀ env.locals s.heap news₀) (hJ0 : J 0 m₀ news₀)
    (turn : ∀ i T ti x m₁ news₁ its h tk E₂, items[i]? = some x → h.IsTuple T #[.int (i : Int) ti, x] → J i m₁ news₁ → Fr h₀ env.locals h m₁ → News h₀ env.locals h (news₁ ++ its) → (∀ p ∈ its, ∀ q ∈ news₁, p.1 ≠ q.1) →
      wpAny (model PG w) A (assign (.Tuple elts k tpos) env (.ref T)) (fun _ s₂ => wpAny (model PG w) A (execs body env) (ForPost h₀ env.locals s its (J (i + 1)) Q) E₂ s₂) E₂ { s with heap := h, toks := tk })
    (done : ∀ m₁ news₁ h tk E₂, J items.size m₁ news₁ → Fr h₀ env.locals h m₁ → News h₀ env.locals h news₁ →
      wpAny (model PG w) A (execs orelse env) Q E₂ { s with heap := h, toks := tk }) :
    wpAny (model PG w) A (call (.type "enumerate") [.ref l]) (fun xv s₁ => wpAny (model PG w) A (pyIter xv) (fun it s₂ => codeAny (model PG w) A (.forLoop (.Tuple elts k tpos) it body orelse env) (fun r s' => match r with | .ok f => Q f s' | .error e => cameBackBy (model PG w) A env E e s') s₂) E s₁) E s := by
  refine for_iterG (Wp := fun Q E => wpAny (model PG w) A (call (.type "enumerate") [.ref l]) (fun xv s₁ => wpAny (model PG w) A (pyIter xv) Q E s₁) E s) J (iterG_enum (w := w) (elts := elts) (k := k) (pos := tpos) rfl hh (hl.at fun o e => F.keep _ o e)) F N hJ0 ?_ ?_ done
  · intro b hb
    rw [List.mem_singleton] at hb; subst hb
    obtain ⟨o, e, _⟩ := hl; exact .inl ⟨o, e⟩
  · rintro i v m₁ news₁ its h tk E₂ hi ⟨T, t, x, rfl, hT, hx⟩ hJ F₁ N₁ Off
    exact turn i T t x m₁ news₁ its h tk E₂ hx hT hJ F₁ N₁ Off
end
end Mine
/- C1 -/
namespace Mine
section
variable {M : Model} {w : World} {A : Around} {E : Value → Shared → Prop} {s : Shared} {env : Env} {K : Frag} {h₀ : Heap} {L : Addr} {m mg mb : Str → Option Value} {p : Program} {loose : List Str} {x : Str} {pos : Pos} {v : Value} {Q : Value → Shared → Prop}
theorem nm_local (F : Fr h₀ env.locals s.heap m) (hv : m x = some v) (h : Q v s) (hk : env.scope.kind = .function) (hl : env.kindOf x = some .local) (hd : (x == ("__debug__" : Str)) = false) :
    wpAny M A (eval (.Name x pos) env) Q E s := wpAny_Name (wpAny_loadName_local hk hl F.ns hv h) hd
theorem nm_cell {c : Addr} (F : Fr h₀ L s.heap m) (hc : h₀.IsCell c (some v)) (h : Q v s) (hcl : env.cells.lookup x = some c) (hk : env.scope.kind = .function) (hl : env.kindOf x = some .cell) (hd : (x == ("__debug__" : Str)) = false) :
    wpAny M A (eval (.Name x pos) env) Q E s := wpAny_Name (wpAny_loadName_cell hk hl hcl (hc.keeps F.keep) h) hd
theorem nm_glob (F : Fr h₀ L s.heap m) (X : K.In h₀) (T : TopRead p loose mg mb h₀) (e : nsIn K mainGlobals x = some (some v)) (h : Q v s) (hg : env.globals = mainGlobals) (hk : env.scope.kind = .function) (hx : env.kindOf x = some .globalImplicit) (hd : (x == ("__debug__" : Str)) = false) :
    wpAny M A (eval (.Name x pos) env) Q E s := nameG_K F X T e h hg hk hx hd
theorem nm_built (F : Fr h₀ L s.heap m) (X : K.In h₀) (T : TopRead p loose mg mb h₀) (e : nsIn K mainGlobals x = some none) (hv : bootBuiltins x = some v) (hn : x ≠ "__name__") (h : Q v s) (hg : env.globals = mainGlobals) (hb : env.builtins = builtinsNs) (hk : env.scope.kind = .function) (hx : env.kindOf x = some .globalImplicit) (hd : (x == ("__debug__" : Str)) = false) :
    wpAny M A (eval (.Name x pos) env) Q E s :=
  Name_function_global hk hx (loadGlobal_builtin (env := env) (by rw [hg]; exact T.g.keeps F.keep) (mg_none_of X T.g e) (by rw [hb]; exact T.b.keeps F.keep) ((T.builtins x hn).trans hv) h) hd
theorem lt63 {i : Nat} (hi : i < 2 ^ 60) : (i : Int) < 2 ^ 63 := by
  have h1 : ((2:Int) ^ 63) = 9223372036854775808 := by decide
  have h2 : (i : Nat) < 1152921504606846976 := hi
  rw [h1]; omega
/-- an item of a list of the ground, at a place that a natural number tells -/
theorem itm {value slice : Expr} {l : Addr} {vs : List Value} {i : Nat} {u : Tok} (F : Fr h₀ L s.heap m) (hl : h₀.IsList l vs.toArray) (hx : vs[i]? = some v) (hi : i < 2 ^ 60) (h : Q v s)
    (hs : subscripted slice false (.ref l) (.int (i : Int) u) = operate [.ref l, .int (i : Int) u] (getItem (.ref l) (.int (i : Int) u))) :
    wpAny (model PG w) A (subscriptTail value slice (.ref l) (.int (i : Int) u)) Q E s :=
  have hL := hl.at fun o e => F.keep l o e
  tail_any hL.typeIs slot_list_getitem.lookup (wpAny_getItem_list hL (Int.natCast_nonneg i) (lt63 hi) (by simpa using hx) h) hs
end

theorem bitAnd_nat (x y : Nat) : Builtin.bitAnd (x : Int) (y : Int) = ((x &&& y : Nat) : Int) := by
  unfold Builtin.bitAnd
  rfl
end Mine
/- C2 -/
namespace Mine
section
variable {w : World} {A : Around} {E : Value → Shared → Prop} {s : Shared} {t u : Tok} {Q : Value → Shared → Prop}
theorem mod_nat {a : Nat} {z : Int} (hz : 0 < z) (h : ∀ t' tk, Q (.int ((a % z.toNat : Nat) : Int) t') { s with toks := tk }) : wpAny (model PG w) A (binaryOp .Mod (.int (a : Int) t) (.int z u)) Q E s := by
  refine mod_int' (by omega) ?_
  have e : Int.fmod (a : Int) z = ((a % z.toNat : Nat) : Int) := by
    rw [Int.fmod_eq_emod_of_nonneg _ (by omega)]
    obtain ⟨k, rfl⟩ := Int.eq_ofNat_of_zero_le (Int.le_of_lt hz)
    simp
  rw [e]; exact h _ _
theorem mod_gen {a z : Int} (hz : 0 < z) (h : ∀ t' tk, Q (.int (((a % z).toNat : Nat) : Int) t') { s with toks := tk }) : wpAny (model PG w) A (binaryOp .Mod (.int a t) (.int z u)) Q E s := by
  refine mod_int' (by omega) ?_
  have e : Int.fmod a z = (((a % z).toNat : Nat) : Int) := by
    rw [Int.fmod_eq_emod_of_nonneg _ (by omega)]
    have := Int.emod_nonneg a (show z ≠ 0 by omega)
    omega
  rw [e]; exact h _ _
theorem div_nat {a : Nat} {z : Int} (hz : 0 < z) (hz2 : z < 2 ^ 30) (h : ∀ t' tk, Q (.int ((a / z.toNat : Nat) : Int) t') { s with toks := tk }) : wpAny (model PG w) A (binaryOp .FloorDiv (.int (a : Int) t) (.int z u)) Q E s := by
  refine floordiv_int (by omega) ?_ (.inl (PyProof.noPylong_small (by omega)))
  have e : Int.fdiv (a : Int) z = ((a / z.toNat : Nat) : Int) := by
    rw [Int.fdiv_eq_ediv_of_nonneg _ (by omega)]
    obtain ⟨k, rfl⟩ := Int.eq_ofNat_of_zero_le (Int.le_of_lt hz)
    simp
  rw [e]; exact h _ _
theorem div_gen {a z : Int} (hz : 0 < z) (hz2 : z < 2 ^ 30) (h : ∀ t' tk, Q (.int (a / z) t') { s with toks := tk }) : wpAny (model PG w) A (binaryOp .FloorDiv (.int a t) (.int z u)) Q E s := by
  refine floordiv_int (by omega) ?_ (.inl (PyProof.noPylong_small (by omega)))
  rw [Int.fdiv_eq_ediv_of_nonneg _ (by omega)]; exact h _ _
theorem and_nat {a : Nat} {z : Int} (hz : 0 ≤ z) (h : ∀ t' tk, Q (.int ((a &&& z.toNat : Nat) : Int) t') { s with toks := tk }) : wpAny (model PG w) A (binaryOp .BitAnd (.int (a : Int) t) (.int z u)) Q E s := by
  refine and_int ?_
  obtain ⟨k, rfl⟩ := Int.eq_ofNat_of_zero_le hz
  rw [bitAnd_nat]; exact h _ _
theorem bitOr_nat (x y : Nat) : Builtin.bitOr (x : Int) (y : Int) = ((x ||| y : Nat) : Int) := by
  have h1 : decide (0 ≤ -(x : Int) - 1) = false := by simp; omega
  have h2 : decide (0 ≤ -(y : Int) - 1) = false := by simp; omega
  unfold Builtin.bitOr Builtin.bitAnd
  unfold Builtin.bitNot
  rw [h1, h2]
  have e1 : (-(-(x : Int) - 1) - 1).toNat = x := by omega
  have e2 : (-(-(y : Int) - 1) - 1).toNat = y := by omega
  simp only [e1, e2]
  omega
theorem or_and_xor (x : Nat) : ∀ y : Nat, (x ||| y) = (x ^^^ y) + (x &&& y) := by
  induction x using Nat.strongRecOn with
  | ind x ih =>
    intro y
    by_cases hx : x = 0
    · subst hx; simp
    · have h := ih (x / 2) (by omega) (y / 2)
      have o1 : (x ||| y) / 2 = (x / 2) ||| (y / 2) := Nat.or_div_two
      have x1 : (x ^^^ y) / 2 = (x / 2) ^^^ (y / 2) := Nat.xor_div_two
      have a1 : (x &&& y) / 2 = (x / 2) &&& (y / 2) := Nat.and_div_two
      have hb : (x ||| y) % 2 = (x ^^^ y) % 2 + (x &&& y) % 2 := by
        rw [← Nat.and_one_is_mod, ← Nat.and_one_is_mod, ← Nat.and_one_is_mod]
        rw [Nat.and_or_distrib_right, Nat.and_xor_distrib_right, Nat.and_assoc]
        have hx2 : x &&& 1 = 0 ∨ x &&& 1 = 1 := by rw [Nat.and_one_is_mod]; omega
        have hy2 : y &&& 1 = 0 ∨ y &&& 1 = 1 := by rw [Nat.and_one_is_mod]; omega
        have hxy : x &&& (y &&& 1) = (x &&& 1) &&& (y &&& 1) := by
          rw [Nat.and_assoc, Nat.and_comm 1, Nat.and_assoc, Nat.and_self]
        rw [hxy]
        rcases hx2 with e | e <;> rcases hy2 with e' | e' <;> rw [e, e'] <;> rfl
      omega
theorem bitXor_nat (x y : Nat) : Builtin.bitXor (x : Int) (y : Int) = ((x ^^^ y : Nat) : Int) := by
  unfold Builtin.bitXor
  rw [bitOr_nat, bitAnd_nat, or_and_xor]
  omega
theorem xor_nat {a b : Nat} (h : ∀ t' tk, Q (.int ((a ^^^ b : Nat) : Int) t') { s with toks := tk }) : wpAny (model PG w) A (binaryOp .BitXor (.int (a : Int) t) (.int (b : Int) u)) Q E s := by
  refine xor_int ?_
  rw [bitXor_nat]; exact h _ _
theorem or_nat {a b : Nat} (h : ∀ t' tk, Q (.int ((a ||| b : Nat) : Int) t') { s with toks := tk }) : wpAny (model PG w) A (binaryOp .BitOr (.int (a : Int) t) (.int (b : Int) u)) Q E s := by
  refine or_int ?_
  rw [bitOr_nat]; exact h _ _
/-- the sign of a text at a place -/
noncomputable def chrOf (x : Str) (i : Nat) : Str := ⟨#[x.cps.getD i 0]⟩
theorem chrAt {value slice : Expr} {x : Str} {i : Nat} (hi : i < x.cps.size) (hb : i < 2 ^ 60) (h : ∀ t' tk, Q (.str (chrOf x i) t') { s with toks := tk })
    (hs : subscripted slice false (.str x t) (.int (i : Int) u) = operate [.str x t, .int (i : Int) u] (getItem (.str x t) (.int (i : Int) u))) :
    wpAny (model PG w) A (subscriptTail value slice (.str x t) (.int (i : Int) u)) Q E s := by
  have h63 := lt63 hb
  refine tail_any (typeIs_str s x t) F.slot_str_getitem.lookup (P.getItem_str (c := x.cps.getD i 0) ?_ ?_ (h _ _)) hs
  · simp only [Bool.or_eq_false_iff, decide_eq_false_iff_not]
    have h1 : ((2:Int) ^ 63) = 9223372036854775808 := by decide
    rw [h1] at *
    omega
  · have e : seqIndex? (i : Int) x.length = some i := by
      unfold seqIndex?
      have h1 : ¬ ((i : Int) < 0) := by omega
      have h2 : (0 ≤ (i : Int) && decide ((i : Int) < (x.length : Int))) = true := by
        have : i < x.length := hi
        simp; omega
      simp only [if_neg h1]
      rw [if_pos h2]; simp
    rw [e]
    simp [Array.getElem?_eq_getElem hi]
end
end Mine
namespace Mine
theorem lt_sz {i m : Nat} (n : Nat) (e : m = n) (h : i < n) : i < m := e ▸ h
section
variable {w : World} {A : Around} {E : Value → Shared → Prop} {s : Shared} {h₀ : Heap} {L : Addr} {news : List (Addr × Obj)} {Q : Value → Shared → Prop}
/-- one of two written texts, at a place that is 0 or 1 -/
theorem pick2 {value slice : Expr} {l : Addr} {a b : Str} {ta tb u : Tok} {i n : Nat} (N : News h₀ L s.heap news) (hm : (l, ({ cls := .type "list", data := .seq [Value.str a ta, Value.str b tb].toArray n } : Obj)) ∈ news) (hi : i < 2)
    (h : ∀ t', Q (.str (if i = 0 then a else b) t') s)
    (hs : subscripted slice false (.ref l) (.int (i : Int) u) = operate [.ref l, .int (i : Int) u] (getItem (.ref l) (.int (i : Int) u))) :
    wpAny (model PG w) A (subscriptTail value slice (.ref l) (.int (i : Int) u)) Q E s := by
  have hL : s.heap.IsList l [Value.str a ta, Value.str b tb].toArray := ⟨_, N.get hm, rfl, n, rfl⟩
  have hi' : i = 0 ∨ i = 1 := by omega
  refine tail_any hL.typeIs slot_list_getitem.lookup (wpAny_getItem_list hL (x := if i = 0 then .str a ta else .str b tb) (Int.natCast_nonneg i) (lt63 (by omega)) ?_ ?_) hs
  · rcases hi' with rfl | rfl <;> simp
  · rcases hi' with rfl | rfl
    · exact h ta
    · exact h tb
end
end Mine
namespace Mine
theorem lk_ne {m : Str → Option Value} {x y : Str} {v r : Option Value} (hne : (x == y) = false) (h : m x = r) : (if x = y then v else m x) = r := by
  rw [if_neg (by simpa using hne)]; exact h
theorem News.sub {h₀ h : Heap} {L : Addr} {news news' : List (Addr × Obj)} (N : News h₀ L h news') (hs : ∀ p ∈ news, p ∈ news') : News h₀ L h news := fun p hp => N p (hs p hp)
/-- a list of strs -/
noncomputable def StrsL (vs : List Value) (xs : List Str) : Prop := vs.length = xs.length ∧ ∀ (i : Nat) (x : Str), xs[i]? = some x → ∃ t, vs[i]? = some (.str x t)
theorem StrsL.nil : StrsL [] [] := ⟨rfl, fun i x h => by simp at h⟩
theorem StrsL.cons {v : Value} {vs : List Value} {x : Str} {xs : List Str} (hv : ∃ t, v = .str x t) (h : StrsL vs xs) : StrsL (v :: vs) (x :: xs) :=
  ⟨by simp [h.1], fun i y hy => by
    cases i with
    | zero => obtain ⟨t, rfl⟩ := hv; simp at hy; subst hy; exact ⟨t, by simp⟩
    | succ i => simp at hy; obtain ⟨t, e⟩ := h.2 i y hy; exact ⟨t, by simpa using e⟩⟩
theorem StrsL.snoc {v : Value} {vs : List Value} {x : Str} {xs : List Str} (h : StrsL vs xs) (hv : ∃ t, v = .str x t) : StrsL (vs ++ [v]) (xs ++ [x]) :=
  ⟨by simp [h.1], fun i y hy => by
    rcases Nat.lt_trichotomy i xs.length with hi | hi | hi
    · rw [List.getElem?_append_left hi] at hy
      obtain ⟨t, e⟩ := h.2 i y hy
      exact ⟨t, by rw [List.getElem?_append_left (by rw [h.1]; exact hi)]; exact e⟩
    · subst hi
      obtain ⟨t, rfl⟩ := hv
      simp at hy; subst hy
      exact ⟨t, by rw [← h.1]; simp⟩
    · rw [List.getElem?_eq_none (by simp; omega)] at hy; cases hy⟩
/-- at D there lies a list of these strs -/
noncomputable def StrsAt (h : Heap) (D : Addr) (xs : List Str) : Prop := ∃ vs, h.PlainList D vs.toArray ∧ StrsL vs xs
theorem StrsAt.keeps {h h' : Heap} {D : Addr} {xs : List Str} (x : StrsAt h D xs) (k : Kp h h') : StrsAt h' D xs := let ⟨vs, a, b⟩ := x; ⟨vs, a.at fun o e => k _ o e, b⟩
noncomputable def triS (e : Str) (fig ab : Nat) : Str := chrOf (Str.ofString "-r") (fig / 4) ++ chrOf (Str.ofString "-w") (fig / 2 % 2) ++ chrOf (if ab = 0 then Str.ofString "-x" else e) (fig % 2)
noncomputable def partsS (x : Nat) : List Str := [chrOf (Str.ofString "?pc?d?b?-?l?s???") (x / 4096 % 16), triS (Str.ofString "Ss") (x / 64 % 8) (x / 2048 % 2), triS (Str.ofString "Ss") (x / 8 % 8) (x / 1024 % 2), triS (Str.ofString "Tt") (x / 1 % 8) (x / 512 % 2)]
end Mine
namespace Mine
theorem ForPost.nx {h₀ : Heap} {L : Addr} {s s' : Shared} {its : List (Addr × Obj)} {J : (Str → Option Value) → List (Addr × Obj) → Prop} {Q : Flow → Shared → Prop} (h : ForEnd h₀ L s its J s') : ForPost h₀ L s its J Q .next s' := h
theorem ForPost.bk {h₀ : Heap} {L : Addr} {s s' : Shared} {its : List (Addr × Obj)} {J : (Str → Option Value) → List (Addr × Obj) → Prop} {Q : Flow → Shared → Prop} (h : Q .next s') : ForPost h₀ L s its J Q .brk s' := h
theorem ForEnd.mk1 {h₀ : Heap} {L : Addr} {s : Shared} {its : List (Addr × Obj)} {J : (Str → Option Value) → List (Addr × Obj) → Prop} {h' : Heap} {tk : Nat} {m' : Str → Option Value} {news' : List (Addr × Obj)} (p : Addr) {o : Obj}
    (F : Fr h₀ L h' m') (N : News h₀ L h' news') (hp : (p, o) ∈ news') (hits : ∀ q ∈ its, q ∈ news') (hno : isIt o = false) (hJ : J m' [(p, o)]) : ForEnd h₀ L s its J { s with heap := h', toks := tk } :=
  ⟨h', tk, m', [(p, o)], rfl, F, News.sub N (fun q hq => (List.mem_append.mp hq).elim (fun hq => by rw [List.mem_singleton.mp hq]; exact hp) (hits q)), NoIt.cons hno NoIt.nil, hJ⟩
/-- a turn's end: one list changed, others of the ledger as they stood -/
theorem ForEnd.mk2 {h₀ : Heap} {L : Addr} {s : Shared} {its old : List (Addr × Obj)} {J : (Str → Option Value) → List (Addr × Obj) → Prop} {h' : Heap} {tk : Nat} {m' : Str → Option Value} {news' : List (Addr × Obj)} (p : Addr) {o : Obj}
    (F : Fr h₀ L h' m') (N : News h₀ L h' news') (hp : (p, o) ∈ news') (hits : ∀ q ∈ its, q ∈ news') (hold : ∀ q ∈ old, q ∈ news') (hal : ∀ q ∈ old, ∃ o, s.heap.get? q.1 = some o) (hno : isIt o = false) (hJ : J m' ((p, o) :: old)) : ForEnd h₀ L s its J { s with heap := h', toks := tk } :=
  ⟨h', tk, m', (p, o) :: old, rfl, F, News.sub N (fun q hq => (List.mem_append.mp hq).elim (fun hq => by
    rcases List.mem_cons.mp hq with rfl | hq
    · exact hp
    · exact hold q hq) (hits q)), NoIt.cons hno (fun q hq => .inl (hal q hq)), hJ⟩
end Mine
/- C3 -/
namespace Mine
noncomputable def catS : List Str → Str
  | [] => Str.empty
  | x :: r => x ++ catS r
theorem Str.ext_cps {a b : Str} (h : a.cps = b.cps) : a = b := by cases a; cases b; simp_all
theorem glued_foldl (r : List Str) : ∀ acc : Array Nat, r.foldl (fun acc p => acc ++ (Str.ofString "").cps ++ p.cps) acc = acc ++ (catS r).cps := by
  induction r with
  | nil => intro acc; show acc = acc ++ #[]; simp
  | cons x r ih =>
    intro acc
    have he : (Str.ofString "").cps = #[] := by decide +kernel
    rw [List.foldl_cons, ih, he]
    show acc ++ #[] ++ x.cps ++ (catS r).cps = acc ++ (x.cps ++ (catS r).cps)
    simp
theorem glued_empty (xs : List Str) : Builtin.Str.glued (Str.ofString "") xs = catS xs := by
  cases xs with
  | nil => rfl
  | cons x r =>
    refine Str.ext_cps ?_
    show (r.foldl (fun acc p => acc ++ (Str.ofString "").cps ++ p.cps) x.cps) = (x ++ catS r).cps
    rw [glued_foldl]; rfl
theorem sum_len (xs : List Str) : ∀ a : Nat, (∀ x ∈ xs, x.length ≤ 1000) → xs.foldl (fun acc p => acc + p.length + (Str.ofString "").length) a ≤ a + 1000 * xs.length := by
  induction xs with
  | nil => intro a _; simp
  | cons x r ih =>
    intro a h
    have h0 : (Str.ofString "").length = 0 := by decide +kernel
    have h1 := h x (by simp)
    have h2 := ih (a + x.length + (Str.ofString "").length) (fun y hy => h y (by simp [hy]))
    rw [List.foldl_cons]
    simp only [List.length_cons]
    omega
theorem StrsL.vals {vs : List Value} {xs : List Str} (h : StrsL vs xs) : ∃ l : List (Str × Tok), strValues l = vs ∧ l.map (·.1) = xs := by
  obtain ⟨hlen, hx⟩ := h
  induction vs generalizing xs with
  | nil => cases xs with
    | nil => exact ⟨[], rfl, rfl⟩
    | cons => simp at hlen
  | cons v vs ih => cases xs with
    | nil => simp at hlen
    | cons x xs =>
      obtain ⟨t, e⟩ := hx 0 x (by simp)
      simp at e
      obtain ⟨l, h1, h2⟩ := ih (by simpa using hlen) (fun i y hy => by obtain ⟨t, e⟩ := hx (i + 1) y (by simpa using hy); exact ⟨t, by simpa using e⟩)
      exact ⟨(x, t) :: l, by simp [strValues] at h1 ⊢; exact ⟨e.symm, h1⟩, by simp [h2]⟩
section
variable {w : World} {A : Around} {E : Value → Shared → Prop} {s : Shared} {t : Tok} {Q : Value → Shared → Prop}
theorem joinE {D : Addr} {vs : List Value} {xs : List Str} (hl : s.heap.IsList D vs.toArray) (hx : StrsL vs xs) (hle : ∀ x ∈ xs, x.length ≤ 1000) (hn : xs.length ≤ 1000)
    (hq : ∀ t' k, Q (.str (catS xs) t') { s with toks := k }) : wpAny (model PG w) A (call (.builtin "str.join") [.str (Str.ofString "") t, .ref D]) Q E s := by
  obtain ⟨l, rfl, rfl⟩ := hx.vals
  refine SC.join hl rfl ?_ fun t' k => ?_
  · unfold JoinOk
    rw [Bool.not_eq_true']
    unfold Builtin.Str.tooLong
    have := sum_len (l.map (·.1)) 0 hle
    have hs := sizeLine_eq
    simp only [decide_eq_false_iff_not, gt_iff_lt, Nat.not_lt]
    simp only [List.foldl_toArray] at *
    simp at this ⊢
    simp at hn
    omega
  · have : Txt.join (Str.ofString "") (l.map (·.1)) = catS (l.map (·.1)) := glued_empty _
    rw [this]; exact hq t' k
theorem and_nn {a b : Nat} {u : Tok} (h : ∀ t' tk, Q (.int ((a &&& b : Nat) : Int) t') { s with toks := tk }) : wpAny (model PG w) A (binaryOp .BitAnd (.int (a : Int) t) (.int (b : Int) u)) Q E s := by
  refine and_int ?_
  rw [bitAnd_nat]; exact h _ _
theorem beqc (a b : Nat) : (((a : Nat) : Int) == ((b : Nat) : Int)) = decide (a = b) := by
  by_cases e : a = b
  · subst e; simp
  · have : ¬ ((a : Int) = (b : Int)) := by omega
    simp [e, this]
theorem eq_nn {a b : Nat} {u : Tok} (h : Q (.bool (decide (a = b))) s) : wpAny (model PG w) A (compareOp .Eq (.int (a : Int) t) (.int (b : Int) u)) Q E s := eq_int (by rw [beqc]; exact h)
end
end Mine
namespace Mine
section
variable {w : World} {A : Around} {E : Value → Shared → Prop} {s : Shared}
theorem asg2 {x y : Str} {px py pos : Pos} {k : Nat} {env : Env} {T : Addr} {a b : Value} {Q : Unit → Shared → Prop} (hh : A.handled = none) (hT : s.heap.IsTuple T #[a, b])
    (h : ∀ h', Kp s.heap h' → wpAny (model PG w) A (assign (.Name x px) env a) (fun _ s₁ => wpAny (model PG w) A (assign (.Name y py) env b) Q E s₁) E { s with heap := h' }) :
    wpAny (model PG w) A (assign (.Tuple [.Name x px, .Name y py] k pos) env (Value.ref T)) Q E s := by
  refine wpAny_assign_Tuple hh hT rfl rfl fun h' hx => ?_
  show wpAny _ A (assignInOrder [assign (.Name x px) env, assign (.Name y py) env] [a, b]) Q E _
  unfold assignInOrder
  refine wpAny_bind (wpAny_holding (wpAny_mono (h h' fun c o e => hx c o (Nat.ne_of_lt (Heap.lt_size e)) e) (fun _ s₁ h₁ => ?_) fun _ _ e => e))
  unfold assignInOrder
  refine wpAny_bind (wpAny_holding (wpAny_mono h₁ (fun _ s₂ h₂ => ?_) fun _ _ e => e))
  exact wpAny_pure h₂
end
/-- a table of bits and signs, as tuples lie in a heap -/
noncomputable def TabAt (h : Heap) (a : Addr) (tb : List (Nat × Str)) : Prop :=
  ∃ vs : List Value, h.IsTuple a vs.toArray ∧ vs.length = tb.length ∧ ∀ (j b : Nat) (c : Str), tb[j]? = some (b, c) → ∃ T t t', vs[j]? = some (Value.ref T) ∧ h.IsTuple T #[.int ((b : Nat) : Int) t, .str c t']
noncomputable def tabs : List (List (Nat × Str)) :=
  [[(40960, Str.ofString "l"), (49152, Str.ofString "s"), (32768, Str.ofString "-"), (24576, Str.ofString "b"), (16384, Str.ofString "d"), (8192, Str.ofString "c"), (4096, Str.ofString "p")],
   [(256, Str.ofString "r")], [(128, Str.ofString "w")], [(2112, Str.ofString "s"), (2048, Str.ofString "S"), (64, Str.ofString "x")],
   [(32, Str.ofString "r")], [(16, Str.ofString "w")], [(1032, Str.ofString "s"), (1024, Str.ofString "S"), (8, Str.ofString "x")],
   [(4, Str.ofString "r")], [(2, Str.ofString "w")], [(513, Str.ofString "t"), (512, Str.ofString "T"), (1, Str.ofString "x")]]
noncomputable def hits (i x b : Nat) : Bool := if i = 0 then decide (x &&& 61440 = b) else decide (x &&& b = b)
/-- the sign that filemode picks from a table -/
noncomputable def pickT (i x : Nat) : List (Nat × Str) → Str
  | [] => if i = 0 then Str.ofString "?" else Str.ofString "-"
  | (b, c) :: r => if hits i x b then c else pickT i x r
noncomputable def fmL (x : Nat) : List Str := tabs.mapIdx fun i tb => pickT i x tb
end Mine
namespace Mine
theorem News.addO {h₀ h h' : Heap} {L : Addr} {m : Str → Option Value} {news : List (Addr × Obj)} {D : Addr} {o : Obj} (F : Fr h₀ L h m) (N : News h₀ L h news) (k : Kp h h') (hf : h.get? D = none) (hD : h'.get? D = some o) :
    News h₀ L h' ((D, o) :: news) := by
  obtain ⟨oL, _, _, hoL, _⟩ := F.ns
  intro p hp
  rcases List.mem_cons.mp hp with rfl | hp
  · refine ⟨hD, fun e => ?_, ?_⟩
    · have e' : D = L := e
      rw [e', hoL] at hf; cases hf
    · cases e : h₀.get? D with
      | none => rfl
      | some o' => have := F.keep _ _ e; rw [hf] at this; cases this
  · exact ⟨k _ _ (N p hp).1, (N p hp).2⟩
theorem none_back {h h' : Heap} {D : Addr} (k : Kp h h') (hf : h'.get? D = none) : h.get? D = none := by
  cases e : h.get? D with
  | none => rfl
  | some o => have := k _ _ e; rw [hf] at this; cases this
noncomputable def kindsS (k : Nat) : Str := catS ([4, 2, 6, 8, 1, 10, 12].map fun o => if k = o then Str.ofString "1" else Str.ofString "0")
noncomputable def itx (n : Nat) : Str := Str.ofString (toString (n : Int))
noncomputable def viewS (x : Nat) : List Str := [catS (partsS x)] ++ partsS x ++ [itx (4096 * (x / 4096 % 16)), itx (x % 4096), kindsS (x / 4096 % 16)]
noncomputable def seenS (x : Nat) : List Str := (viewS x).mapIdx fun i y => Str.ofString (toString (i : Int)) ++ Str.ofString "." ++ y
end Mine
namespace Mine
section
variable {w : World} {A : Around} {E : Value → Shared → Prop} {s : Shared} {Q : Value → Shared → Prop}
theorem cw1 {pos : Pos} {id : String} {first : List Value} {e : Expr} {env : Env}
    (h : wpAny (model PG w) A (eval e env) (fun v s₁ => wpAny (model PG w) A (call (.builtin id) (first ++ [v])) Q E s₁) E s) :
    wpAny (model PG w) A (callWith pos (.builtin id) first [(false, eval e env)] []) Q E s :=
  callWith_builtin rfl (evalArgs_plain (spliced_cons (wpAny_mono h (fun _ _ h₁ => spliced_nil h₁) fun _ _ e => e)))
end
end Mine
namespace Mine
/-- a list of ints that are natural numbers -/
noncomputable def IntsN (vs : List Value) (zs : List Nat) : Prop := vs.length = zs.length ∧ ∀ (i z : Nat), zs[i]? = some z → ∃ t, vs[i]? = some (.int (z : Int) t)
theorem IntsN.nil : IntsN [] [] := ⟨rfl, fun i x h => by simp at h⟩
theorem IntsN.cons {v : Value} {vs : List Value} {x : Nat} {xs : List Nat} (hv : ∃ t, v = .int (x : Int) t) (h : IntsN vs xs) : IntsN (v :: vs) (x :: xs) :=
  ⟨by simp [h.1], fun i y hy => by
    cases i with
    | zero => obtain ⟨t, rfl⟩ := hv; simp at hy; subst hy; exact ⟨t, by simp⟩
    | succ i => simp at hy; obtain ⟨t, e⟩ := h.2 i y hy; exact ⟨t, by simpa using e⟩⟩
theorem IntsN.snoc {v : Value} {vs : List Value} {x : Nat} {xs : List Nat} (h : IntsN vs xs) (hv : ∃ t, v = .int (x : Int) t) : IntsN (vs ++ [v]) (xs ++ [x]) :=
  ⟨by simp [h.1], fun i y hy => by
    rcases Nat.lt_trichotomy i xs.length with hi | hi | hi
    · rw [List.getElem?_append_left hi] at hy
      obtain ⟨t, e⟩ := h.2 i y hy
      exact ⟨t, by rw [List.getElem?_append_left (by rw [h.1]; exact hi)]; exact e⟩
    · subst hi
      obtain ⟨t, rfl⟩ := hv
      simp at hy; subst hy
      exact ⟨t, by rw [← h.1]; simp⟩
    · rw [List.getElem?_eq_none (by simp; omega)] at hy; cases hy⟩
theorem StrsL.append {vs us : List Value} {xs ys : List Str} (h : StrsL vs xs) (k : StrsL us ys) : StrsL (vs ++ us) (xs ++ ys) :=
  ⟨by simp [h.1, k.1], fun i y hy => by
    rcases Nat.lt_or_ge i xs.length with hi | hi
    · rw [List.getElem?_append_left hi] at hy
      obtain ⟨t, e⟩ := h.2 i y hy
      exact ⟨t, by rw [List.getElem?_append_left (by rw [h.1]; exact hi)]; exact e⟩
    · rw [List.getElem?_append_right hi] at hy
      obtain ⟨t, e⟩ := k.2 _ y hy
      exact ⟨t, by rw [List.getElem?_append_right (by rw [h.1]; exact hi), h.1]; exact e⟩⟩
theorem Iters.imp {w : World} {A : Around} {s : Shared} {v : Value} {n n' : Nat} {P P' : Nat → Value → Prop} {src : List Addr} (it : Iters w A s v n P src) (hn : n = n') (h : ∀ i v, i < n → P i v → P' i v) : Iters w A s v n' P' src := by
  subst hn
  intro Q E hQ
  refine it Q E fun I fp wr St h' tk W hl hgo hst hfp hfs hk hwr => ?_
  exact hQ I fp wr St h' tk { sub := W.sub, frame := W.frame, item := fun i s' Q' E' hi st hq => W.item i s' Q' E' hi st fun v h' tk hP => hq v h' tk (h i v hi hP), done := W.done, self := W.self } hl hgo hst hfp hfs hk hwr
theorem iters_ints {w : World} {A : Around} {s : Shared} (hh : A.handled = none) {a : Addr} {vs : List Value} {zs : List Nat} (hl : s.heap.IsList a vs.toArray) (hz : IntsN vs zs) :
    Iters w A s (.ref a) zs.length (fun i v => ∃ z t, zs[i]? = some z ∧ v = .int ((z : Nat) : Int) t) [a] :=
  (iters_list hh hl).imp (by simp [hz.1]) fun i v hi hv => by
    have hi' : i < zs.length := by rw [← hz.1]; simpa using hi
    obtain ⟨t, e⟩ := hz.2 i zs[i] (by simp [hi'])
    have hv' : vs[i]? = some v := by simpa using hv
    rw [e] at hv'; exact ⟨zs[i], t, by simp [hi'], (Option.some.inj hv').symm⟩
theorem iters_strs {w : World} {A : Around} {s : Shared} (hh : A.handled = none) {a : Addr} {vs : List Value} {xs : List Str} (hl : s.heap.IsList a vs.toArray) (hz : StrsL vs xs) :
    Iters w A s (.ref a) xs.length (fun i v => ∃ x t, xs[i]? = some x ∧ v = .str x t) [a] :=
  (iters_list hh hl).imp (by simp [hz.1]) fun i v hi hv => by
    have hi' : i < xs.length := by rw [← hz.1]; simpa using hi
    obtain ⟨t, e⟩ := hz.2 i xs[i] (by simp [hi'])
    have hv' : vs[i]? = some v := by simpa using hv
    rw [e] at hv'; exact ⟨xs[i], t, by simp [hi'], (Option.some.inj hv').symm⟩
end Mine
namespace Mine
section
variable {w : World} {A : Around} {E : Value → Shared → Prop} {s : Shared} {Q : Value → Shared → Prop} {h₀ : Heap} {L : Addr} {m : Str → Option Value} {news : List (Addr × Obj)}
theorem newListK {vs : List Value} (F : Fr h₀ L s.heap m) (N : News h₀ L s.heap news)
    (h : ∀ l h', Fr h₀ L h' m → News h₀ L h' ((l, W.listOf vs.toArray 0) :: news) → (∀ p ∈ news, p.1 < l) → Kp s.heap h' → Q (.ref l) { s with heap := h' }) (hsz : vs.length ≤ sizeLine := by size_fits) :
    wpAny (model PG w) A (newList vs) Q E s :=
  wpAny_newObj_type (h _ _ (F.push _) (N.push F _) (fun p hp => Heap.lt_size (N p hp).1) (fun _ _ e => Heap.get?_push_of_some _ e)) (by show vs.toArray.size ≤ sizeLine; rw [List.size_toArray]; exact hsz)
end
end Mine
namespace Mine
section
variable {w : World} {A : Around} {E : Value → Shared → Prop} {s : Shared} {Q : Value → Shared → Prop} {h₀ : Heap} {L : Addr} {m : Str → Option Value} {news : List (Addr × Obj)}
theorem addL {l b : Addr} {vs ws : List Value} (F : Fr h₀ L s.heap m) (N : News h₀ L s.heap news) (hl : s.heap.IsList l vs.toArray) (hb : s.heap.IsList b ws.toArray) (hsz : vs.length + ws.length ≤ sizeLine)
    (h : ∀ r h', Fr h₀ L h' m → News h₀ L h' ((r, W.listOf (vs ++ ws).toArray 0) :: news) → (∀ p ∈ news, p.1 < r) → Kp s.heap h' → Q (.ref r) { s with heap := h' }) :
    wpAny (model PG w) A (binaryOp .Add (.ref l) (.ref b)) Q E s := by
  obtain ⟨⟨cls, dd, data, sl⟩, ho, hc, n, hd⟩ := id hl
  obtain ⟨⟨cls2, dd2, data2, sl2⟩, ho2, hc2, n2, hd2⟩ := id hb
  simp only at hc hd hc2 hd2
  subst hc hd hc2 hd2
  have e : vs.toArray ++ ws.toArray = (vs ++ ws).toArray := by simp
  refine concat_meets ⟨_, ho, rfl⟩ ⟨_, ho2, rfl⟩ noFill_list_add seq_list_add PySem.F.slot_list_add PySem.F.entry_list_add (PySem.F.args_list_add_2 _ _) (list_addW l b vs.toArray ws.toArray n n2 dd dd2 sl sl2 (by simpa using hsz)) ⟨ho, ho2, ?_⟩
  rw [e]
  exact h _ _ (F.push _) (News.push F N _) (fun p hp => Heap.lt_size (N p hp).1) (fun _ _ e => Heap.get?_push_of_some _ e)
end
end Mine
/- C4 -/
namespace Mine
/-- a list whose items are told by c -/
noncomputable def ValsL {α : Type} (c : α → Value → Prop) (vs : List Value) (xs : List α) : Prop := vs.length = xs.length ∧ ∀ (i : Nat) (x : α), xs[i]? = some x → ∃ v, vs[i]? = some v ∧ c x v
theorem ValsL.nil {α : Type} {c : α → Value → Prop} : ValsL c [] [] := ⟨rfl, fun i x h => by simp at h⟩
theorem ValsL.cons {α : Type} {c : α → Value → Prop} {v : Value} {vs : List Value} {x : α} {xs : List α} (hv : c x v) (h : ValsL c vs xs) : ValsL c (v :: vs) (x :: xs) :=
  ⟨by simp [h.1], fun i y hy => by
    cases i with
    | zero => simp at hy; subst hy; exact ⟨v, by simp, hv⟩
    | succ i => simp at hy; obtain ⟨t, e⟩ := h.2 i y hy; exact ⟨t, by simpa using e⟩⟩
theorem ValsL.snoc {α : Type} {c : α → Value → Prop} {v : Value} {vs : List Value} {x : α} {xs : List α} (h : ValsL c vs xs) (hv : c x v) : ValsL c (vs ++ [v]) (xs ++ [x]) :=
  ⟨by simp [h.1], fun i y hy => by
    rcases Nat.lt_trichotomy i xs.length with hi | hi | hi
    · rw [List.getElem?_append_left hi] at hy
      obtain ⟨t, e⟩ := h.2 i y hy
      exact ⟨t, by rw [List.getElem?_append_left (by rw [h.1]; exact hi)]; exact e⟩
    · subst hi
      simp at hy; subst hy
      exact ⟨v, by rw [← h.1]; simp, hv⟩
    · rw [List.getElem?_eq_none (by simp; omega)] at hy; cases hy⟩
theorem iters_vals {w : World} {A : Around} {s : Shared} (hh : A.handled = none) {α : Type} {c : α → Value → Prop} {a : Addr} {vs : List Value} {xs : List α} (hl : s.heap.IsList a vs.toArray) (hz : ValsL c vs xs) :
    Iters w A s (.ref a) xs.length (fun i v => ∃ x, xs[i]? = some x ∧ c x v) [a] :=
  (iters_list hh hl).imp (by simp [hz.1]) fun i v hi hv => by
    have hi' : i < xs.length := by rw [← hz.1]; simpa using hi
    obtain ⟨t, e, hc⟩ := hz.2 i xs[i] (by simp [hi'])
    have hv' : vs[i]? = some v := by simpa using hv
    rw [e] at hv'; cases hv'; exact ⟨xs[i], by simp [hi'], hc⟩
noncomputable def bls (x : Nat) : List Bool := [decide (x &&& 61440 = 16384), decide (x &&& 61440 = 8192), decide (x &&& 61440 = 24576), decide (x &&& 61440 = 32768), decide (x &&& 61440 = 4096), decide (x &&& 61440 = 40960), decide (x &&& 61440 = 49152)]
end Mine
/- L1 -/
namespace Mine
theorem bit_and (x k : Nat) : x &&& 2 ^ k = if x / 2 ^ k % 2 = 1 then 2 ^ k else 0 := by
  by_cases h : x / 2 ^ k % 2 = 1
  · rw [if_pos h]
    apply Nat.eq_of_testBit_eq
    intro i
    rw [Nat.testBit_and, Nat.testBit_two_pow]
    by_cases e : k = i
    · subst e; simp [Nat.testBit_eq_decide_div_mod_eq, h]
    · simp [e]
  · rw [if_neg h]
    apply Nat.eq_of_testBit_eq
    intro i
    rw [Nat.testBit_and, Nat.testBit_two_pow]
    by_cases e : k = i
    · subst e; simp [Nat.testBit_eq_decide_div_mod_eq, h]
    · simp [e]
theorem bit01 (x k : Nat) : x / 2 ^ k % 2 = 0 ∨ x / 2 ^ k % 2 = 1 := by
  have := Nat.mod_lt (x / 2 ^ k) (show 2 > 0 by decide)
  omega
/-- one bit's sign -/
theorem pick_one {i x k : Nat} {c : Str} (hi : i ≠ 0) : pickT i x [(2 ^ k, c)] = if x / 2 ^ k % 2 = 1 then c else Str.ofString "-" := by
  have hp : 2 ^ k ≠ 0 := Nat.pos_iff_ne_zero.mp (Nat.two_pow_pos k)
  unfold pickT pickT hits
  simp only [if_neg hi, bit_and]
  rcases bit01 x k with h | h
  · rw [h]; simp only [Nat.zero_ne_one, if_false]
    rw [decide_eq_false (fun e => hp e.symm)]; rfl
  · rw [h]; simp
theorem two_and {x a b : Nat} (hab : 2 ^ a ||| 2 ^ b = 2 ^ a + 2 ^ b) : x &&& (2 ^ a + 2 ^ b) = (if x / 2 ^ a % 2 = 1 then 2 ^ a else 0) ||| (if x / 2 ^ b % 2 = 1 then 2 ^ b else 0) := by
  rw [← hab, Nat.and_or_distrib_left, bit_and, bit_and]
/-- two bits' sign -/
theorem pick_two {i x a b : Nat} {c1 c2 c3 : Str} (hi : i ≠ 0) (hab : 2 ^ a ||| 2 ^ b = 2 ^ a + 2 ^ b) (hne : 2 ^ a ≠ 0) (hne' : 2 ^ b ≠ 0) :
    pickT i x [(2 ^ a + 2 ^ b, c1), (2 ^ b, c2), (2 ^ a, c3)] = if x / 2 ^ b % 2 = 1 then (if x / 2 ^ a % 2 = 1 then c1 else c2) else (if x / 2 ^ a % 2 = 1 then c3 else Str.ofString "-") := by
  unfold pickT pickT pickT pickT hits
  simp only [if_neg hi, two_and hab, bit_and]
  have hs : (0 : Nat) ≠ 2 ^ a + 2 ^ b := fun e => hne (Nat.eq_zero_of_add_eq_zero e.symm).1
  rcases bit01 x a with h | h <;> rcases bit01 x b with h' | h' <;> rw [h, h'] <;> simp [hab, hne, hne', Ne.symm hne, Ne.symm hne', hs]
theorem and_4095 (x : Nat) : x &&& 4095 = x % 4096 := Nat.and_two_pow_sub_one_eq_mod x 12
theorem and_kind (x : Nat) : x &&& 61440 = 4096 * (x / 4096 % 16) := by
  have e1 : (61440 : Nat) = 15 <<< 12 := rfl
  have e2 : x / 4096 % 16 = (x >>> 12) &&& 15 := by
    rw [Nat.shiftRight_eq_div_pow, show (15 : Nat) = 2 ^ 4 - 1 from rfl, Nat.and_two_pow_sub_one_eq_mod]
  rw [e1, e2, Nat.mul_comm, ← show ((x >>> 12) &&& 15) <<< 12 = ((x >>> 12) &&& 15) * 4096 from Nat.shiftLeft_eq _ _]
  apply Nat.eq_of_testBit_eq
  intro i
  simp only [Nat.testBit_and, Nat.testBit_shiftLeft, Nat.testBit_shiftRight]
  by_cases h : 12 ≤ i
  · simp [h, show 12 + (i - 12) = i by omega]
  · simp [h]

theorem c_dash_r (b : Nat) (hb : b = 0 ∨ b = 1) : chrOf (Str.ofString "-r") b = if b = 1 then Str.ofString "r" else Str.ofString "-" := by
  rcases hb with rfl | rfl <;> decide +kernel
theorem c_dash_w (b : Nat) (hb : b = 0 ∨ b = 1) : chrOf (Str.ofString "-w") b = if b = 1 then Str.ofString "w" else Str.ofString "-" := by
  rcases hb with rfl | rfl <;> decide +kernel
theorem c_ends (e s u : Str) (hs : chrOf e 1 = s) (hu : chrOf e 0 = u) (a b : Nat) (ha : a = 0 ∨ a = 1) (hb : b = 0 ∨ b = 1) :
    chrOf (if a = 0 then Str.ofString "-x" else e) b = if a = 1 then (if b = 1 then s else u) else (if b = 1 then Str.ofString "x" else Str.ofString "-") := by
  have x0 : chrOf (Str.ofString "-x") 0 = Str.ofString "-" := by decide +kernel
  have x1 : chrOf (Str.ofString "-x") 1 = Str.ofString "x" := by decide +kernel
  rcases ha with rfl | rfl <;> rcases hb with rfl | rfl
  · simpa using x0
  · simpa using x1
  · simpa using hu
  · simpa using hs
theorem kind_sign (k : Nat) (hk : k < 16) : pickT 0 (4096 * k) (tabs.getD 0 []) = chrOf (Str.ofString "?pc?d?b?-?l?s???") k := by
  have : ∀ k < 16, pickT 0 (4096 * k) (tabs.getD 0 []) = chrOf (Str.ofString "?pc?d?b?-?l?s???") k := by decide +kernel
  exact this k hk
theorem kind_pick (x : Nat) (tb : List (Nat × Str)) : pickT 0 x tb = pickT 0 (4096 * (x / 4096 % 16)) tb := by
  have e : ∀ k, k < 16 → 4096 * k &&& 61440 = 4096 * k := by decide +kernel
  have e' := e (x / 4096 % 16) (Nat.mod_lt _ (by decide))
  induction tb with
  | nil => rfl
  | cons p r ih =>
    obtain ⟨b, c⟩ := p
    unfold pickT
    rw [ih]
    unfold hits
    simp only [if_true, and_kind x, e']
theorem cc {α : Type} {a b : α} {l r : List α} (h : a = b) (k : l = r) : a :: l = b :: r := by rw [h, k]
theorem fm_eq (x : Nat) : fmL x = [chrOf (Str.ofString "?pc?d?b?-?l?s???") (x / 4096 % 16),
    chrOf (Str.ofString "-r") (x / 64 % 8 / 4), chrOf (Str.ofString "-w") (x / 64 % 8 / 2 % 2), chrOf (if x / 2048 % 2 = 0 then Str.ofString "-x" else Str.ofString "Ss") (x / 64 % 8 % 2),
    chrOf (Str.ofString "-r") (x / 8 % 8 / 4), chrOf (Str.ofString "-w") (x / 8 % 8 / 2 % 2), chrOf (if x / 1024 % 2 = 0 then Str.ofString "-x" else Str.ofString "Ss") (x / 8 % 8 % 2),
    chrOf (Str.ofString "-r") (x / 1 % 8 / 4), chrOf (Str.ofString "-w") (x / 1 % 8 / 2 % 2), chrOf (if x / 512 % 2 = 0 then Str.ofString "-x" else Str.ofString "Tt") (x / 1 % 8 % 2)] := by
  have f0 : pickT 0 x (tabs.getD 0 []) = chrOf (Str.ofString "?pc?d?b?-?l?s???") (x / 4096 % 16) := by rw [kind_pick, kind_sign _ (Nat.mod_lt _ (by decide))]
  have sS : chrOf (Str.ofString "Ss") 1 = Str.ofString "s" := by decide +kernel
  have sU : chrOf (Str.ofString "Ss") 0 = Str.ofString "S" := by decide +kernel
  have tS : chrOf (Str.ofString "Tt") 1 = Str.ofString "t" := by decide +kernel
  have tU : chrOf (Str.ofString "Tt") 0 = Str.ofString "T" := by decide +kernel
  have f1 := pick_one (i := 1) (x := x) (k := 8) (c := Str.ofString "r") (by decide)
  have f2 := pick_one (i := 2) (x := x) (k := 7) (c := Str.ofString "w") (by decide)
  have f3 := pick_two (i := 3) (x := x) (a := 6) (b := 11) (c1 := Str.ofString "s") (c2 := Str.ofString "S") (c3 := Str.ofString "x") (by decide) (by decide) (by decide) (by decide)
  have f4 := pick_one (i := 4) (x := x) (k := 5) (c := Str.ofString "r") (by decide)
  have f5 := pick_one (i := 5) (x := x) (k := 4) (c := Str.ofString "w") (by decide)
  have f6 := pick_two (i := 6) (x := x) (a := 3) (b := 10) (c1 := Str.ofString "s") (c2 := Str.ofString "S") (c3 := Str.ofString "x") (by decide) (by decide) (by decide) (by decide)
  have f7 := pick_one (i := 7) (x := x) (k := 2) (c := Str.ofString "r") (by decide)
  have f8 := pick_one (i := 8) (x := x) (k := 1) (c := Str.ofString "w") (by decide)
  have f9 := pick_two (i := 9) (x := x) (a := 0) (b := 9) (c1 := Str.ofString "t") (c2 := Str.ofString "T") (c3 := Str.ofString "x") (by decide) (by decide) (by decide) (by decide)
  have g1 : x / 2 ^ 8 % 2 = x / 64 % 8 / 4 := by omega
  have g2 : x / 2 ^ 7 % 2 = x / 64 % 8 / 2 % 2 := by omega
  have g3 : x / 2 ^ 6 % 2 = x / 64 % 8 % 2 := by omega
  have g4 : x / 2 ^ 5 % 2 = x / 8 % 8 / 4 := by omega
  have g5 : x / 2 ^ 4 % 2 = x / 8 % 8 / 2 % 2 := by omega
  have g6 : x / 2 ^ 3 % 2 = x / 8 % 8 % 2 := by omega
  have g7 : x / 2 ^ 2 % 2 = x / 1 % 8 / 4 := by omega
  have g8 : x / 2 ^ 1 % 2 = x / 1 % 8 / 2 % 2 := by omega
  have g9 : x / 2 ^ 0 % 2 = x / 1 % 8 % 2 := by omega
  rw [c_dash_r _ (by omega), c_dash_w _ (by omega), c_ends _ _ _ sS sU _ _ (by omega) (by omega), c_dash_r _ (by omega), c_dash_w _ (by omega), c_ends _ _ _ sS sU _ _ (by omega) (by omega), c_dash_r _ (by omega), c_dash_w _ (by omega), c_ends _ _ _ tS tU _ _ (by omega) (by omega), ← f0,
    ← g1, ← g2, ← g3, ← g4, ← g5, ← g6, ← g7, ← g8, ← g9]
  exact cc rfl (cc f1 (cc f2 (cc f3 (cc f4 (cc f5 (cc f6 (cc f7 (cc f8 (cc f9 rfl)))))))))
theorem app_assoc (a b c : Str) : a ++ b ++ c = a ++ (b ++ c) := by
  refine Str.ext_cps ?_
  show a.cps ++ b.cps ++ c.cps = a.cps ++ (b.cps ++ c.cps)
  simp
theorem app_nil (a : Str) : a ++ Str.empty = a := by
  refine Str.ext_cps ?_
  show a.cps ++ #[] = a.cps
  simp
theorem fm_parts (x : Nat) : catS (fmL x) = catS (partsS x) := by
  rw [fm_eq]
  simp only [partsS, triS, catS, app_assoc, app_nil]
theorem bls_kinds (x : Nat) : (bls x).map (fun b => if b then Str.ofString "1" else Str.ofString "0") = [4, 2, 6, 8, 1, 10, 12].map fun o => if x / 4096 % 16 = o then Str.ofString "1" else Str.ofString "0" := by
  unfold bls
  rw [and_kind x]
  generalize x / 4096 % 16 = k
  have h : ∀ (c o : Nat), c = 4096 * o → (if decide (4096 * k = c) = true then Str.ofString "1" else Str.ofString "0") = if k = o then Str.ofString "1" else Str.ofString "0" := by
    intro c o hc
    by_cases e : k = o
    · rw [if_pos (by simp [hc, e]), if_pos e]
    · rw [if_neg (by simp [hc]; omega), if_neg e]
  simp only [List.map_cons, List.map_nil, h 16384 4 rfl, h 8192 2 rfl, h 24576 6 rfl, h 32768 8 rfl, h 4096 1 rfl, h 40960 10 rfl, h 49152 12 rfl]

end Mine
/- L2 -/
namespace Mine
theorem slice_arr (a : Array Nat) (ha : a.size = 10) (l u : Option Int) (ix : List Nat) (hix : Builtin.Str.strSliceIndices l u 1 10 = ix) (hl : ix.length ≠ 10) :
    Txt.slice ⟨a⟩ l u = ⟨(ix.filterMap (a[·]?)).toArray⟩ := by
  unfold Txt.slice
  have e : (Str.mk a).length = 10 := ha
  rw [e, hix, if_neg (by simp [hl])]
theorem cat10 (c0 c1 c2 c3 c4 c5 c6 c7 c8 c9 : Nat) : catS [⟨#[c0]⟩, ⟨#[c1]⟩, ⟨#[c2]⟩, ⟨#[c3]⟩, ⟨#[c4]⟩, ⟨#[c5]⟩, ⟨#[c6]⟩, ⟨#[c7]⟩, ⟨#[c8]⟩, ⟨#[c9]⟩] = ⟨#[c0, c1, c2, c3, c4, c5, c6, c7, c8, c9]⟩ := by
  refine Str.ext_cps ?_
  simp only [catS]
  show #[c0] ++ (#[c1] ++ (#[c2] ++ (#[c3] ++ (#[c4] ++ (#[c5] ++ (#[c6] ++ (#[c7] ++ (#[c8] ++ (#[c9] ++ #[]))))))))) = _
  simp
theorem slices (c0 c1 c2 c3 c4 c5 c6 c7 c8 c9 : Nat) :
    Txt.slice ⟨#[c0, c1, c2, c3, c4, c5, c6, c7, c8, c9]⟩ none (some 1) = (⟨#[c0]⟩ : Str) ∧ Txt.slice ⟨#[c0, c1, c2, c3, c4, c5, c6, c7, c8, c9]⟩ (some 1) (some 4) = (⟨#[c1]⟩ ++ ⟨#[c2]⟩ ++ ⟨#[c3]⟩ : Str) ∧
    Txt.slice ⟨#[c0, c1, c2, c3, c4, c5, c6, c7, c8, c9]⟩ (some 4) (some 7) = (⟨#[c4]⟩ ++ ⟨#[c5]⟩ ++ ⟨#[c6]⟩ : Str) ∧ Txt.slice ⟨#[c0, c1, c2, c3, c4, c5, c6, c7, c8, c9]⟩ (some 7) none = (⟨#[c7]⟩ ++ ⟨#[c8]⟩ ++ ⟨#[c9]⟩ : Str) := by
  refine ⟨?_, ?_, ?_, ?_⟩
  · rw [slice_arr _ rfl none (some 1) [0] (by decide +kernel) (by decide)]; simp
  · rw [slice_arr _ rfl (some 1) (some 4) [1, 2, 3] (by decide +kernel) (by decide)]; refine Str.ext_cps ?_; show _ = #[c1] ++ #[c2] ++ #[c3]; simp
  · rw [slice_arr _ rfl (some 4) (some 7) [4, 5, 6] (by decide +kernel) (by decide)]; refine Str.ext_cps ?_; show _ = #[c4] ++ #[c5] ++ #[c6]; simp
  · rw [slice_arr _ rfl (some 7) none [7, 8, 9] (by decide +kernel) (by decide)]; refine Str.ext_cps ?_; show _ = #[c7] ++ #[c8] ++ #[c9]; simp
theorem slicesA {a0 a1 a2 a3 a4 a5 a6 a7 a8 a9 : Str} (h0 : ∃ c, a0 = ⟨#[c]⟩) (h1 : ∃ c, a1 = ⟨#[c]⟩) (h2 : ∃ c, a2 = ⟨#[c]⟩) (h3 : ∃ c, a3 = ⟨#[c]⟩) (h4 : ∃ c, a4 = ⟨#[c]⟩) (h5 : ∃ c, a5 = ⟨#[c]⟩) (h6 : ∃ c, a6 = ⟨#[c]⟩) (h7 : ∃ c, a7 = ⟨#[c]⟩) (h8 : ∃ c, a8 = ⟨#[c]⟩) (h9 : ∃ c, a9 = ⟨#[c]⟩) :
    Txt.slice (catS [a0, a1, a2, a3, a4, a5, a6, a7, a8, a9]) none (some 1) = a0 ∧ Txt.slice (catS [a0, a1, a2, a3, a4, a5, a6, a7, a8, a9]) (some 1) (some 4) = a1 ++ a2 ++ a3 ∧
    Txt.slice (catS [a0, a1, a2, a3, a4, a5, a6, a7, a8, a9]) (some 4) (some 7) = a4 ++ a5 ++ a6 ∧ Txt.slice (catS [a0, a1, a2, a3, a4, a5, a6, a7, a8, a9]) (some 7) none = a7 ++ a8 ++ a9 := by
  obtain ⟨c0, rfl⟩ := h0
  obtain ⟨c1, rfl⟩ := h1
  obtain ⟨c2, rfl⟩ := h2
  obtain ⟨c3, rfl⟩ := h3
  obtain ⟨c4, rfl⟩ := h4
  obtain ⟨c5, rfl⟩ := h5
  obtain ⟨c6, rfl⟩ := h6
  obtain ⟨c7, rfl⟩ := h7
  obtain ⟨c8, rfl⟩ := h8
  obtain ⟨c9, rfl⟩ := h9
  rw [cat10]; exact slices ..
theorem chr_one (y : Str) (i : Nat) : ∃ c, chrOf y i = ⟨#[c]⟩ := ⟨_, rfl⟩
theorem view_asked (x : Nat) (f : Str) (hf : f = catS (fmL x)) :
    [f, Txt.slice f none (some 1), Txt.slice f (some 1) (some 4), Txt.slice f (some 4) (some 7), Txt.slice f (some 7) none, Str.ofString (toString ((x &&& 61440 : Nat) : Int)), Str.ofString (toString ((x &&& 4095 : Nat) : Int)),
      catS ((bls x).map fun b => if b then Str.ofString "1" else Str.ofString "0")] = viewS x := by
  have h1 : f = catS (partsS x) := hf.trans (fm_parts x)
  have hs := slicesA (chr_one (Str.ofString "?pc?d?b?-?l?s???") (x / 4096 % 16)) (chr_one (Str.ofString "-r") (x / 64 % 8 / 4)) (chr_one (Str.ofString "-w") (x / 64 % 8 / 2 % 2)) (chr_one (if x / 2048 % 2 = 0 then Str.ofString "-x" else Str.ofString "Ss") (x / 64 % 8 % 2))
    (chr_one (Str.ofString "-r") (x / 8 % 8 / 4)) (chr_one (Str.ofString "-w") (x / 8 % 8 / 2 % 2)) (chr_one (if x / 1024 % 2 = 0 then Str.ofString "-x" else Str.ofString "Ss") (x / 8 % 8 % 2))
    (chr_one (Str.ofString "-r") (x / 1 % 8 / 4)) (chr_one (Str.ofString "-w") (x / 1 % 8 / 2 % 2)) (chr_one (if x / 512 % 2 = 0 then Str.ofString "-x" else Str.ofString "Tt") (x / 1 % 8 % 2))
  rw [← fm_eq, ← hf] at hs
  obtain ⟨h2, h3, h4, h5⟩ := hs
  rw [h2, h3, h4, h5, bls_kinds, and_kind, and_4095, h1]
  simp only [viewS, partsS, triS, kindsS, itx, List.cons_append, List.nil_append]
end Mine
/- C5 -/
namespace Mine
section
variable {w : World} {A : Around} {E : Value → Shared → Prop} {s : Shared} {Q : Value → Shared → Prop} {h₀ : Heap} {L : Addr} {m : Str → Option Value} {news : List (Addr × Obj)}
theorem slice6 {value slice : Expr} {l : Addr} {vs : List Value} {t : Tok} (F : Fr h₀ L s.heap m) (N : News h₀ L s.heap news) (hl : s.heap.IsList l vs.toArray) (hsz : vs.length ≤ 1000)
    (h : ∀ D h', Fr h₀ L h' m → News h₀ L h' ((D, W.listOf (vs.take 6).toArray 0) :: news) → (∀ p ∈ news, p.1 < D) → Kp s.heap h' → Q (.ref D) { s with heap := h' })
    (hs : subscripted slice false (.ref l) (.ref s.heap.objs.size) = operate [.ref s.heap.objs.size, .ref l] (getItem (.ref l) (.ref s.heap.objs.size)))
    (ht : ∀ r, letTemporaryGo value (.ref l) r = pure ()) :
    wpAny (model PG w) A (subscriptTail value slice (.ref l) (.ref s.heap.objs.size)) Q E { s with heap := s.heap.push { cls := .type "slice", data := .fields #[.none, .int 6 t, .none] } } := by
  have e : slicePick vs.toArray none (some (6 : Int)) none = (vs.take 6).toArray := slicePick_upto' vs.toArray 6
  have hz : vs.toArray.size ≤ sizeLine := by rw [sizeLine_eq, List.size_toArray]; omega
  refine subscriptTail_ops (Heap.IsList.typeIs (s := { s with heap := s.heap.push { cls := .type "slice", data := .fields #[.none, .int 6 t, .none] } }) (hl.push _)) list_getitem_lookup
    (wpAny_getItem_list_slice (hl.push _) (Heap.IsSliceOf.new ..) .none (.int 6 t) .none (by simp) ?_ hz) hs ht
  rw [e]
  exact h _ _ ((F.push _).push _) (News.push (F.push _) (N.grown fun _ _ e => Heap.get?_push_of_some _ e) _) (fun p hp => by rw [Heap.size_push]; exact Nat.lt_succ_of_lt (Heap.lt_size (N p hp).1)) fun _ _ e => Heap.get?_push_of_some _ (Heap.get?_push_of_some _ e)
/-- an item of a list that lies in the heap -/
theorem itmH {value slice : Expr} {l : Addr} {vs : List Value} {i : Nat} {u : Tok} {v : Value} (hL : s.heap.IsList l vs.toArray) (hx : vs[i]? = some v) (hi : i < 2 ^ 60) (h : Q v s)
    (hs : subscripted slice false (.ref l) (.int (i : Int) u) = operate [.ref l, .int (i : Int) u] (getItem (.ref l) (.int (i : Int) u))) :
    wpAny (model PG w) A (subscriptTail value slice (.ref l) (.int (i : Int) u)) Q E s :=
  tail_any hL.typeIs slot_list_getitem.lookup (wpAny_getItem_list hL (Int.natCast_nonneg i) (lt63 hi) (by simpa using hx) h) hs
end
theorem ints_app : ∀ {vs us : List Value} {ns ms : List Int}, IntsAre vs ns → IntsAre us ms → IntsAre (vs ++ us) (ns ++ ms)
  | _, _, _, _, .nil, k => k
  | _, _, _, _, .cons n t h, k => .cons n t (ints_app h k)
theorem ints_at : ∀ {vs : List Value} {ns : List Int}, IntsAre vs ns → ∀ (i : Nat) (v : Value), vs[i]? = some v → ∃ (n : Int) (t : Tok), ns[i]? = some n ∧ v = Value.int n t
  | _, _, .nil, i, v, h => by simp at h
  | _, _, .cons n t r, 0, v, h => by simp at h; exact ⟨n, t, by simp, h.symm⟩
  | _, _, .cons n t r, i + 1, v, h => by
    obtain ⟨n', t', e, e'⟩ := ints_at r i v (by simpa using h)
    exact ⟨n', t', by simpa using e, e'⟩
noncomputable def vsS (ns : List Int) : List Int := (ns.take 6 ++ [35, 1, 9, 15, 95, 89]).take 6
noncomputable def masksS : List Nat := [65536, 4096, 8192, 16384, 32768, 2048, 1024, 512, 64, 8, 1, 448, 56, 7, 0, 61440]
noncomputable def stepS (row : List Nat) (v : Int) : List Nat := row ++ [row.getD (v % (row.length : Int)).toNat 0 ^^^ masksS.getD (v / 7 % 16).toNat 0 ^^^ (v / 112 % 131072).toNat]
noncomputable def rowS (ns : List Int) : List Nat := (vsS ns).foldl stepS [33188]
theorem vs_len (ns : List Int) : (vsS ns).length = 6 := by simp [vsS]
theorem fold_len (l : List Int) : ∀ r, (l.foldl stepS r).length = r.length + l.length := by
  induction l with
  | nil => intro r; rfl
  | cons v l ih => intro r; rw [List.foldl_cons, ih]; simp [stepS]; omega
theorem row_len (ns : List Int) : (rowS ns).length = 7 := by unfold rowS; rw [fold_len, vs_len]; rfl
theorem xor_lt17 {a b : Nat} (ha : a < 131072) (hb : b < 131072) : a ^^^ b < 131072 := Nat.xor_lt_two_pow (n := 17) ha hb
theorem getD_lt {l : List Nat} {i : Nat} (h : ∀ x ∈ l, x < 131072) : l.getD i 0 < 131072 := by
  rw [List.getD]
  cases e : l[i]? with
  | none => decide
  | some x => exact h x (List.mem_of_getElem? e)
theorem fold_lt (l : List Int) : ∀ r, (∀ x ∈ r, x < 131072) → ∀ x ∈ l.foldl stepS r, x < 131072 := by
  induction l with
  | nil => intro r h; exact h
  | cons v l ih =>
    intro r h
    rw [List.foldl_cons]
    refine ih _ fun x hx => ?_
    rcases List.mem_append.mp hx with hx | hx
    · exact h x hx
    · rw [List.mem_singleton] at hx; subst hx
      refine xor_lt17 (xor_lt17 (getD_lt h) (getD_lt (by decide))) ?_
      omega
theorem row_lt (ns : List Int) : ∀ x ∈ rowS ns, x < 131072 := fold_lt _ _ (by decide)
noncomputable def IntsNAt (h : Heap) (D : Addr) (zs : List Nat) : Prop := ∃ vs, h.PlainList D vs.toArray ∧ IntsN vs zs
theorem IntsNAt.keeps {h h' : Heap} {D : Addr} {zs : List Nat} (x : IntsNAt h D zs) (k : Kp h h') : IntsNAt h' D zs := let ⟨vs, a, b⟩ := x; ⟨vs, a.at fun o e => k _ o e, b⟩
theorem masksN {t1 t2 t3 t4 t5 t6 t7 t8 t9 t10 t11 t12 t13 t14 t15 t16 : Tok} : IntsN [.int 65536 t1, .int 4096 t2, .int 8192 t3, .int 16384 t4, .int 32768 t5, .int 2048 t6, .int 1024 t7, .int 512 t8, .int 64 t9, .int 8 t10, .int 1 t11, .int 448 t12, .int 56 t13, .int 7 t14, .int 0 t15, .int 61440 t16] masksS :=
  .cons ⟨_, rfl⟩ (.cons ⟨_, rfl⟩ (.cons ⟨_, rfl⟩ (.cons ⟨_, rfl⟩ (.cons ⟨_, rfl⟩ (.cons ⟨_, rfl⟩ (.cons ⟨_, rfl⟩ (.cons ⟨_, rfl⟩ (.cons ⟨_, rfl⟩ (.cons ⟨_, rfl⟩ (.cons ⟨_, rfl⟩ (.cons ⟨_, rfl⟩ (.cons ⟨_, rfl⟩ (.cons ⟨_, rfl⟩ (.cons ⟨_, rfl⟩ (.cons ⟨_, rfl⟩ .nil)))))))))))))))
theorem News.cons {h₀ h : Heap} {L : Addr} {p : Addr × Obj} {r : List (Addr × Obj)} (x : h.get? p.1 = some p.2 ∧ p.1 ≠ L ∧ h₀.get? p.1 = none) (N : News h₀ L h r) : News h₀ L h (p :: r) := fun q hq => by
  rcases List.mem_cons.mp hq with rfl | hq
  · exact x
  · exact N q hq
/-- a turn's end: the head of the ledger changed, the rest of it as it stood -/
theorem ForEnd.mk3 {h₀ : Heap} {L : Addr} {s : Shared} {its old news' : List (Addr × Obj)} {J : (Str → Option Value) → List (Addr × Obj) → Prop} {h' : Heap} {tk : Nat} {m' : Str → Option Value} (p : Addr) {o : Obj}
    (F : Fr h₀ L h' m') (N : News h₀ L h' news') (hp : (p, o) ∈ news') (hits : ∀ q ∈ its, q ∈ news') (hold : ∀ q ∈ old, q ∈ news') (hno : isIt o = false) (hal : NoIt s.heap old) (hJ : J m' ((p, o) :: old)) : ForEnd h₀ L s its J { s with heap := h', toks := tk } :=
  ⟨h', tk, m', (p, o) :: old, rfl, F, News.sub N (fun q hq => (List.mem_append.mp hq).elim (fun hq => by
    rcases List.mem_cons.mp hq with rfl | hq
    · exact hp
    · exact hold q hq) (hits q)), NoIt.cons hno hal, hJ⟩
theorem intsN_at {vs : List Value} {zs : List Nat} (hz : IntsN vs zs) {i : Nat} (hi : i < zs.length) : ∃ t, vs[i]? = some (.int ((zs.getD i 0 : Nat) : Int) t) := by
  obtain ⟨t, e⟩ := hz.2 i zs[i] (by simp [hi])
  exact ⟨t, by rw [e, List.getD, List.getElem?_eq_getElem hi]; rfl⟩
theorem lenL {w : World} {A : Around} {E : Value → Shared → Prop} {s : Shared} {Q : Value → Shared → Prop} {l : Addr} {vs : List Value} (n : Nat) (hl : s.heap.IsList l vs.toArray) (hn : vs.length = n) (hb : n < 1000)
    (h : ∀ t tk, Q (.int (n : Int) t) { s with toks := tk }) : wpAny (model PG w) A (call (.builtin "len") [.ref l]) Q E s := by
  subst hn
  refine PyProof.Rows.len_list hl ?_ (by rw [List.size_toArray]; exact h _ _)
  rw [List.size_toArray]; exact lt63 (by omega)
theorem fold_succ {l : List Int} {i : Nat} {x : Int} (hx : l[i]? = some x) (r : List Nat) : (l.take (i + 1)).foldl stepS r = stepS ((l.take i).foldl stepS r) x := by
  rw [List.take_succ, hx]; simp
/-- at D there lies a list of lists of these strs -/
noncomputable def LL (h : Heap) (D : Addr) (xss : List (List Str)) : Prop := ∃ vs : List Value, h.PlainList D vs.toArray ∧ vs.length = xss.length ∧ ∀ (i : Nat) (xs : List Str), xss[i]? = some xs → ∃ a, vs[i]? = some (Value.ref a) ∧ StrsAt h a xs
theorem LL.keeps {h h' : Heap} {D : Addr} {xss : List (List Str)} (x : LL h D xss) (k : Kp h h') : LL h' D xss := by
  obtain ⟨vs, a, b, c⟩ := x
  exact ⟨vs, a.at fun o e => k _ o e, b, fun i xs hi => let ⟨q, e, f⟩ := c i xs hi; ⟨q, e, f.keeps k⟩⟩
/-- one item of it -/
theorem LL.item {h : Heap} {D : Addr} {xss : List (List Str)} (x : LL h D xss) {i k : Nat} (hi : i < xss.length) (hk : k < (xss.getD i []).length) :
    ∃ vs us a t, h.IsList D (List.toArray vs) ∧ vs.length = xss.length ∧ vs[i]? = some (Value.ref a) ∧ h.IsList a (List.toArray us) ∧ us[k]? = some (Value.str ((xss.getD i []).getD k Str.empty) t) := by
  obtain ⟨vs, p, b, c⟩ := x
  obtain ⟨a, e, us, q, hu⟩ := c i xss[i] (by simp [hi])
  have ei : xss.getD i [] = xss[i] := by rw [List.getD, List.getElem?_eq_getElem hi]; rfl
  rw [ei] at hk ⊢
  obtain ⟨t, et⟩ := hu.2 k xss[i][k] (by simp [hk])
  exact ⟨vs, us, a, t, p.isList, b, e, q.isList, by rw [et, List.getD, List.getElem?_eq_getElem hk]; rfl⟩
theorem getD_mem {l : List Str} {k : Nat} (hk : k < l.length) : l.getD k Str.empty ∈ l := by rw [List.getD, List.getElem?_eq_getElem hk]; exact List.getElem_mem hk
noncomputable def toldS (f : Int) (nm : List (List Str)) : Str :=
  [Txt.slice ((nm.getD (f / 3024 % 7).toNat []).getD ((f / 126 % 24).toNat % 8) Str.empty) none (some (-1)), (nm.getD (f / 3024 % 7).toNat []).getD ((f / 126 % 24).toNat % 8) Str.empty,
   Txt.slice ((nm.getD (f / 3024 % 7).toNat []).getD ((f / 126 % 24).toNat % 8) Str.empty) none (some 1)].getD ((f / 126 % 24).toNat / 8) Str.empty
section
variable {w : World} {A : Around} {E : Value → Shared → Prop} {s : Shared} {h₀ : Heap} {L : Addr} {news : List (Addr × Obj)} {Q : Value → Shared → Prop}
end
end Mine
/- B7 -/
namespace Mine
/- each of these says its goal again: a tactic that lays one on asks the goal's shape -/
section
variable {M : Model} {A : Around} {E : Value → Shared → Prop} {s : Shared}
theorem gd1 {Q x1 x2 x3 x4 x5} (h : wpAny M A (eval (Expr.ListComp x1 x2 x3 x4) x5) Q E s) : wpAny M A (eval (Expr.ListComp x1 x2 x3 x4) x5) Q E s := h
theorem gd2 {Q x1 x2 x3 x4 x5 x6} (h : wpAny M A (exec (Stmt.For x1 x2 x3 x4 x5) x6) Q E s) : wpAny M A (exec (Stmt.For x1 x2 x3 x4 x5) x6) Q E s := h
theorem gd3 {Q x1 x2 x3 x4 x5} (h : wpAny M A (exec (Stmt.While x1 x2 x3 x4) x5) Q E s) : wpAny M A (exec (Stmt.While x1 x2 x3 x4) x5) Q E s := h
theorem gd4 {Q x1 x2 x3 x4 x5 x6 x7} (h : wpAny M A (exec (Stmt.Assign x1 (Expr.ListComp x2 x3 x4 x5) x6) x7) Q E s) : wpAny M A (exec (Stmt.Assign x1 (Expr.ListComp x2 x3 x4 x5) x6) x7) Q E s := h
theorem gd5 {Q x1} (h : wpAny M A (pyIter x1) Q E s) : wpAny M A (pyIter x1) Q E s := h
theorem gd6 {Q x1 x2 x3 x4 x5} (h : wpAny M A (subscriptTail x1 x2 (Value.ref x3) (Value.int (Nat.cast x4) x5)) Q E s) : wpAny M A (subscriptTail x1 x2 (Value.ref x3) (Value.int (Nat.cast x4) x5)) Q E s := h
theorem gd7 {Q x1 x2 x3 x4 x5 x6} (h : wpAny M A (eval (Expr.Name x1 x2) (cEnv x3 x4 x5 x6)) Q E s) : wpAny M A (eval (Expr.Name x1 x2) (cEnv x3 x4 x5 x6)) Q E s := h
theorem gd8 {Q x1 x2 x3 x4 x5 x6} (h : wpAny M A (subscriptTail x1 x2 (Value.str x3 x4) (Value.int (Nat.cast x5) x6)) Q E s) : wpAny M A (subscriptTail x1 x2 (Value.str x3 x4) (Value.int (Nat.cast x5) x6)) Q E s := h
theorem gd9 {Q x1 x2 x3} (h : wpAny M A (call (Value.ref x1) x2 x3) Q E s) : wpAny M A (call (Value.ref x1) x2 x3) Q E s := h
theorem gd10 {Q x1 x2 x3 x4} (h : wpAny M A (callWith x1 (Value.builtin "str.join") x2 x3 x4) Q E s) : wpAny M A (callWith x1 (Value.builtin "str.join") x2 x3 x4) Q E s := h
theorem gd11 {Q x1 x2 x3 x4 x5 x6 x7 x8 x9} (h : wpAny M A (callWith x1 (Value.builtin x2) (x3 :: x4) (backTo x5 (starEach (x6 :: x7) x8)) x9) Q E s) : wpAny M A (callWith x1 (Value.builtin x2) (x3 :: x4) (backTo x5 (starEach (x6 :: x7) x8)) x9) Q E s := h
theorem gd12 {Q x1 x2 x3 x4 x5 x6 x7} (h : wpAny M A (callWith x1 (Value.builtin x2) [] (backTo x3 (starEach (x4 :: x5) x6)) x7) Q E s) : wpAny M A (callWith x1 (Value.builtin x2) [] (backTo x3 (starEach (x4 :: x5) x6)) x7) Q E s := h
theorem gd13 {Q x1 x2 x3 x4 x5} (h : wpAny M A (exec (Stmt.If x1 x2 x3 x4) x5) Q E s) : wpAny M A (exec (Stmt.If x1 x2 x3 x4) x5) Q E s := h
theorem gd14 {Q x1 x2} (h : wpAny M A (call (Value.ref 228) x1 x2) Q E s) : wpAny M A (call (Value.ref 228) x1 x2) Q E s := h
theorem gd15 {Q x1 x2 x3 x4} (h : wpAny M A (subscriptTail x1 x2 (Value.ref x3) x4) Q E s) : wpAny M A (subscriptTail x1 x2 (Value.ref x3) x4) Q E s := h
theorem gd16 {Q x1 x2} (h : wpAny M A (compareOp CmpOp.NotIn x1 (Value.ref x2)) Q E s) : wpAny M A (compareOp CmpOp.NotIn x1 (Value.ref x2)) Q E s := h
theorem gd17 {Q x1 x2 x3 x4 x5} (h : wpAny M A (subscriptTail x1 x2 (Value.bytes x3 x4) x5) Q E s) : wpAny M A (subscriptTail x1 x2 (Value.bytes x3 x4) x5) Q E s := h
theorem gd18 {Q x1 x2} (h : wpAny M A (call (Value.type "bytes") x1 x2) Q E s) : wpAny M A (call (Value.type "bytes") x1 x2) Q E s := h
theorem gd19 {Q x1 x2 x3} (h : wpAny M A (call x1 [Value.bytes x2 x3]) Q E s) : wpAny M A (call x1 [Value.bytes x2 x3]) Q E s := h
theorem gd20 {Q x1 x2 x3} (h : wpAny M A (setItem (Value.ref x1) x2 x3) Q E s) : wpAny M A (setItem (Value.ref x1) x2 x3) Q E s := h
theorem gd21 {Q x1 x2} (h : wpAny M A (compareOp CmpOp.In x1 (Value.ref x2)) Q E s) : wpAny M A (compareOp CmpOp.In x1 (Value.ref x2)) Q E s := h
theorem gd22 {Q x1 x2 x3} (h : wpAny M A (getItem (Value.ref x1) (Value.str x2 x3)) Q E s) : wpAny M A (getItem (Value.ref x1) (Value.str x2 x3)) Q E s := h
theorem gd23 {Q x1} (h : wpAny M A (truthy (Value.ref x1)) Q E s) : wpAny M A (truthy (Value.ref x1)) Q E s := h
theorem gd24 {Q x1 x2 x3} (h : wpAny M A (storeName x1 x2 x3) Q E s) : wpAny M A (storeName x1 x2 x3) Q E s := h
theorem gd25 {Q x1} (h : wpAny M A (newList x1) Q E s) : wpAny M A (newList x1) Q E s := h
theorem gd26 {Q x1 x2 x3 x4 x5} (h : wpAny M A (assign (Expr.Tuple x1 x2 x3) x4 x5) Q E s) : wpAny M A (assign (Expr.Tuple x1 x2 x3) x4 x5) Q E s := h
theorem gd27 {Q x1 x2 x3} (h : wpAny M A (getMethod (Value.ref x1) x2 x3) Q E s) : wpAny M A (getMethod (Value.ref x1) x2 x3) Q E s := h
theorem gd28 {Q x1 x2 x3} (h : wpAny M A (getAttr (Value.ref x1) x2 x3) Q E s) : wpAny M A (getAttr (Value.ref x1) x2 x3) Q E s := h
theorem gd29 {Q x1 x2 x3} (h : wpAny M A (compareOp x1 (Value.ref x2) (Value.ref x3)) Q E s) : wpAny M A (compareOp x1 (Value.ref x2) (Value.ref x3)) Q E s := h
theorem gd30 {Q x1} (h : wpAny M A (newTuple x1) Q E s) : wpAny M A (newTuple x1) Q E s := h
theorem gd31 {Q x1 x2 x3} (h : wpAny M A (eval (Expr.Name x1 x2) x3) Q E s) : wpAny M A (eval (Expr.Name x1 x2) x3) Q E s := h
end
end Mine
/- C6 -/
namespace Mine
theorem iters_bytes {w : World} {A : Around} {s : Shared} (hh : A.handled = none) (b : Array UInt8) (t : Tok) :
    Iters w A s (.bytes b t) b.size (fun i v => ∃ c u, b[i]? = some c ∧ v = .int (c.toNat : Int) u) [] := by
  intro Q E h
  refine KBw.pyIter_bytes ?_
  refine h s.heap.objs.size _ _ _ _ _ (KBw.walks hh s.heap.objs.size b t) ?_ ?_ ⟨_, Heap.get?_push_size _ rfl, rfl, rfl⟩ ?_ ?_ (fun _ _ e => Heap.get?_push_of_some _ e) ?_
  · intro i h st b hb
    rw [List.mem_singleton] at hb; subst hb
    obtain ⟨o, e, hc, _⟩ := st; exact ⟨o, e, by unfold isIt; rw [hc]; rfl⟩
  · intro target x i s' Q' E' st hq
    obtain ⟨o, e, hc, _⟩ := st
    exact go_quiet e hc (by decide) hq
  · intro b hb
    rw [List.mem_singleton] at hb; subst hb
    rw [Heap.size_push]; exact Nat.lt_succ_self _
  · intro b hb; exact .inl hb
  · intro b hb
    rw [List.mem_singleton] at hb; subst hb
    exact none_of_size (Nat.le_refl _)
section
variable {w : World} {A : Around} {E : Value → Shared → Prop} {s : Shared} {t u : Tok} {Q : Value → Shared → Prop}
theorem shl_nat {a : Nat} {z : Int} (hz : 0 ≤ z) (hz2 : z ≤ 100) (ha : a < 2 ^ 60) (h : ∀ t' tk, Q (.int ((a * 2 ^ z.toNat : Nat) : Int) t') { s with toks := tk }) : wpAny (model PG w) A (binaryOp .LShift (.int (a : Int) t) (.int z u)) Q E s := by
  refine lshift_int_small hz (by omega) (by simp; exact Nat.lt_trans ha (by decide)) ?_
  have e : (a : Int) * 2 ^ z.toNat = ((a * 2 ^ z.toNat : Nat) : Int) := by simp
  rw [e]; exact h _ _
theorem shr_nat {a : Nat} {z : Int} (hz : 0 ≤ z) (h : ∀ t' tk, Q (.int ((a / 2 ^ z.toNat : Nat) : Int) t') { s with toks := tk }) : wpAny (model PG w) A (binaryOp .RShift (.int (a : Int) t) (.int z u)) Q E s := by
  refine rshift_int hz ?_
  have e : Int.fdiv (a : Int) (2 ^ z.toNat) = ((a / 2 ^ z.toNat : Nat) : Int) := by
    rw [Int.fdiv_eq_ediv_of_nonneg _ (Int.le_of_lt (Int.pow_pos (by decide)))]
    simp
  rw [e]; exact h _ _
end
open Builtin in
theorem entry_trans : entryFor table "bytes.translate" = some Builtin.«bytes.translate» := entryFor_of_tree (by kernel_rfl)
theorem slot_trans : Slot "bytes" (Str.ofString "translate") "bytes.translate" :=
  .of (owner := "bytes") (n := "translate") (by rw [typeLookup_type, builtinLookup_eq_fast]; kernel_rfl) (by decide +kernel) (by decide +kernel) (by decide +kernel)
    (by first | exact .inl (by decide +kernel) | exact .inr (by decide +kernel)) (by rw [isSubtype_type]; kernel_rfl)
theorem type_trans : typeOf (.builtin "bytes.translate") = pure (.type "method_descriptor") := by show builtinType _ = _; rw [builtinType_eq_fast]; kernel_rfl
theorem args_trans (a b : Value) : argsOk "bytes.translate" ⟨[a, b], []⟩ := by unfold argsOk; kernel_rfl
theorem entry_mt : entryFor table "bytes.maketrans" = some Builtin.«bytes.maketrans» := entryFor_of_tree (by kernel_rfl)
theorem plain_mt : plainId "bytes.maketrans" = true := by decide +kernel
theorem check_mt (a b : Value) : checkBuiltinCall "bytes.maketrans" ⟨[a, b], []⟩ = pure () := by kernel_rfl
theorem args_dec (a b : Value) : argsOk "bytes.decode" ⟨[a, b], []⟩ := by unfold argsOk; kernel_rfl
section
variable {w : World} {A : Around} {E : Value → Shared → Prop} {s : Shared} {t u : Tok} {Q : Value → Shared → Prop}
noncomputable def mtab (f g : Array UInt8) : Array UInt8 := (f.toList.zip g.toList).foldl (fun t (f, x) => t.setIfInBounds f.toNat x) ((Array.range 256).map (·.toUInt8))
theorem mk_bytes {b : Array UInt8} (hb : b.size ≤ sizeLine) (h : ∀ t' k, Q (.bytes b t') { s with toks := k }) : wpAny (model PG w) A (mkBytes b) Q E s := by
  unfold mkBytes
  rw [if_neg (Nat.not_lt.mpr hb)]
  exact wpAny_bind (wpAny_fresh (wpAny_pure (h _ _)))
theorem fold_size (l : List (UInt8 × UInt8)) : ∀ a : Array UInt8, (l.foldl (fun t (f, x) => t.setIfInBounds f.toNat x) a).size = a.size := by
  induction l with
  | nil => intro a; rfl
  | cons p l ih => intro a; rw [List.foldl_cons, ih]; simp
theorem mtab_size (f g : Array UInt8) : (mtab f g).size = 256 := by unfold mtab; rw [fold_size]; simp
theorem call_mt {f g : Array UInt8} (hfg : f.size = g.size) (h : ∀ t' k, Q (.bytes (mtab f g) t') { s with toks := k }) :
    wpAny (model PG w) A (call (.builtin "bytes.maketrans") [.bytes f t, .bytes g u]) Q E s := by
  refine wpAny_call (codeAny_call_builtin plain_mt entry_mt (wpAny_of_eq (check_mt _ _) ?_))
  show wpAny _ _ (Builtin.Bytes.bytesLike _ (.bytes f t) >>= fun r => _) _ _ s
  refine wpAny_bind (wpAny_of_eq KBd.like_eq ?_)
  show wpAny _ _ (Builtin.Bytes.bytesLike _ (.bytes g u) >>= fun r => _) _ _ s
  refine wpAny_bind (wpAny_of_eq KBd.like_eq ?_)
  rw [show (f.size != g.size) = false by simp [hfg]]
  show wpAny _ _ (mkBytes (mtab f g) >>= fun v => ret v) _ _ s
  refine wpAny_bind (mk_bytes (by rw [mtab_size, sizeLine_eq]; decide) fun t' k => ?_)
  exact wpAny_pure (h _ _)
noncomputable def trS (b tb : Array UInt8) : Array UInt8 := b.map fun c => tb.getD c.toNat c
theorem call_tr {b tb : Array UInt8} (h256 : tb.size = 256) (hb : b.size ≤ 1000) (h : ∀ t' k, Q (.bytes (trS b tb) t') { s with toks := k }) :
    wpAny (model PG w) A (call (.builtin "bytes.translate") [.bytes b t, .bytes tb u]) Q E s := by
  refine call_meets slot_trans (typeIs_bytes _ _ _) entry_trans (args_trans _ _) (S := fun _ R s => ∀ t' k, R (.ok (.ret (.bytes (trS b tb) t'))) { s with toks := k }) (.of_wp fun prog w A R s h => ?_) h
  have ef : b.filter (fun c => !((#[] : Array UInt8).contains c)) = b := by
    rw [Array.filter_eq_self]; intro a _; simp
  show wpAny _ _ (Builtin.Bytes.bytesLike _ (.bytes tb u) >>= fun r => _) _ _ s
  refine wpAny_bind (wpAny_of_eq KBd.like_eq ?_)
  rw [show (tb.size != 256) = false by simp [h256]]
  show wpAny _ _ (if (((b.filter (fun c => !((#[] : Array UInt8).contains c))).map fun c => tb.getD c.toNat c) == b) = true then _ else _) _ _ s
  rw [ef]
  split
  · rename_i hb
    have e : trS b tb = b := by simpa [trS] using hb
    refine wpAny_bind (wpAny_rule ?_)
    show wpAny _ _ (ret (.bytes b t)) _ _ s
    refine wpAny_pure ⟨_, rfl, ?_⟩
    have := h t s.toks
    rw [e] at this; exact this
  · show wpAny _ _ (mkBytes (trS b tb) >>= fun v => ret v) _ _ s
    refine wpAny_bind (wpAny_mkBytes (wpAny_pure ⟨_, rfl, h _ _⟩) ?_)
    rw [sizeLine_eq]; simp [trS]; omega
end
namespace Dec
open Builtin
theorem road_eq {id : String} {b : Array UInt8} : _codecs.decodeRoad id b (PySem.Str.ofString "ascii") none [] = (_codecs.runDecoder id _codecs.asciiDecoder none true b 0 [] >>= fun r => mkStr ⟨r.1⟩) := by kernel_rfl
theorem meets_text {b : Array UInt8} {t t1 t2 : Tok} {d x : PySem.Str} {n : Nat} (hd : ∀ id, _codecs.runDecoder id _codecs.asciiDecoder none true b 0 [] = pure (x.cps, n)) :
    Meets («_codecs.decode.text» ⟨[.bytes b t, .str (PySem.Str.ofString "ascii") t1, .none, .str d t2], []⟩) (fun _ R s => x.length ≤ sizeLine ∧ R (.ok (.ret (.str x s.toks))) { s with toks := s.toks + 1 }) := by
  refine .of_wp fun prog w A R s hS => ?_
  obtain ⟨hsz, h⟩ := hS
  show wpAny _ _ (Bytes.bytesLike _ (.bytes b t) >>= fun r => _) _ _ s
  refine wpAny_bind (wpAny_of_eq KBd.like_eq ?_)
  refine wpAny_bind (wpAny_of_eq KBd.held_eq ?_)
  show wpAny _ _ (_codecs.decodeRoad _ b (PySem.Str.ofString "ascii") none [] >>= fun v => _) _ _ s
  rw [road_eq, hd]
  refine wpAny_bind (wpAny_bind (wpAny_pure ?_))
  exact wpAny_mkStr (wpAny_pure ⟨_, rfl, h⟩) hsz
theorem entry_eq {c : UInt8} {cs : List UInt8} {t u : Tok} : «bytes.decode» ⟨[.bytes (c :: cs).toArray t, .str (PySem.Str.ofString "ascii") u], []⟩ = (mkStr (PySem.Str.ofString "utf-8") >>= fun _ => mkStr (PySem.Str.ofString "ascii") >>= fun e => mkStr (PySem.Str.ofString "bytes.decode") >>= fun d =>
    call (.builtin "_codecs.decode.text") [.bytes (c :: cs).toArray t, e, .none, d] >>= fun v => ret v) := by kernel_rfl
end Dec
theorem dec4 {c0 c1 c2 c3 : UInt8} (h0 : c0.toNat < 128) (h1 : c1.toNat < 128) (h2 : c2.toNat < 128) (h3 : c3.toNat < 128) (id : String) :
    Builtin._codecs.runDecoder id Builtin._codecs.asciiDecoder none true [c0, c1, c2, c3].toArray 0 [] = pure ((⟨#[c0.toNat, c1.toNat, c2.toNat, c3.toNat]⟩ : Str).cps, 4) := by
  have f : ∀ p (c : UInt8), ([c0, c1, c2, c3].toArray).getD p 0 = c → c.toNat < 128 → Builtin._codecs.asciiDecoder.find true [c0, c1, c2, c3].toArray p = .char c.toNat (p + 1) := by
    intro p c hc hlt
    show (let c' := (([c0, c1, c2, c3].toArray).getD p 0).toNat; if c' < 128 then _ else _) = _
    rw [hc]; simp [hlt]
  have g0 := f 0 c0 rfl h0
  have g1 := f 1 c1 rfl h1
  have g2 := f 2 c2 rfl h2
  have g3 := f 3 c3 rfl h3
  unfold Builtin._codecs.runDecoder
  simp only [Std.Legacy.Range.forIn_eq_forIn_range']
  have e : List.range' ({ start := 0, stop := #[c0, c1, c2, c3].size, step := 1, step_pos := by decide } : Std.Legacy.Range).start ({ start := 0, stop := #[c0, c1, c2, c3].size, step := 1, step_pos := by decide } : Std.Legacy.Range).size 1 = [0, 1, 2, 3] := by simp [Std.Legacy.Range.size, List.range']
  simp only [e]
  have k0 : ¬ (0 ≥ #[c0, c1, c2, c3].size) := by simp
  have k1 : ¬ (0 + 1 ≥ #[c0, c1, c2, c3].size) := by simp
  have k2 : ¬ (1 + 1 ≥ #[c0, c1, c2, c3].size) := by simp
  have k3 : ¬ (2 + 1 ≥ #[c0, c1, c2, c3].size) := by simp
  have hs : ∀ a : Array Nat, a.size ≤ 4 → ¬ (a.size > sizeLine) := by intro a hn; rw [sizeLine_eq]; omega
  have s0 : ¬ ((#[] : Array Nat).size > sizeLine) := hs _ (by decide)
  have s1 : ¬ ((#[] ++ [c0.toNat].toArray : Array Nat).size > sizeLine) := hs _ (by simp)
  have s2 : ¬ ((#[] ++ [c0.toNat].toArray ++ [c1.toNat].toArray : Array Nat).size > sizeLine) := hs _ (by simp)
  have s3 : ¬ ((#[] ++ [c0.toNat].toArray ++ [c1.toNat].toArray ++ [c2.toNat].toArray : Array Nat).size > sizeLine) := hs _ (by simp)
  simp only [List.forIn_cons, List.forIn_nil, if_neg s0, if_neg k0, g0, Builtin._codecs.Found.char, pure_bind, if_neg s1, if_neg k1, g1, if_neg s2, if_neg k2, g2, if_neg s3, if_neg k3, g3]
  rfl
section
variable {w : World} {A : Around} {E : Value → Shared → Prop} {s : Shared} {t u : Tok} {Q : Value → Shared → Prop}
theorem call_dec {c0 c1 c2 c3 : UInt8} (h0 : c0.toNat < 128) (h1 : c1.toNat < 128) (h2 : c2.toNat < 128) (h3 : c3.toNat < 128) (h : ∀ t' k, Q (.str ⟨#[c0.toNat, c1.toNat, c2.toNat, c3.toNat]⟩ t') { s with toks := k }) :
    wpAny (model PG w) A (call (.builtin "bytes.decode") [.bytes [c0, c1, c2, c3].toArray t, .str (Str.ofString "ascii") u]) Q E s := by
  refine call_meets FB.slot_bytes_decode (typeIs_bytes _ _ _) FB.entry_bytes_decode (args_dec _ _) (S := fun _ R s => ∀ t' k, R (.ok (.ret (.str ⟨#[c0.toNat, c1.toNat, c2.toNat, c3.toNat]⟩ t'))) { s with toks := k }) (.of_wp fun prog w A R s h => ?_) h
  rw [Dec.entry_eq]
  refine wpAny_bind (wpAny_mkStr ?_ (by decide))
  refine wpAny_bind (wpAny_mkStr ?_ (by decide))
  refine wpAny_bind (wpAny_mkStr ?_ (by decide))
  exact wpAny_bind (call_function_meets KBd.kind_text KBd.plain_text KBd.entry_text (KBd.args_text _ _ _ _) (Dec.meets_text (x := ⟨#[c0.toNat, c1.toNat, c2.toNat, c3.toNat]⟩) (n := 4) (dec4 h0 h1 h2 h3)) ⟨by rw [sizeLine_eq]; show 4 ≤ _; decide, wpAny_pure ⟨_, rfl, h _ _⟩⟩)
end
noncomputable def B64N : List Nat := [65, 66, 67, 68, 69, 70, 71, 72, 73, 74, 75, 76, 77, 78, 79, 80, 81, 82, 83, 84, 85, 86, 87, 88, 89, 90, 97, 98, 99, 100, 101, 102, 103, 104, 105, 106, 107, 108, 109, 110, 111, 112, 113, 114, 115, 116, 117, 118, 119, 120, 121, 122, 48, 49, 50, 51, 52, 53, 54, 55, 56, 57, 43, 47]
noncomputable def b64N (i : Nat) : Nat := B64N.getD i 0
theorem b64_lt (i : Nat) : b64N i < 128 := by
  unfold b64N
  rw [List.getD]
  cases e : B64N[i]? with
  | none => decide
  | some x =>
    have : ∀ x ∈ B64N, x < 128 := by decide
    exact this x (List.mem_of_getElem? e)
theorem itmB {w : World} {A : Around} {E : Value → Shared → Prop} {s : Shared} {Q : Value → Shared → Prop} {value slice : Expr} {b : Array UInt8} {t u : Tok} {i : Nat} (hk : KBw.bInts b = B64N.map fun n : Nat => (n : Int)) (hi : i < 64)
    (h : ∀ t' k, Q (.int ((b64N i : Nat) : Int) t') { s with toks := k })
    (hs : subscripted slice false (.bytes b t) (.int (i : Int) u) = operate [.bytes b t, .int (i : Int) u] (getItem (.bytes b t) (.int (i : Int) u)))
    (ht : ∀ r, letTemporaryGo value (.bytes b t) r = pure ()) : wpAny (model PG w) A (subscriptTail value slice (.bytes b t) (.int (i : Int) u)) Q E s := by
  refine KBw.item_K hk (by simp [B64N]) (Int.natCast_nonneg i) (by simp [B64N]; omega) (fun t' k _ _ => ?_) hs ht
  have e : (B64N.map fun n : Nat => (n : Int)).getD ((i : Int).toNat) 0 = ((b64N i : Nat) : Int) := by
    unfold b64N
    rw [Int.toNat_natCast, List.getD_eq_getElem?_getD, List.getD_eq_getElem?_getD, List.getElem?_map]
    cases B64N[i]? <;> rfl
  rw [e]; exact h _ _
noncomputable def lbS : Nat → Int
  | 0 => 0
  | 1 => 2
  | 2 => 4
  | _ => 0
/-- what is left of the octets so far -/
noncomputable def lcS (v : Nat) : Nat → Nat
  | 0 => 0
  | 1 => v / 65536
  | 2 => v / 256
  | _ => v % 65536
noncomputable def outS (v : Nat) : List Nat := [b64N (v / 262144 % 64), b64N (v / 4096 % 64), b64N (v / 64 % 64), b64N (v % 64)]
noncomputable def onS : Nat → Nat
  | 0 => 0
  | 1 => 1
  | 2 => 2
  | _ => 4
theorem shor {a b : Nat} (hb : b < 256) : (a * 2 ^ (8 : Int).toNat ||| b) &&& (65535 : Int).toNat = (a * 256 + b) % 65536 := by
  have e : (8 : Int).toNat = 8 := rfl
  have e2 : (65535 : Int).toNat = 2 ^ 16 - 1 := rfl
  rw [e, e2, Nat.and_two_pow_sub_one_eq_mod, ← Nat.shiftLeft_eq, ← Nat.shiftLeft_add_eq_or_of_lt (show b < 2 ^ 8 from hb), Nat.shiftLeft_eq]
theorem and63_lt {a : Nat} : a &&& 63 < 64 := by
  have : a &&& 63 = a % 64 := Nat.and_two_pow_sub_one_eq_mod a 6
  omega
theorem shor' {a b : Nat} (hb : b < 256) : (a * 2 ^ 8 ||| b) &&& 65535 = (a * 256 + b) % 65536 := shor hb
theorem and63' {a : Nat} : a &&& 63 = a % 64 := Nat.and_two_pow_sub_one_eq_mod a 6
noncomputable def octS (v : Nat) : Nat → Nat
  | 0 => v / 65536
  | 1 => v / 256 % 256
  | _ => v % 256
theorem oct_at {v i : Nat} {c : UInt8} (hv : v < 16777216) (hi : i < 3) (h : ([(v / 65536).toUInt8, (v / 256 % 256).toUInt8, (v % 256).toUInt8].toArray)[i]? = some c) : c.toNat = octS v i := by
  have key : ∀ n, n < 256 → n.toUInt8.toNat = n := fun n hn => by show n % 256 = n; omega
  obtain rfl | rfl | rfl : i = 0 ∨ i = 1 ∨ i = 2 := by omega
  · simp at h; subst h; exact key _ (by omega)
  · simp at h; subst h; exact key _ (by omega)
  · simp at h; subst h; exact key _ (by omega)
theorem lc_step {v i : Nat} (hv : v < 16777216) (hi : i < 3) : (lcS v i * 2 ^ 8 ||| octS v i) &&& 65535 = lcS v (i + 1) := by
  have hb : octS v i < 256 := by
    obtain rfl | rfl | rfl : i = 0 ∨ i = 1 ∨ i = 2 := by omega
    all_goals (simp only [octS]; omega)
  rw [shor' hb]
  obtain rfl | rfl | rfl : i = 0 ∨ i = 1 ∨ i = 2 := by omega
  all_goals (simp only [lcS, octS]; omega)
section
variable {w : World} {A : Around} {E : Value → Shared → Prop} {s : Shared} {env : Env} {test : PySem.Expr} {body orelse : List Stmt} {Q : Flow → Shared → Prop} {pos : Pos}
abbrev noE : Value → Shared → Prop := fun _ _ => False
theorem whl_go (h : WhlRest PG w A noE env test body orelse Q 9 s) : wpAny (model PG w) A (exec (.While test body orelse pos) env) Q E s :=
  wpAny_mono (whl_start (E := noE) 9 h) (fun _ _ x => x) fun _ _ x => x.elim
theorem whl_yes (h : wpAny (model PG w) A (isTrue test env (eval test env)) (fun b s₂ => b = true ∧ wpAny (model PG w) A (execs body env) (fun f s₃ => f = .next ∧ WhlRest PG w A noE env test body orelse Q 9 s₃) noE s₂) noE s) :
    WhlRest PG w A noE env test body orelse Q 9 s := by
  refine whl_turn (k := 8) (fun _ _ x => x.elim) (wpAny_mono h (fun b s₂ h₂ => ?_) fun _ _ x => x)
  obtain ⟨rfl, h₂⟩ := h₂
  exact WhlIf.yes rfl (wpAny_mono h₂ (fun f s₃ h₃ => by obtain ⟨rfl, h₃⟩ := h₃; exact h₃) fun _ _ x => x)
end
theorem intsN_are : ∀ {vs : List Value} {zs : List Nat}, IntsN vs zs → IntsAre vs (zs.map fun z : Nat => (z : Int))
  | [], [], _ => .nil
  | [], _ :: _, h => by have := h.1; simp at this
  | _ :: _, [], h => by have := h.1; simp at this
  | v :: vs, z :: zs, h => by
    obtain ⟨t, e⟩ := h.2 0 z rfl
    have e' : v = .int (z : Int) t := by simpa using e
    subst e'
    exact .cons _ _ (intsN_are ⟨by simpa using h.1, fun i x hx => by obtain ⟨t', e'⟩ := h.2 (i + 1) x (by simpa using hx); exact ⟨t', by simpa using e'⟩⟩)
theorem gm_trans {M : Model} {A : Around} {E : Value → Shared → Prop} {s : Shared} {b : Array UInt8} {t : Tok} {pl : Sem Bool} {Q : Value × List Value → Shared → Prop} (h : Q (.builtin "bytes.translate", [.bytes b t]) s) :
    wpAny M A (getMethod (.bytes b t) (Str.ofString "translate") pl) Q E s := by
  with_reducible exact KBd.method_of (.bytes b t) (typeIs_bytes _ _ _) slot_trans type_trans KBd.noRef h
theorem ty_bytes : typeOf (.type "bytes") = pure (.type "type") := by first | rfl | kernel_rfl
theorem find_mt (K : Frag) : findCls K (.type "bytes") (.type "type") (Str.ofString "maketrans") = some (.val (.builtin "bytes.maketrans")) := by
  show findCls [] (.type "bytes") (.type "type") (Str.ofString "maketrans") = _
  kernel_rfl
theorem hand_mt : handedIn (.builtin "bytes.maketrans") = true := by first | decide +kernel | rfl
theorem stub_bytes : Manifest.isStub "bytes" = false := by decide +kernel
theorem gm_mt {w : World} {A : Around} {E : Value → Shared → Prop} {s : Shared} {K : Frag} {h₀ : Heap} {L : Addr} {m : Str → Option Value} {pl : Sem Bool} {Q : Value × List Value → Shared → Prop} (F : Fr h₀ L s.heap m) (X₀ : K.In h₀)
    (h : Q (.builtin "bytes.maketrans", []) { s with toks := s.toks + 1 }) : wpAny (model PG w) A (getMethod (.type "bytes") (Str.ofString "maketrans") pl) Q E s := by
  with_reducible exact method_type F X₀ ty_bytes stub_bytes (find_mt K) hand_mt h
theorem gm_dec {M : Model} {A : Around} {E : Value → Shared → Prop} {s : Shared} {b : Array UInt8} {t : Tok} {pl : Sem Bool} {Q : Value × List Value → Shared → Prop} (h : Q (.builtin "bytes.decode", [.bytes b t]) s) :
    wpAny M A (getMethod (.bytes b t) (Str.ofString "decode") pl) Q E s := by
  exact KBd.method_of (.bytes b t) (typeIs_bytes _ _ _) (name := Str.ofString "decode") FB.slot_bytes_decode FB.type_bytes_decode KBd.noRef h
end Mine
/- C7 -/
namespace Mine
abbrev tupO (vs : List Value) : Obj := { cls := .type "tuple", data := .seq vs.toArray }
section
variable {w : World} {A : Around} {E : Value → Shared → Prop} {s : Shared} {Q : Value → Shared → Prop} {h₀ : Heap} {L : Addr} {m : Str → Option Value} {news : List (Addr × Obj)}
theorem newTupleK {vs : List Value} (F : Fr h₀ L s.heap m) (N : News h₀ L s.heap news)
    (h : ∀ l h', Fr h₀ L h' m → News h₀ L h' ((l, tupO vs) :: news) → (∀ p ∈ news, p.1 < l) → Kp s.heap h' → Q (.ref l) { s with heap := h' }) (hsz : vs.length ≤ sizeLine := by size_fits) :
    wpAny (model PG w) A (newTuple vs) Q E s :=
  wpAny_newObj_type (h _ _ (F.push _) (N.push F _) (fun p hp => Heap.lt_size (N p hp).1) (fun _ _ e => Heap.get?_push_of_some _ e)) (by show vs.toArray.size ≤ sizeLine; rw [List.size_toArray]; exact hsz)
end
noncomputable def figS (i sl ot j : Nat) : Nat := if i / 2 ^ (2 - j) % 2 = 1 then sl else ot
/-- the sign of a figure, by the other signs -/
noncomputable def chS (alt : Array UInt8) (f : Nat) : Nat := ((mtab #[43, 47] alt).getD (b64N f) (b64N f).toUInt8).toNat
noncomputable def altOf (sl : Nat) : Array UInt8 := if sl = 63 then #[45, 47] else #[47, 45]
noncomputable def fileS (i sl ot : Nat) : Str := ⟨#[chS (altOf sl) (figS i sl ot 0), chS (altOf sl) (figS i sl ot 1), chS (altOf sl) (figS i sl ot 2), chS (altOf sl) i]⟩
noncomputable def valS (i sl ot : Nat) : Nat → Nat
  | 0 => 0
  | j + 1 => 64 * valS i sl ot j + (if j = 3 then i else figS i sl ot j)
theorem fig_lt {i sl ot j : Nat} (hsl : sl = 62 ∨ sl = 63) (hot : ot < 64) : figS i sl ot j < 64 := by
  unfold figS; split <;> omega
theorem val_lt {i sl ot : Nat} (hi : i < 7) (hsl : sl = 62 ∨ sl = 63) (hot : ot < 64) : valS i sl ot 4 < 16777216 := by
  have h0 := fig_lt (i := i) (j := 0) hsl hot
  have h1 := fig_lt (i := i) (j := 1) hsl hot
  have h2 := fig_lt (i := i) (j := 2) hsl hot
  simp [valS]; omega
theorem val_out {i sl ot : Nat} (hi : i < 7) (hsl : sl = 62 ∨ sl = 63) (hot : ot < 64) : outS (valS i sl ot 4) = [b64N (figS i sl ot 0), b64N (figS i sl ot 1), b64N (figS i sl ot 2), b64N i] := by
  have h0 := fig_lt (i := i) (j := 0) hsl hot
  have h1 := fig_lt (i := i) (j := 1) hsl hot
  have h2 := fig_lt (i := i) (j := 2) hsl hot
  have e : valS i sl ot 4 = 64 * (64 * (64 * figS i sl ot 0 + figS i sl ot 1) + figS i sl ot 2) + i := by simp [valS]
  unfold outS
  rw [e]
  generalize figS i sl ot 0 = a at *
  generalize figS i sl ot 1 = b at *
  generalize figS i sl ot 2 = c at *
  have e0 : (64 * (64 * (64 * a + b) + c) + i) / 262144 % 64 = a := by omega
  have e1 : (64 * (64 * (64 * a + b) + c) + i) / 4096 % 64 = b := by omega
  have e2 : (64 * (64 * (64 * a + b) + c) + i) / 64 % 64 = c := by omega
  have e3 : (64 * (64 * (64 * a + b) + c) + i) % 64 = i := by omega
  rw [e0, e1, e2, e3]
theorem tr4 (alt : Array UInt8) (a b c d : Nat) : trS ([b64N a, b64N b, b64N c, b64N d].map Nat.toUInt8).toArray (mtab #[43, 47] alt) =
    [((mtab #[43, 47] alt).getD (b64N a) (b64N a).toUInt8), ((mtab #[43, 47] alt).getD (b64N b) (b64N b).toUInt8), ((mtab #[43, 47] alt).getD (b64N c) (b64N c).toUInt8), ((mtab #[43, 47] alt).getD (b64N d) (b64N d).toUInt8)].toArray := by
  have key : ∀ n, (b64N n).toUInt8.toNat = b64N n := fun n => by
    have := b64_lt n
    show b64N n % 256 = b64N n
    omega
  simp only [trS, List.map_cons, List.map_nil, List.map_toArray, key]
theorem mtab_get (a b : UInt8) {i : Nat} (hi : i < 256) (d : UInt8) : (mtab #[43, 47] #[a, b]).getD i d = if i = 47 then b else if i = 43 then a else i.toUInt8 := by
  have e : mtab #[43, 47] #[a, b] = (((Array.range 256).map (·.toUInt8)).setIfInBounds 43 a).setIfInBounds 47 b := rfl
  rw [e, Array.getD_eq_getD_getElem?, Array.getElem?_setIfInBounds, Array.getElem?_setIfInBounds]
  by_cases h1 : i = 47
  · subst h1; simp
  · rw [if_neg (fun h => h1 h.symm), if_neg h1]
    by_cases h2 : i = 43
    · subst h2; simp
    · rw [if_neg (fun h => h2 h.symm), if_neg h2]
      simp [hi]
noncomputable def chT (sl f : Nat) : Nat := if b64N f = 47 then (if sl = 63 then 47 else 45) else if b64N f = 43 then (if sl = 63 then 45 else 47) else b64N f
theorem ch_eq (sl f : Nat) : chS (altOf sl) f = chT sl f := by
  have hb := b64_lt f
  unfold chS chT altOf
  split
  · rw [mtab_get _ _ (Nat.lt_trans hb (by decide))]
    split
    · rfl
    · split
      · rfl
      · show b64N f % 256 = b64N f; omega
  · rw [mtab_get _ _ (Nat.lt_trans hb (by decide))]
    split
    · rfl
    · split
      · rfl
      · show b64N f % 256 = b64N f; omega
theorem ch_all : ∀ sl ∈ [62, 63], ∀ f < 64, chS (altOf sl) f < 128 := by simp only [ch_eq]; decide +kernel
theorem ch_lt {sl f : Nat} (hsl : sl = 62 ∨ sl = 63) (hf : f < 64) : chS (altOf sl) f < 128 := ch_all sl (by rcases hsl with rfl | rfl <;> simp) f hf
end Mine
/- C8 -/
namespace Mine
section
variable {w : World} {A : Around} {s : Shared} {B : Heap} {R : Result → Shared → Prop} {name qual : Str} {params : Arguments} {body : List Stmt} {scope : Scope} {dV kV doc pm cdv ct oc : Value} {an od : Option Addr} {osl : Array (Option Value)} {f : Addr} {binds : List (Str × Value)} {Q E : Value → Shared → Prop} {pos : List Value} {kw : List (Str × Value)} {ms : List (Addr × Obj)}
/-- a def is entered, from a heap of which B is a part; what lies in ms may change -/
theorem enterBc (g : G w B) (hB : Kp B s.heap) (hsz : B.objs.size ≤ s.heap.objs.size) (hms : ∀ p ∈ ms, s.heap.get? p.1 = some p.2 ∧ B.get? p.1 = none) (hroom : A.depth < recursionLimit)
    (ho : (hd.heap_39 w.params).lookup f = some ⟨oc, od, .func (fnOf name qual params body scope dV kV doc pm an cdv ct), osl⟩) (hcd : codeIn (hd.heap_39 w.params) cdv qual = true)
    (hbind : BindsTo s (fnOf name qual params body scope dV kV doc pm an cdv ct) ⟨pos, kw⟩ binds) (hloc : ∀ y ∈ binds, scope.names.lookup y.1 = some .local)
    (h : ∀ L h₁ tk mean mg mb, s.heap.objs.size ≤ L → Fr B L h₁ (fun y => binds.reverse.lookup y) → News B L h₁ ms → Kp s.heap h₁ → s.heap.get? L = none → (hd.heap_39 w.params).In B → Top hd.view_39 LO mean mg mb B →
      wpAny (model PG w) (A.deeper (envOf qual scope L f cdv)) (execs body (envOf qual scope L f cdv))
        (fun fl s' => R (.ok (.ret (match fl with | .ret v => v | _ => .none))) s') (fun _ _ => False)
        { s with heap := h₁, toks := tk })
    (hco : scope.isCoroutine = false) (hgen : scope.isGenerator = false) (hk : scope.kind = .function)
    (hcell : ∀ x ∈ scope.names, x.2 ≠ .cell) : codeAny (model PG w) A (.call (.ref f) ⟨pos, kw⟩) R s := by
  have g' := g.keeps hB
  obtain ⟨mean, mg, mb, T⟩ := g.t
  refine codeAny_call_def (fd := fnOf name qual params body scope dV kV doc pm an cdv ct) (body := body) (binds := binds) hroom (g'.k _ _ ho) rfl g'.nolimit (codeRec_of g'.k hcd) rfl hbind hcell hloc (fun h₁ hns hk₁ => ?_) hco hgen hk
  have hn : s.heap.get? s.heap.objs.size = none := none_of_size (Nat.le_refl _)
  refine wpAny_mono (h _ h₁ _ mean mg mb (Nat.le_refl _) ⟨hns, fun b o e => hk₁ b o (hB b o e), hsz⟩ (fun p hp => ⟨hk₁ _ _ (hms p hp).1, fun e => ?_, (hms p hp).2⟩) (fun b o e => hk₁ b o e) hn g.k T) (fun fl s' hl => hl) fun _ _ y => y.elim
  have := (hms p hp).1
  rw [e, hn] at this; cases this
theorem enterB (g : G w B) (hB : Kp B s.heap) (hsz : B.objs.size ≤ s.heap.objs.size) (hms : ∀ p ∈ ms, s.heap.get? p.1 = some p.2 ∧ B.get? p.1 = none) (hroom : A.depth < recursionLimit)
    (ho : (hd.heap_39 w.params).lookup f = some ⟨oc, od, .func (fnOf name qual params body scope dV kV doc pm an cdv ct), osl⟩) (hcd : codeIn (hd.heap_39 w.params) cdv qual = true)
    (hbind : BindsTo s (fnOf name qual params body scope dV kV doc pm an cdv ct) ⟨pos, kw⟩ binds) (hloc : ∀ y ∈ binds, scope.names.lookup y.1 = some .local)
    (h : ∀ L h₁ tk mean mg mb, s.heap.objs.size ≤ L → Fr B L h₁ (fun y => binds.reverse.lookup y) → News B L h₁ ms → Kp s.heap h₁ → s.heap.get? L = none → (hd.heap_39 w.params).In B → Top hd.view_39 LO mean mg mb B →
      wpAny (model PG w) (A.deeper (envOf qual scope L f cdv)) (execs body (envOf qual scope L f cdv))
        (fun fl s' => Q (match fl with | .ret v => v | _ => .none) s') (fun _ _ => False)
        { s with heap := h₁, toks := tk })
    (hco : scope.isCoroutine = false) (hgen : scope.isGenerator = false) (hk : scope.kind = .function)
    (hcell : ∀ x ∈ scope.names, x.2 ≠ .cell) : wpAny (model PG w) A (call (.ref f) pos kw) Q E s :=
  wpAny_call (enterBc g hB hsz hms hroom ho hcd hbind hloc h hco hgen hk hcell)
/-- an object is made; its __init__ may change it -/
theorem makeB {C fI : Addr} {rest : List Value} (g : G w s.heap) (hm : makesIn (hd.heap_39 w.params) C = true)
    (hi : findIn (hd.heap_39 w.params) (.ref C) "__init__" = some (some (.ref fI))) (hf : typeIn (hd.heap_39 w.params) (.ref fI) = some (.type "function"))
    (h : ∀ x dx h', Kp s.heap h' → s.heap.get? x = none → s.heap.get? dx = none → @LT.lt Nat _ dx x → s.heap.objs.size ≤ h'.objs.size → h'.get? x = some (instObj C dx) → h'.get? dx = some emptyDict →
      codeAny (model PG w) (A.under (.builtin "type.__call__" ⟨.ref C :: rest, []⟩)) (.call (.ref fI) ⟨.ref x :: rest, []⟩) (InitBack x (wants Q E)) { s with heap := h' }) :
    wpAny (model PG w) A (call (.ref C) rest) Q E s := by
  refine wpAny_call ?_
  obtain ⟨hh, g', d, t, os⟩ := s
  refine make_core (makes_of g.k hm) (looks_findIn g.k hi) (fun self => bind_fn g.k self hf) (.inl rfl) (h (hh.objs.size + 1) hh.objs.size _ (fun b o e => Heap.get?_push_of_some _ (Heap.get?_push_of_some _ e)) (none_of_size (Nat.le_succ _)) (none_of_size (Nat.le_refl _)) (Nat.lt_succ_self _) ?_ ?_ ?_)
  · show hh.objs.size ≤ ((hh.push _).push _).objs.size
    rw [Heap.size_push, Heap.size_push]; exact Nat.le_trans (Nat.le_succ _) (Nat.le_succ _)
  · have := Heap.get?_push_size (hh.push emptyDict) (o := instObj C hh.objs.size) rfl
    rw [Heap.size_push] at this; exact this
  · exact Heap.get?_push_of_some _ (Heap.get?_push_size _ rfl)
end
end Mine
/- C9 -/
namespace Mine
noncomputable abbrev byT (w : World) : Bool := w.params.followText "set-order"
noncomputable def set0O (w : World) : Obj := { cls := .type "set", dict := none, data := .set #[] 0 (.fresh 0 0 (!byT w)) }
/-- the table of a set of one str -/
noncomputable def tab1 (w : World) (h : Int) : SetTable := { mask := 7, place := #[SetTable.bits h % 8], dummies := #[], finger := 0, led := !byT w, moves := 0, plain := false }
noncomputable def set1O (w : World) (x : Str) (t : Tok) : Obj := { cls := .type "set", dict := none, data := .set #[(hashStr w x, .str x t)] 1 (tab1 w (hashStr w x)) }
theorem lay1 (led : Bool) (h : Int) (x : Value) : layNew (.fresh 0 0 led) #[] h x = (#[(h, x)], { mask := 7, place := #[SetTable.bits h % 8], dummies := #[], finger := 0, led := led, moves := 0, plain := true }, false, false) := by
  rfl
section
variable {w : World} {A : Around} {E : Value → Shared → Prop} {s : Shared}
theorem add1 {a : Addr} {x : Str} {t : Tok} {Q : Bool → Shared → Prop} (ho : s.heap.get? a = some (set0O w)) (h : ∀ h', h'.get? a = some (set1O w x t) → Heap.SameBut a s.heap h' → Q true { s with heap := h' }) :
    wpAny (model PG w) A (setAddHashed a (.str x t) (hashStr w x)) Q E s := by
  have hf : SetTable.fits (.fresh 0 0 (!byT w)) (#[] : Array (Int × Value)).size = true := rfl
  unfold setAddHashed setAddHashedIn
  refine wpAny_holding (wpAny_bind (wpAny_setState_of (prog := PG) (w := w) ho rfl hf ?_))
  dsimp only
  rw [byScan_of (knd := strKind PG w) (x := .str x t) (es := #[]) rfl (by decide) (fun e he => by simp at he)]
  simp only [↓reduceIte]
  unfold setAddByScan
  refine wpAny_bind ?_
  refine wpAny_bind (wpAny_rule ?_)
  refine wpAny_bind (wpAny_setScan_of (knd := strKind PG w) (k := x) (strKind_is _ _ _ _) ho rfl hf (fun e he => by simp at he) ?_)
  dsimp only
  have hlay := lay1 (!byT w) (hashStr w x) (.str x t)
  have hkh : (strKind PG w).hash x = hashStr w x := rfl
  try rw [hkh]
  generalize layNew (SetTable.fresh 0 0 (!byT w)) #[] (hashStr w x) (Value.str x t) = LN at hlay ⊢
  subst hlay
  dsimp only
  refine wpAny_bind (wpAny_pure ?_)
  show wpAny _ _ (hashByValue 8 (.str x t) >>= _) _ _ _
  rw [hashByValue_scannable 8 rfl]
  refine wpAny_bind (wpAny_pure ?_)
  refine wpAny_bind (wpAny_storeSet_of ho rfl ?_ (by rw [sizeLine_eq]; simp))
  have hg : (s.heap.update a (Obj.putSet #[(hashStr w x, .str x t)] (tab1 w (hashStr w x)))).get? a = some (set1O w x t) := Heap.get?_update_self _ ho rfl
  exact wpAny_pure (wpAny_pure (h _ hg (Heap.SameBut.update ..)))
theorem new_set1 (a : Value) {Q₁ : Value → Shared → Prop}
    (h : Q₁ (.ref s.heap.objs.size) { s with heap := s.heap.push (set0O w) }) :
    codeAny (model PG w) A (.call (.builtin "set.__new__") ⟨[.type "set", a], []⟩) (wants Q₁ E) s := by
  refine codeAny_of_tree ?_
  show wpAny _ A.in1 (do checkBuiltinCall "set.__new__" ⟨[.type "set", a], []⟩; again (.builtin "set.__new__" ⟨[.type "set", a], []⟩)) _ _ s
  refine wpAny_bind (wpAny_of_eq (PySem.F.newCall_set_1 a) (wpAny_pure ⟨plainId_quiet PySem.F.plain_set_new _, codeAny_builtin PySem.F.entry_set_new ?_⟩))
  rw [Around.under_plainId PySem.F.plain_set_new _]
  unfold Builtin.«set.__new__» Builtin.Frozenset.newClass
  have hsub := sub_set_self
  obtain ⟨hp, g, d, tk, os⟩ := s
  dsimp only
  wp_walk
  refine wpAny_askSetting (wpAny_pure ?_)
  dsimp only
  simp only [newObj]
  refine wpAny_bind (wpAny_alloc (wpAny_pure ?_))
  exact wpAny_pure h
/-- the loop that fills a new set from a list of one str -/
theorem loop1 {S I l : Addr} {x : Str} {t : Tok} {R : Result → Shared → Prop} (hh : A.in1.handled = none) (hS : s.heap.get? S = some (set0O w)) (hI : s.heap.IsListIter I l 0) (hl : s.heap.IsList l [Value.str x t].toArray) (hSI : S ≠ I) (hSl : S ≠ l) (hIl : l ≠ I)
    (h : ∀ h' tk, h'.get? S = some (set1O w x t) → (∀ b o, b ≠ S → b ≠ I → s.heap.get? b = some o → h'.get? b = some o) → R (.ok (.ret .none)) { s with heap := h', toks := tk }) :
    codeAny (model PG w) A (.builtin "set.update.loop" ⟨[.ref S, .ref I], []⟩) R s := by
  have W := Walks.list (prog := PG) (w := w) hh I l hIl [Value.str x t].toArray
  refine codeAny_builtin PyProof.Rows.F.entry_set_update_loop ?_
  rw [Around.under_plainId PyProof.Rows.F.plain_set_update_loop _]
  show wpAny _ A.in1 (pyNext (.ref I) >>= _) _ _ s
  refine wpAny_bind (W.item 0 s _ _ (by simp) ⟨hI, hl⟩ fun v h₁ tk₁ hP hst₁ hk₁ => ?_)
  have hv : v = .str x t := by simpa using hP.symm
  subst hv
  have hS₁ : h₁.get? S = some (set0O w) := hk₁ S _ (by simpa using hSI) hS
  show wpAny _ A.in1 (holding [Value.str x t] (setAdd S (.str x t)) >>= _) _ _ _
  refine wpAny_bind (wpAny_holding ?_)
  unfold setAdd
  refine wpAny_holding ?_
  refine wpAny_bind ((strKind PG w).pyHash (k := x) (strKind_is _ _ _ _) ?_)
  refine add1 (s := { s with heap := h₁, toks := tk₁ + 1 }) hS₁ fun h₂ hS₂ hs₂ => ?_
  have hst₂ := W.frame _ _ h₂ hst₁ fun b hb o e => hs₂.extBut b o (fun hbs => by
    subst hbs
    rcases List.mem_cons.mp hb with e | hb
    · exact hSI e
    · rw [List.mem_singleton] at hb; exact hSl hb) e
  refine wpAny_pure ⟨plainId_quiet PyProof.Rows.F.plain_set_update_loop _, codeAny_builtin PyProof.Rows.F.entry_set_update_loop ?_⟩
  rw [Around.under_plainId PyProof.Rows.F.plain_set_update_loop _]
  show wpAny _ A.in1 (pyNext (.ref I) >>= _) _ _ _
  refine wpAny_bind (W.done { s with heap := h₂, toks := tk₁ + 1 } _ _ hst₂ fun h₃ tk₃ hk₃ => ?_)
  show wpAny _ A.in1 (ret Value.none) _ _ _
  refine wpAny_pure (h h₃ tk₃ (hk₃ S _ (by simpa using hSI) hS₂) fun b o hbS hbI e => ?_)
  exact hk₃ b o (by simpa using hbI) (hs₂.extBut b o hbS (hk₁ b o (by simpa using hbI) e))
theorem call_set1 {l : Addr} {x : Str} {t : Tok} {Q : Value → Shared → Prop} (hh : A.handled = none) (hl : s.heap.IsList l [Value.str x t].toArray)
    (h : ∀ h' tk, h'.get? s.heap.objs.size = some (set1O w x t) → Kp s.heap h' → Q (.ref s.heap.objs.size) { s with heap := h', toks := tk }) :
    wpAny (model PG w) A (call (.type "set") [.ref l]) Q E s := by
  obtain ⟨c, tl, hmro⟩ := PySem.F.called_set.mro
  have hmade := PySem.F.called_set.made
  have hsub := PySem.F.called_set.sub
  refine wpAny_call (codeAny_of_tree ?_)
  show wpAny _ _ (callAny (.type "set") _) _ _ _
  refine wpAny_pure ⟨Code.quiet_builtin _ (by decide +kernel), codeAny_builtin PySem.F.entry_type_call ?_⟩
  rw [Around.under_plain (weight_type_call_type "set" [.ref l] []) rfl]
  have h1 := PySem.F.called_set.notType
  have h2 := PySem.F.called_set.canCreate
  have hct := PySem.F.typeCall_set_1 (.ref l)
  (wp_delta)
  ((with_reducible apply PySem.wpAny_ite_false); focus (rfl; done))
  ((with_reducible apply PySem.wpAny_ite_false); focus (rfl; done))
  (with_reducible refine PySem.wpAny_bind ?_)
  (with_reducible refine PySem.wpAny_of_eq (by assumption) ?_)
  (with_reducible refine PySem.wpAny_bind ?_)
  (with_reducible refine PySem.wpAny_of_eq (by assumption) ?_)
  ((with_reducible apply PySem.wpAny_ite_false); focus (rfl; done))
  (with_reducible refine PySem.wpAny_bind ?_)
  (with_reducible refine PySem.wpAny_of_eq (by assumption) ?_)
  (with_reducible refine PySem.wpAny_bind ?_)
  (with_reducible refine PySem.wpAny_pure ?_)
  (with_reducible refine PySem.wpAny_bind ?_)
  (with_reducible refine PySem.wpAny_holding ?_)
  (with_reducible refine PySem.wpAny_call ?_)
  refine codeAny_mono (new_set1 (.ref l) (E := E) (Q₁ := fun obj s₁ => obj = .ref s.heap.objs.size ∧ s₁ = { s with heap := s.heap.push (set0O w) }) ⟨rfl, rfl⟩) fun r s₁ hr => ?_
  cases r with
  | error e => exact hr
  | ok fl =>
    cases fl with
    | ret obj =>
      obtain ⟨rfl, rfl⟩ := hr
      have hS : (s.heap.push (set0O w)).get? s.heap.objs.size = some (set0O w) := Heap.get?_push_size _ rfl
      have hT : Shared.TypeIs { s with heap := s.heap.push (set0O w) } (.ref s.heap.objs.size) "set" := ⟨_, hS, rfl⟩
      have hli := PySem.F.called_set.init.lookup
      have hbi := PySem.F.called_set.init.bind (.ref s.heap.objs.size)
      (with_reducible refine PySem.wpAny_bind ?_)
      (with_reducible refine PySem.wpAny_isInstance (by assumption) (by assumption) ?_)
      ((with_reducible apply PySem.wpAny_ite_false); focus (rfl; done))
      (with_reducible refine PySem.wpAny_bind ?_)
      (with_reducible refine PySem.wpAny_holding ?_)
      (wp_delta)
      (with_reducible refine PySem.wpAny_bind ?_)
      (with_reducible refine PySem.wpAny_specialOf (by assumption) (by assumption) ?_)
      (with_reducible refine PySem.wpAny_holding ?_)
      (with_reducible refine PySem.wpAny_bind ?_)
      (with_reducible refine PySem.wpAny_of_eq (by assumption) ?_)
      (with_reducible refine PySem.wpAny_bind ?_)
      (with_reducible refine PySem.wpAny_call ?_)
      refine codeAny_mono (codeAny_call_builtin (R := wants (fun r s₂ => r = .none ∧ ∃ h' tk, s₂ = { s with heap := h', toks := tk } ∧ h'.get? s.heap.objs.size = some (set1O w x t) ∧ Kp s.heap h') E) PySem.F.called_set.init.plain PySem.F.entry_set_init (check_set_init_1 hT ?_)) fun r₂ s₂ hr₂ => ?_
      · obtain ⟨ol, hol, hcl, nl, hdl⟩ := id hl
        obtain ⟨ocls, odict, odata, oslots⟩ := ol
        simp only at hcl hdl
        subst hcl; subst hdl
        have hol' : (s.heap.push (set0O w)).get? l = some { cls := .type "list", dict := odict, data := .seq [Value.str x t].toArray nl, slots := oslots } := Heap.get?_push_of_some _ hol
        have hsls := PySem.F.sub_list_set
        have hslf := PySem.F.sub_list_frozenset
        have hne : (Value.type "list" == Value.type "dict") = false := by decide
        have hl1 : (s.heap.push (set0O w)).IsList l [Value.str x t].toArray := ⟨_, hol', rfl, nl, rfl⟩
        have hS' : (s.heap.push (set0O w)).get? s.heap.objs.size = some { cls := .type "set", dict := none, data := .set #[] 0 (.fresh 0 0 (!byT w)) } := hS
        unfold Builtin.«set.__init__» noKeywords Builtin.Frozenset.updateFrom
        generalize hPI : pyIter = PI
        (with_reducible refine PySem.wpAny_bind ?_)
        ((with_reducible apply PySem.wpAny_ite_true); focus (rfl; done))
        (with_reducible refine PySem.wpAny_pure ?_)
        (wp_delta)
        (with_reducible refine PySem.wpAny_bind ?_)
        (wp_delta)
        (with_reducible refine PySem.wpAny_bind ?_)
        (wp_delta)
        (with_reducible refine PySem.wpAny_bind ?_)
        (with_reducible refine PySem.wpAny_typeOf (by assumption) ?_)
        ((with_reducible apply PySem.wpAny_ite_false); focus (rfl; done))
        (with_reducible refine PySem.wpAny_pure ?_)
        (wp_delta)
        (wp_delta)
        (with_reducible refine PySem.wpAny_pure ?_)
        (with_reducible refine PySem.wpAny_bind ?_)
        (wp_delta)
        ((with_reducible apply PySem.wpAny_ite_false); focus (rfl; done))
        ((with_reducible apply PySem.wpAny_ite_false); focus (rfl; done))
        ((with_reducible apply PySem.wpAny_ite_false); focus (rfl; done))
        (with_reducible refine PySem.wpAny_pure ?_)
        (with_reducible refine PySem.wpAny_bind ?_)
        (wp_delta)
        (with_reducible refine PySem.wpAny_pure ?_)
        (with_reducible refine PySem.wpAny_bind ?_)
        (wp_delta)
        (with_reducible refine PySem.wpAny_bind ?_)
        (wp_delta)
        (with_reducible refine PySem.wpAny_bind ?_)
        ((with_reducible apply PySem.wpAny_load'); focus (heap_get; done))
        ((with_reducible apply PySem.wpAny_ite_false); focus (rfl; done))
        (with_reducible refine PySem.wpAny_pure ?_)
        (with_reducible refine PySem.wpAny_pure ?_)
        ((with_reducible apply PySem.wpAny_ite_false); focus (rfl; done))
        (wp_delta)
        (with_reducible refine PySem.wpAny_bind ?_)
        (with_reducible refine PySem.wpAny_bind ?_)
        (wp_delta)
        (wp_delta)
        (with_reducible refine PySem.wpAny_bind ?_)
        (wp_delta)
        (with_reducible refine PySem.wpAny_bind ?_)
        (wp_delta)
        (with_reducible refine PySem.wpAny_bind ?_)
        ((with_reducible apply PySem.wpAny_loadPart'); focus (heap_get; done))
        (with_reducible refine PySem.wpAny_pure ?_)
        (with_reducible refine PySem.wpAny_of_eq (by assumption) ?_)
        (wp_delta)
        (wp_delta)
        (with_reducible refine PySem.wpAny_bind ?_)
        (wp_delta)
        (with_reducible refine PySem.wpAny_bind ?_)
        ((with_reducible apply PySem.wpAny_loadPart'); focus (heap_get; done))
        (with_reducible refine PySem.wpAny_pure ?_)
        (with_reducible refine PySem.wpAny_of_eq (by assumption) ?_)
        ((with_reducible apply PySem.wpAny_ite_false); focus (rfl; done))
        (with_reducible refine PySem.wpAny_bind ?_)
        (wp_delta)
        (with_reducible refine PySem.wpAny_bind ?_)
        ((with_reducible apply PySem.wpAny_loadPart'); focus (heap_get; done))
        (with_reducible refine PySem.wpAny_pure ?_)
        ((with_reducible apply PySem.wpAny_ite_false); focus (rfl; done))
        (with_reducible refine PySem.wpAny_bind ?_)
        subst hPI
        refine wpAny_pyIter_list hl1 ?_
        refine wpAny_bind (wpAny_runValue ?_)
        have hlS : @LT.lt Nat _ l s.heap.objs.size := Heap.lt_size hol
        have hsz : (s.heap.push (set0O w)).objs.size = s.heap.objs.size + 1 := Heap.size_push ..
        rw [hsz]
        have hq : ∀ b o, (s.heap.push (set0O w)).get? b = some o → ((s.heap.push (set0O w)).push { cls := .type "list_iterator", data := .fields #[.ref l, .int 0 0] }).get? b = some o := fun b o e => Heap.get?_push_of_some _ e
        have hit : ((s.heap.push (set0O w)).push { cls := .type "list_iterator", data := .fields #[.ref l, .int 0 0] }).IsListIter (s.heap.objs.size + 1) l 0 := by
          refine ⟨{ cls := .type "list_iterator", data := .fields #[.ref l, .int 0 0] }, ?_, rfl, rfl⟩
          have := Heap.get?_push_size (s.heap.push (set0O w)) (o := { cls := .type "list_iterator", data := .fields #[.ref l, .int 0 0] }) rfl
          rw [hsz] at this; exact this
        refine loop1 (x := x) (t := t) (l := l) (by simp [hh]) (hq _ _ hS) hit (hl1.at fun o e => hq _ o e) ?_ ?_ ?_ ?_
        · exact Nat.ne_of_lt (Nat.lt_succ_self _)
        · exact Nat.ne_of_gt hlS
        · exact Nat.ne_of_lt (Nat.lt_succ_of_lt hlS)
        · intro h' tk hS' hk'
          show wpAny _ _ _ _ _ _
          refine wpAny_pure ?_
          show wpAny _ _ (ret Value.none) _ _ _
          refine wpAny_pure ⟨rfl, h', tk, rfl, hS', fun b o e => ?_⟩
          have hb : @LT.lt Nat _ b s.heap.objs.size := Heap.lt_size e
          exact hk' b o (Nat.ne_of_lt hb) (Nat.ne_of_lt (Nat.lt_succ_of_lt hb)) (hq b o (Heap.get?_push_of_some _ e))
      · cases r₂ with
        | error e => exact hr₂
        | ok fl₂ =>
          cases fl₂ with
          | ret r =>
            obtain ⟨rfl, h', tk, rfl, hS', hk'⟩ := hr₂
            (with_reducible refine PySem.wpAny_pure ?_)
            ((with_reducible apply PySem.wpAny_ite_false); focus (rfl; done))
            (wp_delta)
            (wp_delta)
            (with_reducible refine PySem.wpAny_pure ?_)
            exact h _ _ hS' hk'
          | _ => exact hr₂.elim
    | _ => exact hr.elim
end
end Mine
/- C10 -/
namespace Mine
theorem canon_at {id id' : String} (h0 : String.map (fun c => if (c.isAlphanum || c == '_' || c == '.') = true then c else '_') id = id) (h1 : Manifest.aliases.lookup id = some id') (h2 : id' ++ "" = id') :
    Manifest.canonical (String.map (fun c => if (c.isAlphanum || c == '_' || c == '.') = true then c else '_') id) ++ "" = id' := by
  rw [h0]; unfold Manifest.canonical; rw [h1]; exact h2
theorem entry_siter : entryFor table "set.__iter__" = some Builtin.«frozenset.__iter__» :=
  entryFor_alias (id' := "frozenset.__iter__") (by rw [fastTable_eq_tree]; kernel_rfl) rfl (canon_at (by decide +kernel) (by kernel_rfl) (by kernel_rfl)) (by rw [fastTable_eq_tree]; kernel_rfl)
theorem slot_snext : Slot "set_iterator" (Str.ofString "__next__") "set_iterator.__next__" :=
  .of (owner := "set_iterator") (n := "__next__") (by rw [typeLookup_type, builtinLookup_eq_fast]; kernel_rfl) (by decide +kernel) (by decide +kernel) (by decide +kernel)
    (by first | exact .inl (by decide +kernel) | exact .inr (by decide +kernel)) (by rw [isSubtype_type]; kernel_rfl)
theorem entry_snext : entryFor table "set_iterator.__next__" = some Builtin.«set_iterator.__next__» := entryFor_of_tree (by kernel_rfl)
theorem args_snext (a : Value) : argsOk "set_iterator.__next__" ⟨[a], []⟩ := by unfold argsOk; kernel_rfl
theorem slot_sself : Slot "set_iterator" (Str.ofString "__iter__") "set_iterator.__iter__" :=
  .of (owner := "set_iterator") (n := "__iter__") (by rw [typeLookup_type, builtinLookup_eq_fast]; kernel_rfl) (by decide +kernel) (by decide +kernel) (by decide +kernel)
    (by first | exact .inl (by decide +kernel) | exact .inr (by decide +kernel)) (by rw [isSubtype_type]; kernel_rfl)
theorem args_sself (a : Value) : argsOk "set_iterator.__iter__" ⟨[a], []⟩ := by unfold argsOk; kernel_rfl
theorem entry_sself : entryFor table "set_iterator.__iter__" = some Builtin.«dict_keyiterator.__iter__» :=
  entryFor_alias (id' := "dict_keyiterator.__iter__") (by rw [fastTable_eq_tree]; kernel_rfl) rfl (canon_at (by decide +kernel) (by kernel_rfl) (by kernel_rfl)) (by rw [fastTable_eq_tree]; kernel_rfl)
noncomputable def slotS (w : World) (x : Str) : Nat → Nat
  | 0 => 0
  | _ => if byT w then 0 else SetTable.bits (hashStr w x) % 8 + 1
noncomputable def sitO (slot i : Nat) (a : Value) : Obj := { cls := .type "set_iterator", data := .fields #[.int (slot : Int) 0, .int (i : Int) 0, a, .int 1 0, .int 1 0] }
theorem below0 (j : Nat) : SetTable.below #[j] 0 = 0 := by
  unfold SetTable.below
  simp [SetTable.below.go]
theorem below1 (j : Nat) : SetTable.below #[j] (j + 1) = 1 := by
  unfold SetTable.below
  simp [SetTable.below.go]
theorem tab1_fits (w : World) (h : Int) : (tab1 w h).fits 1 = true := rfl
section
variable {w : World} {A : Around} {E : Value → Shared → Prop} {s : Shared} {a : Addr} {x : Str} {t : Tok}
theorem walk1s {Q : Array (Int × Value) → Shared → Prop} (hb : byT w = true) (ho : s.heap.get? a = some (set1O w x t)) (h : Q #[(hashStr w x, .str x t)] s) : wpAny (model PG w) A (setWalk a) Q E s := by
  unfold setWalk
  refine wpAny_bind (wpAny_setState_of (prog := PG) (w := w) ho rfl (tab1_fits _ _) ?_)
  dsimp only
  unfold setsByText
  refine wpAny_bind (wpAny_bind (wpAny_askSetting (wpAny_pure ?_)))
  rw [show (model PG w).w.params.followText "set-order" = true from hb]
  simp only [if_true]
  refine wpAny_bind (wpAny_askSetting ?_)
  refine wpAny_pure ?_
  have e : pickOrder ((model PG w).w.params.setOrder a 1) #[(hashStr w x, Value.str x t)] = #[(hashStr w x, .str x t)] := by
    unfold pickOrder
    simp [pickOrder.go, Nat.mod_one]
  rw [e]; exact h
theorem next0 {Q : Option (Value × Nat) → Shared → Prop} (ho : s.heap.get? a = some (set1O w x t)) (h : Q (some (.str x t, slotS w x 1)) s) : wpAny (model PG w) A (setNext a 0 0 1) Q E s := by
  unfold setNext
  refine wpAny_bind (wpAny_setState_of (prog := PG) (w := w) ho rfl (tab1_fits _ _) ?_)
  dsimp only
  cases hb : byT w with
  | true =>
    unfold setsByText
    refine wpAny_bind (wpAny_bind (wpAny_askSetting (wpAny_pure ?_)))
    rw [show (model PG w).w.params.followText "set-order" = true from hb]
    simp only [if_true]
    show wpAny _ _ (setWalk a >>= _) _ _ _
    refine wpAny_bind (walk1s hb ho (wpAny_pure ?_))
    simpa [slotS, hb] using h
  | false =>
    unfold setsByText
    refine wpAny_bind (wpAny_bind (wpAny_askSetting (wpAny_pure ?_)))
    rw [show (model PG w).w.params.followText "set-order" = false from hb]
    simp only [Bool.false_eq_true, if_false]
    have hl : (tab1 w (hashStr w x)).led = true := by show (!byT w) = true; rw [hb]; rfl
    refine KFB.if_not rfl ?_
    refine wpAny_bind ?_
    show wpAny _ _ (if (!(!byT w) && !(#[(hashStr w x, Value.str x t)] : Array (Int × Value)).isEmpty) = true then unsupported "set:maker-not-led" else pure ()) _ _ _
    rw [hb]
    refine KFB.if_not rfl (wpAny_pure (wpAny_pure ?_))
    have e : SetTable.below (tab1 w (hashStr w x)).place 0 = 0 := below0 _
    rw [e]
    simpa [slotS, hb, tab1] using h
theorem next1 {Q : Option (Value × Nat) → Shared → Prop} (ho : s.heap.get? a = some (set1O w x t)) (h : Q none s) : wpAny (model PG w) A (setNext a (slotS w x 1) 1 1) Q E s := by
  unfold setNext
  refine wpAny_bind (wpAny_setState_of (prog := PG) (w := w) ho rfl (tab1_fits _ _) ?_)
  dsimp only
  cases hb : byT w with
  | true =>
    unfold setsByText
    refine wpAny_bind (wpAny_bind (wpAny_askSetting (wpAny_pure ?_)))
    rw [show (model PG w).w.params.followText "set-order" = true from hb]
    simp only [if_true]
    show wpAny _ _ (setWalk a >>= _) _ _ _
    refine wpAny_bind (walk1s hb ho (wpAny_pure ?_))
    simpa using h
  | false =>
    unfold setsByText
    refine wpAny_bind (wpAny_bind (wpAny_askSetting (wpAny_pure ?_)))
    rw [show (model PG w).w.params.followText "set-order" = false from hb]
    simp only [Bool.false_eq_true, if_false]
    refine KFB.if_not rfl ?_
    refine wpAny_bind ?_
    show wpAny _ _ (if (!(!byT w) && !(#[(hashStr w x, Value.str x t)] : Array (Int × Value)).isEmpty) = true then unsupported "set:maker-not-led" else pure ()) _ _ _
    rw [hb]
    refine KFB.if_not rfl (wpAny_pure (wpAny_pure ?_))
    have e : SetTable.below (tab1 w (hashStr w x)).place (slotS w x 1) = 1 := by
      have e1 : slotS w x 1 = SetTable.bits (hashStr w x) % 8 + 1 := by simp [slotS, hb]
      rw [e1]; exact below1 _
    rw [e]
    simpa [tab1] using h
theorem pyIter_set1 {Q : Value → Shared → Prop} (ho : s.heap.get? a = some (set1O w x t)) (hQ : Q (.ref s.heap.objs.size) { s with heap := s.heap.push (sitO 0 0 (.ref a)) }) : wpAny (model PG w) A (pyIter (.ref a)) Q E s := by
  have hT : s.TypeIs (.ref a) "set" := ⟨_, ho, rfl⟩
  refine wpAny_pyIter_slot hT PySem.F.slot_set_iter (wpAny_call_entry PySem.F.slot_set_iter hT entry_siter ?_ (PySem.F.args_set_iter_1 _))
  unfold Builtin.«frozenset.__iter__»
  refine wpAny_bind (wpAny_of_eq (a := a) rfl ?_)
  unfold Builtin.Frozenset.sizeOf
  refine wpAny_bind (wpAny_bind (wpAny_setEntries_of (prog := PG) (w := w) ho rfl (tab1_fits _ _) (wpAny_pure ?_)))
  unfold setDrawn
  refine wpAny_bind (wpAny_bind (wpAny_setState_of (prog := PG) (w := w) ho rfl (tab1_fits _ _) ?_))
  dsimp only
  unfold setsByText
  refine wpAny_bind (wpAny_bind (wpAny_askSetting (wpAny_pure (wpAny_pure ?_))))
  refine KFB.if_not (by show (!_ && false) = false; simp) ?_
  refine wpAny_bind (wpAny_pure ?_)
  refine wpAny_bind (wpAny_setEpoch_of (prog := PG) (w := w) ho rfl (tab1_fits _ _) ?_)
  refine wpAny_bind (wpAny_newObj_type (wpAny_pure ⟨_, rfl, "set_iterator", _, ⟨_, Heap.get?_push_size _ rfl, rfl⟩, slot_snext.lookup, hQ⟩))
end
end Mine
/- C11 -/
namespace Mine
section
variable {w : World} {A : Around} {E : Value → Shared → Prop} {s : Shared} {a I : Addr} {x : Str} {t : Tok}
theorem sit_type {sl i : Nat} {v : Value} (h : s.heap.get? I = some (sitO sl i v)) : s.TypeIs (.ref I) "set_iterator" := ⟨_, h, rfl⟩
theorem snext0 {Q : Option Value → Shared → Prop} (ho : s.heap.get? a = some (set1O w x t)) (hI : s.heap.get? I = some (sitO 0 0 (.ref a)))
    (hQ : ∀ h', h'.get? I = some (sitO (slotS w x 1) 1 (.ref a)) → Heap.ExtBut I s.heap h' → Q (some (.str x t)) { s with heap := h' }) : wpAny (model PG w) A (pyNext (.ref I)) Q E s := by
  unfold pyNext
  refine wpAny_bind (wpAny_attempt (wpAny_callSpecial?_slot (name := Str.ofString "__next__") (sit_type hI) slot_snext
    (wpAny_call_entry slot_snext (sit_type hI) entry_snext ?_ (args_snext _))))
  unfold Builtin.«set_iterator.__next__»
  refine wpAny_bind (wpAny_of_eq (a := (.ref I, [])) rfl ?_)
  refine wpAny_bind (wpAny_fieldsOf hI rfl ?_)
  show wpAny _ _ (setEntries a >>= _) _ _ s
  refine wpAny_bind (wpAny_setEntries_of (prog := PG) (w := w) ho rfl (tab1_fits _ _) ?_)
  refine KFB.if_not rfl ?_
  show wpAny _ _ (setNext a 0 0 1 >>= _) _ _ s
  refine wpAny_bind (next0 ho ?_)
  dsimp only
  refine wpAny_bind (wpAny_setField_rec (prog := PG) (w := w) hI (by simp) fun h₁ g₁ k₁ => ?_)
  refine wpAny_bind (wpAny_setField_rec (prog := PG) (w := w) g₁ (by simp) fun h₂ g₂ k₂ => ?_)
  refine wpAny_pure ⟨_, rfl, wpAny_pure (hQ h₂ ?_ fun b o hb e => k₂.extBut b o hb (k₁.extBut b o hb e))⟩
  rw [g₂]; rfl
theorem snext1 {Q : Option Value → Shared → Prop} (hh : A.handled = none) (ho : s.heap.get? a = some (set1O w x t)) (hI : s.heap.get? I = some (sitO (slotS w x 1) 1 (.ref a)))
    (hQ : ∀ h', Heap.ExtBut I s.heap h' → Q none { s with heap := h' }) : wpAny (model PG w) A (pyNext (.ref I)) Q E s := by
  unfold pyNext
  refine wpAny_bind (wpAny_attempt (wpAny_callSpecial?_slot (name := Str.ofString "__next__") (sit_type hI) slot_snext
    (wpAny_call_entry slot_snext (sit_type hI) entry_snext ?_ (args_snext _))))
  unfold Builtin.«set_iterator.__next__»
  refine wpAny_bind (wpAny_of_eq (a := (.ref I, [])) rfl ?_)
  refine wpAny_bind (wpAny_fieldsOf hI rfl ?_)
  show wpAny _ _ (setEntries a >>= _) _ _ s
  refine wpAny_bind (wpAny_setEntries_of (prog := PG) (w := w) ho rfl (tab1_fits _ _) ?_)
  refine KFB.if_not rfl ?_
  show wpAny _ _ (setNext a ((slotS w x 1 : Nat) : Int).toNat 1 1 >>= _) _ _ s
  rw [Int.toNat_natCast]
  refine wpAny_bind (next1 ho ?_)
  dsimp only
  refine wpAny_bind (wpAny_setField_rec (prog := PG) (w := w) hI (by simp) fun h₁ g₁ k₁ => ?_)
  show wpAny _ _ (newExc (.type "StopIteration") [] >>= _) _ _ _
  refine wpAny_bind ?_
  simp only [newExc, newTuple]
  refine wpAny_bind (wpAny_newObj_type ?_ (by size_fits))
  refine wpAny_bind (m := firstArgMember _ _) (wpAny_of_eq (a := Value.none) (by first | rfl | (simp only [firstArgMember]; rfl)) ?_)
  refine wpAny_newObj_type ?_ (by size_fits)
  simp only [raiseNew]
  refine wpAny_bind (wpAny_handled ?_)
  rw [show A.in1.handled = none from hh]
  refine wpAny_bind (wpAny_pure (wpAny_throw ?_))
  refine wpAny_bind (wpAny_isInstance (T := "StopIteration") (b := true) ⟨_, Heap.get?_push_size _ rfl, rfl⟩ isSubtype_stop ?_)
  exact wpAny_pure (hQ _ ((k₁.extBut.push _).push _))
theorem sself {sl i : Nat} {v : Value} {Q : Value → Shared → Prop} (hI : s.heap.get? I = some (sitO sl i v)) (h : Q (.ref I) s) : wpAny (model PG w) A (pyIter (.ref I)) Q E s := by
  refine wpAny_pyIter_slot (sit_type hI) slot_sself (wpAny_call_entry slot_sself (sit_type hI) entry_sself ?_ (args_sself _))
  show wpAny _ _ (ret (.ref I)) _ _ s
  exact wpAny_pure ⟨_, rfl, "set_iterator", _, sit_type hI, slot_snext.lookup, h⟩
theorem walks_set1 (hh : A.handled = none) (hne : a ≠ I) : Walks PG w A I [I, a] [I] 1 (fun _ v => v = .str x t) (fun i h => h.get? a = some (set1O w x t) ∧ h.get? I = some (sitO (slotS w x i) i (.ref a))) where
  sub := fun b hb => by rw [List.mem_singleton] at hb; subst hb; exact List.mem_cons_self ..
  frame := fun _ _ _ st hk => ⟨hk a (by simp) _ st.1, hk I (by simp) _ st.2⟩
  item := fun i s Q E hi st hQ => by
    have hi0 : i = 0 := by omega
    subst hi0
    refine snext0 st.1 st.2 fun h' g' k' => ?_
    exact hQ _ h' s.toks rfl ⟨k' a _ hne st.1, g'⟩ fun b o hb e => k' b o (by simpa using hb) e
  done := fun s Q E st hQ => snext1 hh st.1 st.2 fun h' k' => hQ h' s.toks fun b o hb e => k' b o (by simpa using hb) e
  self := fun _ _ _ _ st hQ => sself st.2 hQ
theorem iters_set1 (hh : A.handled = none) (ho : s.heap.get? a = some (set1O w x t)) : Iters w A s (.ref a) 1 (fun _ v => v = .str x t) [a] := by
  intro Q E h
  have hlt : a < s.heap.objs.size := Heap.lt_size ho
  have hne : a ≠ s.heap.objs.size := Nat.ne_of_lt hlt
  refine pyIter_set1 ho ?_
  refine h s.heap.objs.size _ _ _ _ _ (walks_set1 hh hne) ?_ ?_ ⟨Heap.get?_push_of_some _ ho, Heap.get?_push_size _ rfl⟩ ?_ ?_ (fun _ _ e => Heap.get?_push_of_some _ e) ?_
  · intro i h st b hb
    rw [List.mem_singleton] at hb; subst hb
    exact ⟨_, st.2, rfl⟩
  · intro target x i s' Q' E' st hq
    exact go_quiet st.2 rfl (by decide) hq
  · intro b hb
    rw [Heap.size_push]
    rcases List.mem_cons.mp hb with e | hb
    · rw [e]; exact Nat.lt_succ_self _
    · rw [List.mem_singleton] at hb; rw [hb]; exact Nat.lt_succ_of_lt hlt
  · intro b hb
    rcases List.mem_cons.mp hb with e | hb
    · exact .inl (List.mem_singleton.mpr e)
    · exact .inr hb
  · intro b hb
    rw [List.mem_singleton] at hb; subst hb
    exact none_of_size (Nat.le_refl _)
theorem set1_of (ho : s.heap.get? a = some (set1O w x t)) : s.heap.SetOf (strKind PG w) a (fun k => decide (k = x)) 1 := by
  refine ⟨_, _, _, _, ho, ⟨rfl, rfl, rfl⟩, rfl, ?_, ?_, (show 1 < 4096 by decide), rfl, rfl⟩
  · intro e he
    have he' : e = (hashStr w x, .str x t) := by simpa using he
    subst he'
    exact ⟨⟨x, strKind_is _ _ _ _, rfl⟩, rfl⟩
  · intro k
    constructor
    · intro hk
      have : k = x := by simpa using hk
      subst this
      exact ⟨(hashStr w k, .str k t), by simp, strKind_is _ _ _ t⟩
    · rintro ⟨e, he, hk⟩
      have he' : e = (hashStr w x, .str x t) := by simpa using he
      subst he'
      have := (strKind PG w).inj _ _ _ hk (strKind_is PG w x t)
      simp [this]
end
end Mine
/- C12 -/
namespace Mine
/-- a memory, as pairs of a dict -/
noncomputable def MemL (kvs : List (Str × Value)) (mem : List (Str × Nat)) : Prop := kvs.length = mem.length ∧ ∀ (i : Nat) (k : Str) (r : Nat), mem[i]? = some (k, r) → ∃ t, kvs[i]? = some (k, Value.int (r : Int) t)
noncomputable def rdEs (w : World) (ms ds ig : Addr) (t1 t2 t3 : Tok) : List DictEntry :=
  [{ hash := PyData.keyHash w.params (Str.ofString "_mods"), key := .str (Str.ofString "_mods") t1, val := .ref ms },
   { hash := PyData.keyHash w.params (Str.ofString "_dirs"), key := .str (Str.ofString "_dirs") t2, val := .ref ds },
   { hash := PyData.keyHash w.params (Str.ofString "_ignore"), key := .str (Str.ofString "_ignore") t3, val := .ref ig }]
/-- a reader: its places -/
structure RdA where
  x : Addr
  dx : Addr
  ms : Addr
  ds : Addr
  ig : Addr
noncomputable def RdA.all (a : RdA) : List Addr := [a.x, a.dx, a.ms, a.ds, a.ig]
structure Rd (w : World) (h : Heap) (a : RdA) (told : Str) (dirs : List Str) (mem : List (Str × Nat)) : Prop where
  inst : h.get? a.x = some (instObj 212 a.dx)
  dict : ∃ t1 t2 t3, h.get? a.dx = some (dictOf (rdEs w a.ms a.ds a.ig t1 t2 t3) 3)
  set : ∃ tt, h.get? a.ms = some (set1O w told tt)
  dirs : ∃ vs n, h.get? a.ds = some (W.listOf (List.toArray vs) n) ∧ StrsL vs dirs
  ign : ∃ o kvs, h.get? a.ig = some o ∧ o.IsDictOf (PySem.strKind PG w) kvs ∧ MemL kvs mem
  nomod : (a.ig == sysModules) = false
  ord : @LT.lt Nat _ a.dx a.x ∧ @LT.lt Nat _ a.x a.ms ∧ @LT.lt Nat _ a.ms a.ds ∧ @LT.lt Nat _ a.ds a.ig
theorem Rd.at {w : World} {h h' : Heap} {a : RdA} {told : Str} {dirs : List Str} {mem : List (Str × Nat)} (r : Rd w h a told dirs mem) (k : ∀ b ∈ a.all, ∀ o, h.get? b = some o → h'.get? b = some o) : Rd w h' a told dirs mem := by
  obtain ⟨i, ⟨t1, t2, t3, d⟩, ⟨tt, s⟩, ⟨vs, n, l, hl⟩, ⟨o, kvs, g, hg⟩, nm, od⟩ := r
  exact ⟨k _ (by simp [RdA.all]) _ i, ⟨t1, t2, t3, k _ (by simp [RdA.all]) _ d⟩, ⟨tt, k _ (by simp [RdA.all]) _ s⟩, ⟨vs, n, k _ (by simp [RdA.all]) _ l, hl⟩, ⟨o, kvs, k _ (by simp [RdA.all]) _ g, hg⟩, nm, od⟩
/-- what a reader answers, and what it keeps -/
noncomputable def ansS (told : Str) (dirs : List Str) (file name : Str) : Nat :=
  if name = told then 1 else if Txt.startswith name (told ++ Str.ofString ".") then 1 else if dirs.any (fun d => Txt.startswith file (d ++ Str.ofString "/")) then 1 else 0
noncomputable def lkS (mem : List (Str × Nat)) (name : Str) : Option Nat := (mem.find? fun p => decide (p.1 = name)).map (·.2)
noncomputable def askR (told : Str) (dirs : List Str) (mem : List (Str × Nat)) (file name : Str) : Nat := (lkS mem name).getD (ansS told dirs file name)
noncomputable def askM (told : Str) (dirs : List Str) (mem : List (Str × Nat)) (file name : Str) : List (Str × Nat) := if (lkS mem name).isSome then mem else mem ++ [(name, ansS told dirs file name)]
end Mine
/- C13 -/
namespace Mine
abbrev lc2 (elt t0 i0 t1 i1 : Expr) (scope : Scope) (pos : Pos) : Expr := .ListComp elt [⟨t0, i0, [], 0⟩, ⟨t1, i1, [], 0⟩] scope pos
theorem turn2_0 (elt t0 i0 t1 i1 : Expr) (scope : Scope) (pos : Pos) (it acc : Value) (env : Env) :
    compTurn (lc2 elt t0 i0 t1 i1 scope pos) 0 it acc env = (standAt i0.pos >>= fun _ => pyNext it >>= fun r => match r with
      | none => pure (.done .next)
      | some v => letOwnedTupleGo t0 it v >>= fun _ => assign t0 env v >>= fun _ =>
        (eval i1 env >>= fun x => standAt i1.pos >>= fun _ => foldedSetIterable i1 env x >>= fun x => holding [x] (pyIter x) >>= fun it' => runOwn (.compStart (lc2 elt t0 i0 t1 i1 scope pos) 1 it' acc env) env >>= fun _ => 
          again (.compLoop (lc2 elt t0 i0 t1 i1 scope pos) 0 it acc env))) := by rfl
theorem turn2_1 (elt t0 i0 t1 i1 : Expr) (scope : Scope) (pos : Pos) (it acc : Value) (env : Env) :
    compTurn (lc2 elt t0 i0 t1 i1 scope pos) 1 it acc env = (standAt i1.pos >>= fun _ => pyNext it >>= fun r => match r with
      | none => pure (.done .next)
      | some v => letOwnedTupleGo t1 it v >>= fun _ => assign t1 env v >>= fun _ =>
        (eval elt env >>= fun x => call (.builtin "list.append") [acc, x] >>= fun _ => pure ()) >>= fun _ =>
          again (.compLoop (lc2 elt t0 i0 t1 i1 scope pos) 1 it acc env)) := by rfl
section
variable {w : World} {A : Around} {E : Value → Shared → Prop} {s : Shared} {R : Result → Shared → Prop}
theorem start2_1 {elt i0 i1 : Expr} {x y : Str} {px py : Pos} {scope : Scope} {pos : Pos} {it acc : Value} {env : Env}
    (h0 : codeAny (model PG w) A (.compLoop (lc2 elt (.Name x px) i0 (.Name y py) i1 scope pos) 1 it acc env) R s)
    (h : wpAny (model PG w) A (pyIter it) (fun it' s' => codeAny (model PG w) A (.compLoop (lc2 elt (.Name x px) i0 (.Name y py) i1 scope pos) 1 it' acc env) R s') noE s) :
    codeAny (model PG w) A (.compStart (lc2 elt (.Name x px) i0 (.Name y py) i1 scope pos) 1 it acc env) R s := by
  refine codeAny_of_tree ?_
  show wpAny _ _ ((compStart (lc2 elt (.Name x px) i0 (.Name y py) i1 scope pos) 1 it acc env).onRaise (fun x => do noteFrame x env; standAt theWindowsPlace)) _ _ s
  refine wpAny_notedAt ?_
  unfold compStart
  show wpAny _ _ (ask >>= _) _ _ s
  refine wpAny_bind (wpAny_askSetting (wpAny_ite ?_))
  split
  · first
      | exact wpAny_bind (wpAny_pure (wpAny_pure (And.intro rfl h0)))
      | exact wpAny_pure (And.intro rfl h0)
  · refine wpAny_bind (wpAny_rule ?_)
    show wpAny _ _ (standAt i1.pos >>= _) _ _ s
    exact wpAny_bind (wpAny_standAt (wpAny_bind (wpAny_mono h (fun it' s' h' => wpAny_pure (And.intro rfl h')) fun _ _ x => x.elim)))
/-- the inner loop -/
theorem loop2_1 {elt i0 i1 : Expr} {x y : Str} {px py : Pos} {scope : Scope} {pos : Pos} {it acc : Value} {env : Env} (I : Nat → Shared → Prop)
    (turn : ∀ n s, I n s → wpAny (model PG w) A (pyNext it) (fun r s₁ => match r with
      | none => R (.ok .next) s₁
      | some v => wpAny (model PG w) A (assign (.Name y py) env v) (fun _ s₂ => wpAny (model PG w) A (eval elt env) (fun x s₃ =>
          wpAny (model PG w) A (call (.builtin "list.append") [acc, x]) (fun _ s₄ => ∃ m, m < n ∧ I m s₄) noE s₃) noE s₂) noE s₁) noE s)
    (n : Nat) (h : I n s) :
    codeAny (model PG w) A (.compLoop (lc2 elt (.Name x px) i0 (.Name y py) i1 scope pos) 1 it acc env) R s := by
  refine codeAny_loop rfl I (fun n s hI => ?_) n h
  show wpAny _ _ ((compTurn (lc2 elt (.Name x px) i0 (.Name y py) i1 scope pos) 1 it acc env).onRaise (fun x => do noteFrame x env; theTreesLotGoes x)) _ _ s
  refine wpAny_noted ?_
  rw [turn2_1]
  refine wpAny_bind (wpAny_standAt (wpAny_bind (wpAny_mono (turn n s hI) (fun r s₁ h₁ => ?_) fun _ _ h' => h'.elim)))
  cases r with
  | none => exact wpAny_pure h₁
  | some v =>
    refine wpAny_bind (wpAny_of_eq (a := ()) rfl ?_)
    exact wpAny_bind (wpAny_mono h₁ (fun _ s₂ h₂ => wpAny_bind (wpAny_bind (wpAny_mono h₂ (fun x s₃ h₃ => wpAny_bind (wpAny_mono h₃
      (fun _ s₄ h₄ => wpAny_pure (wpAny_pure ⟨rfl, h₄⟩)) fun _ _ h' => h'.elim)) fun _ _ h' => h'.elim))) fun _ _ h' => h'.elim)
/-- the outer loop -/
theorem loop2_0 {elt i0 i1 : Expr} {x y : Str} {px py : Pos} {scope : Scope} {pos : Pos} {it acc : Value} {env : Env} (I : Nat → Shared → Prop) (hs : ∀ v, foldedSetIterable i1 env v = pure v)
    (turn : ∀ n s, I n s → wpAny (model PG w) A (pyNext it) (fun r s₁ => match r with
      | none => R (.ok .next) s₁
      | some v => wpAny (model PG w) A (assign (.Name x px) env v) (fun _ s₂ => wpAny (model PG w) A (eval i1 env) (fun v' s₃ =>
          wpAny (model PG w) A (pyIter v') (fun it' s₄ => codeAny (model PG w) A (.compStart (lc2 elt (.Name x px) i0 (.Name y py) i1 scope pos) 1 it' acc env) (fun r s' => r = .ok .next ∧ ∃ m, m < n ∧ I m s') s₄) noE s₃) noE s₂) noE s₁) noE s)
    (n : Nat) (h : I n s) :
    codeAny (model PG w) A (.compLoop (lc2 elt (.Name x px) i0 (.Name y py) i1 scope pos) 0 it acc env) R s := by
  refine codeAny_loop rfl I (fun n s hI => ?_) n h
  show wpAny _ _ ((compTurn (lc2 elt (.Name x px) i0 (.Name y py) i1 scope pos) 0 it acc env).onRaise (fun x => do noteFrame x env; theTreesLotGoes x)) _ _ s
  refine wpAny_noted ?_
  rw [turn2_0]
  refine wpAny_bind (wpAny_standAt (wpAny_bind (wpAny_mono (turn n s hI) (fun r s₁ h₁ => ?_) fun _ _ h' => h'.elim)))
  cases r with
  | none => exact wpAny_pure h₁
  | some v =>
    refine wpAny_bind (wpAny_of_eq (a := ()) rfl ?_)
    refine wpAny_bind (wpAny_mono h₁ (fun _ s₂ h₂ => ?_) fun _ _ h' => h'.elim)
    refine wpAny_bind (wpAny_mono h₂ (fun v' s₃ h₃ => ?_) fun _ _ h' => h'.elim)
    refine wpAny_bind (wpAny_standAt ?_)
    refine wpAny_bind (wpAny_of_eq (hs v') ?_)
    refine wpAny_bind (wpAny_holding (wpAny_mono h₃ (fun it' s₄ h₄ => ?_) fun _ _ h' => h'.elim))
    refine wpAny_bind (wpAny_runOwn ?_)
    show codeAny _ A _ _ _
    refine codeAny_mono h₄ fun r s' hr => ?_
    obtain ⟨rfl, hr⟩ := hr
    exact wpAny_pure ⟨rfl, hr⟩
end
end Mine
/- C14 -/
namespace Mine
noncomputable def StrP (xs : List Str) (i : Nat) (v : Value) : Prop := ∃ z t, xs[i]? = some z ∧ v = Value.str z t
noncomputable def flat2 (hs sg : List Str) : List Str := hs.flatMap fun a => sg.map fun b => a ++ b
theorem flat2_succ {hs sg : List Str} {i : Nat} {a : Str} (h : hs[i]? = some a) : flat2 (hs.take (i + 1)) sg = flat2 (hs.take i) sg ++ sg.map fun b => a ++ b := by
  unfold flat2
  rw [List.take_add_one, h]; simp
noncomputable def ItPF (w : World) (A : Around) (s : Shared) (n : Nat) (P : Nat → Value → Prop) (xv : Value) (s₁ : Shared) : Prop := Keeps s s₁ ∧ ∃ src, (∀ b ∈ src, s.heap.get? b = none) ∧ Iters w A s₁ xv n P src
section
variable {w : World} {A : Around} {E : Value → Shared → Prop}
theorem comp2_core {elt i0 i1 : Expr} {x y : Str} {px py : Pos} {scope : Scope} {cl : List (Str × Addr)} {pos : Pos} {env : Env} {s s₂ : Shared} {I : Addr} {fp wr : List Addr} {hs sg : List Str}
    {St : Nat → Heap → Prop} (W : Walks PG w A I fp wr hs.length (StrP hs) St) (hz1 : hs.length ≤ 100) (hz2 : sg.length ≤ 100) {RR : Value → Addr → Result → Shared → Prop}
    (hcell : ∀ q ∈ scope.names, q.2 ≠ .cell) (hlx : scope.names.lookup x = some .local) (hly : scope.names.lookup y = some .local) (hxy : x ≠ y) (hkind : scope.kind = .function) (hst : St 0 s₂.heap) (hfp : ∀ b : Nat, b ∈ fp → b < s₂.heap.objs.size)
    (hB : Kp s.heap s₂.heap) (hwr : ∀ b ∈ wr, s.heap.get? b = none)
    (hf : ∀ C v, foldedSetIterable i1 (cEnv scope cl C env) v = pure v)
    (h2 : ∀ B h₃ tk₃ C m, Kp s.heap B → Fr B C h₃ m → wpAny (model PG w) A (eval i1 (cEnv scope cl C env)) (ItPF w A { s₂ with heap := h₃, toks := tk₃ } sg.length (StrP sg)) noE { s₂ with heap := h₃, toks := tk₃ })
    (h3 : ∀ a b ta tb B h₃ tk₃ C m, a ∈ hs → b ∈ sg → Kp s.heap B → Fr B C h₃ m → m x = some (.str a ta) → m y = some (.str b tb) →
      wpAny (model PG w) A (eval elt (cEnv scope cl C env)) (fun v s₄ => ∃ h' tk t, s₄ = { s₂ with heap := h', toks := tk } ∧ Kp h₃ h' ∧ v = .str (a ++ b) t) noE { s₂ with heap := h₃, toks := tk₃ })
    (hRR : ∀ h' tk D C m', h'.Ns C m' → StrsAt h' D (flat2 hs sg) → s.heap.get? D = none → s.heap.get? C = none → D ≠ C → Kp s.heap h' → RR (.ref D) C (.ok .next) { s₂ with heap := h', toks := tk }) :
    wpAny (model PG w) A (newList []) (fun acc s₃ => wpAny (model PG w) A (newFunctionEnv scope env.globals cl [] env.qual none .none (some env)) (fun cenv s₄ =>
      codeAny (model PG w) A (.compStart (lc2 elt (.Name x px) i0 (.Name y py) i1 scope pos) 0 (.ref I) acc { cenv with scope := relabel scope env }) (RR acc cenv.locals) s₄) E s₃) E s₂ := by
  refine wpAny_newObj_type (newEnv_comp ?_)
  dsimp only
  have hC : (s₂.heap.push { cls := .type "list", dict := none, data := .seq ([] : List Value).toArray }).objs.size = s₂.heap.objs.size + 1 := Heap.size_push ..
  rw [hC, pushCells_none _ _ hcell]
  generalize hH2 : s₂.heap.push { cls := .type "list", dict := none, data := .seq ([] : List Value).toArray } = H2 at hC ⊢
  generalize hH3 : H2.push { cls := .type "dict", data := .dict #[] } = H3
  have hBw : Kp s.heap (hideAll s₂.heap wr) := fun b o e => hideAll_get _ (hB b o e) fun hw => by rw [hwr b hw] at e; cases e
  have hBs : (hideAll s₂.heap wr).objs.size = s₂.heap.objs.size := hideAll_size _ _
  generalize hBB : hideAll s₂.heap wr = BB at hBw hBs
  have hBB' : ∀ b o, BB.get? b = some o → s₂.heap.get? b = some o ∧ b ∉ wr := fun b o e => by
    rw [← hBB] at e
    exact ⟨of_hideAll _ e, fun hw => by rw [hideAll_none _ hw] at e; cases e⟩
  generalize hD : s₂.heap.objs.size = D at *
  have k12 : Kp s₂.heap H2 := fun b o e => hH2 ▸ Heap.get?_push_of_some _ e
  have k23 : Kp H2 H3 := fun b o e => hH3 ▸ Heap.get?_push_of_some _ e
  have hacc : H3.PlainList D #[] := ⟨0, k23 _ _ (by rw [← hH2, ← hD]; exact Heap.get?_push_size _ rfl)⟩
  have hns : H3.Ns (D + 1) fun _ => none := by
    have := Heap.Ns.new H2 (.type "dict")
    rw [hC, hH3] at this; exact this
  have hst1 : St 0 H3 := W.frame _ _ _ hst fun b _ o e => k23 _ _ (k12 b o e)
  have hk1 : Kp BB H3 := fun b o e => k23 _ _ (k12 b o (hBB' b o e).1)
  have fpD : ∀ b : Nat, b ∈ fp → b ≠ D ∧ b ≠ D + 1 := fun b hb => by have := hfp b hb; omega
  have wrD : ∀ b : Nat, b = D ∨ b = D + 1 → b ∉ wr := fun b hb hw => by
    have h1 := fpD b (W.sub _ hw)
    rcases hb with e | e
    · exact h1.1 e
    · exact h1.2 e
  have hbl : ∀ b o, BB.get? b = some o → @LT.lt Nat _ b D := fun b o e => by rw [← hBs]; exact Heap.lt_size e
  have hkx : (cEnv scope cl (D + 1) env).kindOf x = some .local := lookup_relabel_local hlx
  have hky : (cEnv scope cl (D + 1) env).kindOf y = some .local := lookup_relabel_local hly
  have hkk : (((cEnv scope cl (D + 1) env).scope.kind == .class || ((cEnv scope cl (D + 1) env).scope.kind == .module && (cEnv scope cl (D + 1) env).locals != (cEnv scope cl (D + 1) env).globals)) = false) := by
    have : (cEnv scope cl (D + 1) env).scope.kind = .function := hkind
    rw [this]; rfl
  have loop : ∀ s₃ : Shared, s₃ = { s₂ with heap := H3 } →
      codeAny (model PG w) A (.compLoop (lc2 elt (.Name x px) i0 (.Name y py) i1 scope pos) 0 (.ref I) (.ref D) (cEnv scope cl (D + 1) env)) (RR (.ref D) (D + 1)) s₃ := by
    rintro s₃ rfl
    refine loop2_0 (fun k s' => ∃ h tk m i ys, s' = { s₂ with heap := h, toks := tk } ∧ St i h ∧ h.PlainList D (List.toArray ys) ∧ h.Ns (D + 1) m ∧ Kp BB h ∧ StrsL ys (flat2 (hs.take i) sg) ∧ i ≤ hs.length ∧ k = hs.length + 1 - i) (hf _) ?_ (hs.length + 1)
      ⟨_, _, _, 0, [], rfl, hst1, hacc, hns, hk1, by simpa [flat2] using StrsL.nil, Nat.zero_le _, rfl⟩
    rintro k s' ⟨h, tk, m, i, ys, rfl, hsti, hpl, hn, hkb, hys, hi, rfl⟩
    by_cases hlt : i < hs.length
    · refine W.item i _ _ _ hlt hsti fun v h₁ tk₁ hPv hst₁ hk₁ => ?_
      obtain ⟨a, ta, ha, rfl⟩ := hPv
      have hpl₁ : h₁.PlainList D ys.toArray := hpl.at fun o e => hk₁ _ o (wrD _ (.inl rfl)) e
      have hn₁ : h₁.Ns (D + 1) m := hn.at' fun o e => hk₁ _ o (wrD _ (.inr rfl)) e
      have hkb₁ : Kp BB h₁ := fun b o e => hk₁ b o (hBB' b o e).2 (hkb b o e)
      refine wpAny_assign_Name (wpAny_storeName_local hkx hn₁ (fun h₂ hn₂ hs₂ => ?_) hkk)
      have hC₂ : ∀ b o, b ≠ D + 1 → h₁.get? b = some o → h₂.get? b = some o := fun b o hb e => hs₂.extBut b o hb e
      have hst₂ : St (i + 1) h₂ := W.frame _ _ _ hst₁ fun b hb o e => hC₂ b o (fpD b hb).2 e
      have hpl₂ : h₂.PlainList D ys.toArray := hpl₁.at fun o e => hC₂ _ o (Nat.ne_of_lt (Nat.lt_succ_self _)) e
      have hkb₂ : Kp BB h₂ := fun b o e => hC₂ b o (Nat.ne_of_lt (Nat.lt_succ_of_lt (hbl b o e))) (hkb₁ b o e)
      refine wpAny_mono (h2 BB h₂ _ (D + 1) _ hBw ⟨hn₂, hkb₂, by rw [hBs]; exact Nat.le_succ _⟩) (fun v' s₃ h₃ => ?_) fun _ _ e => e
      obtain ⟨⟨h₃, tk₃, rfl, k₃⟩, src', fsrc, it'⟩ := h₃
      refine it' _ _ fun I' fp' wr' St' h₄ tk₄ W' _ _ hst' _ hfs' hk₄ hwr' => ?_
      have k24 : Kp h₂ h₄ := fun b o e => hk₄ b o (k₃ b o e)
      have w2 : ∀ b ∈ wr', h₂.get? b = none := fun b hb => by
        cases e : h₂.get? b with
        | none => rfl
        | some o => have := k₃ b o e; rw [hwr' b hb] at this; cases this
      have hstA : St (i + 1) h₄ := W.frame _ _ _ hst₂ fun b _ o e => k24 b o e
      have hplA : h₄.PlainList D ys.toArray := hpl₂.at fun o e => k24 _ o e
      have aliveD : ∃ o, h₂.get? D = some o := let ⟨_, e⟩ := hpl₂; ⟨_, e⟩
      have aliveC : ∃ o, h₂.get? (D + 1) = some o := let ⟨o, _, _, e, _⟩ := hn₂; ⟨o, e⟩
      have wD : D ∉ wr' := fun hw => by obtain ⟨o, e⟩ := aliveD; rw [w2 _ hw] at e; cases e
      have wC : D + 1 ∉ wr' := fun hw => by obtain ⟨o, e⟩ := aliveC; rw [w2 _ hw] at e; cases e
      have f2 : ∀ b ∈ fp', h₂.get? b = none := fun b hb => (hfs' b hb).elim (w2 b) (fsrc b)
      have fD : ∀ b : Nat, b ∈ fp' → b ≠ D ∧ b ≠ D + 1 := fun b hb => by
        refine ⟨fun e => ?_, fun e => ?_⟩
        · obtain ⟨o, e'⟩ := aliveD; rw [← e, f2 _ hb] at e'; cases e'
        · obtain ⟨o, e'⟩ := aliveC; rw [← e, f2 _ hb] at e'; cases e'
      have inner : ∀ s₅ : Shared, s₅ = { s₂ with heap := h₄, toks := tk₄ } →
          codeAny (model PG w) A (.compLoop (lc2 elt (.Name x px) i0 (.Name y py) i1 scope pos) 1 (.ref I') (.ref D) (cEnv scope cl (D + 1) env)) (fun r s' => r = .ok .next ∧ ∃ m, m < hs.length + 1 - i ∧
            ∃ h tk m_1 i ys, s' = { s₂ with heap := h, toks := tk } ∧ St i h ∧ h.PlainList D (List.toArray ys) ∧ h.Ns (D + 1) m_1 ∧ Kp BB h ∧ StrsL ys (flat2 (hs.take i) sg) ∧ i ≤ hs.length ∧ m = hs.length + 1 - i) s₅ := by
        rintro s₅ rfl
        refine loop2_1 (fun k s' => ∃ h tk m j us, s' = { s₂ with heap := h, toks := tk } ∧ St' j h ∧ h.PlainList D (List.toArray us) ∧ h.Ns (D + 1) m ∧ m x = some (.str a ta) ∧ (∀ b o, b ≠ D → b ≠ D + 1 → h₂.get? b = some o → h.get? b = some o) ∧
            StrsL us (flat2 (hs.take i) sg ++ (sg.take j).map fun b => a ++ b) ∧ j ≤ sg.length ∧ k = sg.length + 1 - j) ?_ (sg.length + 1)
          ⟨_, _, _, 0, ys, rfl, hst', hplA, hn₂.at' fun o e => k24 _ o e, by simp, fun b o _ _ e => k24 b o e, by simpa using hys, Nat.zero_le _, rfl⟩
        rintro k s' ⟨g, tg, mg, j, us, rfl, gst, gpl, gn, gx, gk, gus, hj, rfl⟩
        have hul : us.length ≤ 10000 := by
          rw [gus.1]
          have h1 : ∀ l : List Str, (flat2 l sg).length = l.length * sg.length := fun l => by
            induction l with
            | nil => simp [flat2]
            | cons q l ih => simp only [flat2, List.flatMap_cons, List.length_append, List.length_map, List.length_cons] at ih ⊢; rw [ih, Nat.succ_mul, Nat.add_comm]
          have h2 : (hs.take i).length ≤ 99 := by rw [List.length_take]; omega
          have h3 : (hs.take i).length * sg.length ≤ 99 * 100 := Nat.mul_le_mul h2 hz2
          have h4 : (sg.take j).length ≤ 100 := by rw [List.length_take]; omega
          rw [List.length_append, h1, List.length_map]
          omega
        by_cases hjlt : j < sg.length
        · refine W'.item j _ _ _ hjlt gst fun v g₁ t₁ hPv gst₁ gk₁ => ?_
          obtain ⟨b, tb, hb, rfl⟩ := hPv
          refine wpAny_assign_Name (wpAny_storeName_local hky (gn.at' fun o e => gk₁ _ o wC e) (fun g₂ gn₂ gs₂ => ?_) hkk)
          have gC : ∀ b o, b ≠ D + 1 → g₁.get? b = some o → g₂.get? b = some o := fun b o hb e => gs₂.extBut b o hb e
          have gkb : Kp BB g₂ := fun b o e => gC b o (Nat.ne_of_lt (Nat.lt_succ_of_lt (hbl b o e))) (gk₁ b o (fun hw => by have := hkb₂ b o e; rw [w2 b hw] at this; cases this)
            (gk b o (Nat.ne_of_lt (hbl b o e)) (Nat.ne_of_lt (Nat.lt_succ_of_lt (hbl b o e))) (hkb₂ b o e)))
          refine wpAny_mono (h3 a b ta tb BB g₂ _ (D + 1) _ (List.mem_of_getElem? ha) (List.mem_of_getElem? hb) hBw ⟨gn₂, gkb, by rw [hBs]; exact Nat.le_succ _⟩ ?_ ?_) (fun u s₆ h₆ => ?_) fun _ _ e => e
          · rw [if_neg hxy]; exact gx
          · rw [if_pos rfl]
          obtain ⟨g₃, t₃, tu, rfl, gk₃, rfl⟩ := h₆
          have gpl₃ : g₃.PlainList D us.toArray := gpl.at fun o e => gk₃ _ o (gC _ o (Nat.ne_of_lt (Nat.lt_succ_self _)) (gk₁ _ o wD e))
          refine wpAny_list_append_plain (hsz := by rw [sizeLine_eq]; simp; omega) gpl₃ fun g₄ gl₄ gs₄ => ?_
          have g4 : ∀ b : Nat, b ≠ D → ∀ o, g₃.get? b = some o → g₄.get? b = some o := fun b hb o e => gs₄.extBut b o hb e
          refine ⟨sg.length + 1 - (j + 1), by omega, g₄, _, _, j + 1, us ++ [.str (a ++ b) tu], rfl, ?_, by simpa using gl₄, (gn₂.at' fun o e => gk₃ _ o e).at' fun o e => g4 _ (Nat.succ_ne_self _) o e, ?_, ?_, ?_, hjlt, rfl⟩
          · exact W'.frame _ _ _ gst₁ fun b hb o e => g4 b (fD b hb).1 o (gk₃ b o (gC b o (fD b hb).2 e))
          · rw [if_neg hxy]; exact gx
          · intro b o hbD hbC e
            exact g4 b hbD o (gk₃ b o (gC b o hbC (gk₁ b o (fun hw => by rw [w2 b hw] at e; cases e) (gk b o hbD hbC e))))
          · rw [List.take_add_one, hb]
            simp only [Option.toList_some, List.map_append, List.map_cons, List.map_nil, ← List.append_assoc]
            exact StrsL.snoc gus ⟨_, rfl⟩
        · have hjn : j = sg.length := by omega
          refine W'.done _ _ _ (hjn ▸ gst) fun g₁ t₁ gk₁ => ?_
          refine ⟨rfl, hs.length + 1 - (i + 1), by omega, g₁, t₁, mg, i + 1, us, rfl, ?_, gpl.at fun o e => gk₁ _ o wD e, gn.at' fun o e => gk₁ _ o wC e, ?_, ?_, hlt, rfl⟩
          · exact W.frame _ _ _ hst₂ fun b hb o e => gk₁ b o (fun hw => by rw [w2 b hw] at e; cases e) (gk b o (fpD b hb).1 (fpD b hb).2 e)
          · intro b o e
            have e2 := hkb₂ b o e
            exact gk₁ b o (fun hw => by rw [w2 b hw] at e2; cases e2) (gk b o (Nat.ne_of_lt (hbl b o e)) (Nat.ne_of_lt (Nat.lt_succ_of_lt (hbl b o e))) e2)
          · rw [flat2_succ ha]
            rw [hjn, List.take_of_length_le (Nat.le_refl _)] at gus; exact gus
      exact start2_1 (inner _ rfl) (W'.self 0 _ _ _ hst' (inner _ rfl))
    · have hin : i = hs.length := by omega
      refine W.done _ _ _ (hin ▸ hsti) fun h₁ tk₁ hk₁ => ?_
      have hpl₁ : h₁.PlainList D ys.toArray := hpl.at fun o e => hk₁ _ o (wrD _ (.inl rfl)) e
      refine hRR h₁ tk₁ D (D + 1) m (hn.at' fun o e => hk₁ _ o (wrD _ (.inr rfl)) e) ⟨ys, hpl₁, ?_⟩ ?_ ?_ (Nat.ne_of_lt (Nat.lt_succ_self _)) fun b o e => ?_
      · rw [hin, List.take_of_length_le (Nat.le_refl _)] at hys; exact hys
      · cases e : s.heap.get? D with
        | none => rfl
        | some o => exact absurd (Heap.lt_size (hB _ _ e)) (by rw [hD]; exact Nat.lt_irrefl _)
      · cases e : s.heap.get? (D + 1) with
        | none => rfl
        | some o => exact absurd (Heap.lt_size (hB _ _ e)) (by rw [hD]; exact Nat.not_lt.mpr (Nat.le_succ _))
      · exact hk₁ b o (fun hw => by rw [hwr b hw] at e; cases e) (hkb b o (hBw b o e))
  exact codeAny_compStart_list (loop _ rfl) (W.self 0 _ _ _ hst1 (loop _ rfl))
theorem comp2_assign {elt i0 i1 : Expr} {x y z : Str} {px py pz : Pos} {scope : Scope} {cl : List (Str × Addr)} {pos spos : Pos} {env : Env} {s : Shared} {Q : Flow → Shared → Prop} {m : Str → Option Value} (hs sg : List Str)
    (hz1 : hs.length ≤ 100) (hz2 : sg.length ≤ 100)
    (hsw : swapsWith (lc2 elt (.Name x px) i0 (.Name y py) i1 scope pos) (some (.Name z pz)) spos.line env = pure true)
    (hclos : closureFor scope env = pure cl) (hcell : ∀ q ∈ scope.names, q.2 ≠ .cell) (hlx : scope.names.lookup x = some .local) (hly : scope.names.lookup y = some .local) (hxy : x ≠ y) (hkind : scope.kind = .function)
    (hnames : ∀ y ∈ scope.names, y.2 = .local → scope.names.lookup y.1 = some .local)
    (hy : env.kindOf z = some .local) (hp : (env.scope.kind == .class || (env.scope.kind == .module && env.locals != env.globals)) = false) (hn : s.heap.Ns env.locals m)
    (hf0 : ∀ v, foldedSetIterable i0 env v = pure v) (hf : ∀ C v, foldedSetIterable i1 (cEnv scope cl C env) v = pure v)
    (h1 : wpAny (model PG w) A (eval i0 env) (ItP w A s hs.length (StrP hs)) E s)
    (h2 : ∀ B h₃ tk₃ C m, Kp s.heap B → Fr B C h₃ m → wpAny (model PG w) A (eval i1 (cEnv scope cl C env)) (ItPF w A { s with heap := h₃, toks := tk₃ } sg.length (StrP sg)) noE { s with heap := h₃, toks := tk₃ })
    (h3 : ∀ a b ta tb B h₃ tk₃ C m, a ∈ hs → b ∈ sg → Kp s.heap B → Fr B C h₃ m → m x = some (.str a ta) → m y = some (.str b tb) →
      wpAny (model PG w) A (eval elt (cEnv scope cl C env)) (fun v s₄ => ∃ h' tk t, s₄ = { s with heap := h', toks := tk } ∧ Kp h₃ h' ∧ v = .str (a ++ b) t) noE { s with heap := h₃, toks := tk₃ })
    (hQ : ∀ h' tk D, StrsAt h' D (flat2 hs sg) → s.heap.get? D = none → h'.Ns env.locals (fun q => if q = z then some (.ref D) else m q) → (∀ b o, b ≠ env.locals → s.heap.get? b = some o → h'.get? b = some o) → Q .next { s with heap := h', toks := tk }) :
    wpAny (model PG w) A (exec (.Assign [.Name z pz] (lc2 elt (.Name x px) i0 (.Name y py) i1 scope pos) spos) env) Q E s := by
  rw [exec_Assign_Name_used _ _ _ _ hsw]
  refine wpAny_bind (wpAny_standAt (wpAny_bind ?_))
  show wpAny _ A (do let _ ← comprehension (lc2 elt (.Name x px) i0 (.Name y py) i1 scope pos) scope env _ (newList []) false (eval i0 env) (some (assign (.Name z pz) env))) _ _ s
  refine wpAny_bind (wpAny_mono (wpAny_comprehension_free (use := some (assign (.Name z pz) env)) (Q := fun _ s' => Q .next s') rfl hf0 hclos hkind hnames
    (wpAny_mono h1 (fun xv s₁ h₁ => ?_) fun _ _ e => e)) (fun _ s' hq => wpAny_pure (wpAny_pure hq)) fun _ _ e => e)
  obtain ⟨⟨h₁, tk₁, rfl, k₁⟩, src, it⟩ := h₁
  refine it _ _ fun I fp wr St h' tk W _ _ hst hfp _ hk hwr => ?_
  refine comp2_core (s := s) (s₂ := { s with heap := h', toks := tk }) (RR := fun acc C => compPost (model PG w) A E (some (assign (.Name z pz) env)) (fun _ s' => Q .next s') acc C) W hz1 hz2 hcell hlx hly hxy hkind hst hfp (Kp.tr k₁ hk) (fun b hb => ?_) hf h2 h3 ?_
  · cases e : s.heap.get? b with
    | none => rfl
    | some o => have := k₁ _ _ e; rw [hwr b hb] at this; cases this
  · intro h₂ tk₂ D C m' hnC hS fD fC hDC hk₂
    have hL : ∃ o, s.heap.get? env.locals = some o := let ⟨o, _, _, ho, _⟩ := hn; ⟨o, ho⟩
    obtain ⟨oL, hoL⟩ := hL
    have hLC : env.locals ≠ C := by rintro rfl; rw [fC] at hoL; cases hoL
    have hLD : env.locals ≠ D := by intro e; rw [e, fD] at hoL; cases hoL
    show wpAny _ A (assign (.Name z pz) env (.ref D)) _ _ _
    refine wpAny_assign_Name (wpAny_storeName_local hy (hn.keeps hk₂) (fun h₃ hn₃ hs₃ => ?_) hp)
    refine ⟨m', hnC.sameBut hs₃ (Ne.symm hLC), fun h₄ hs₄ => ?_⟩
    obtain ⟨us, hus, hsu⟩ := hS
    refine hQ h₄ _ D ⟨us, (hus.extBut hs₃.extBut (Ne.symm hLD)).extBut hs₄.extBut hDC, hsu⟩ fD (hn₃.sameBut hs₄ hLC) fun b o hb e => ?_
    exact hs₄.extBut b o (by rintro rfl; rw [fC] at e; cases e) (hs₃.extBut b o hb (hk₂ b o e))
end
end Mine
/- C15 -/
namespace Mine
theorem alive_ne {h : Heap} {a b : Nat} {o : Obj} (ha : h.get? a = none) (hb : h.get? b = some o) : @Ne Nat a b := fun e => by rw [e, hb] at ha; cases ha
/-- the frame and the ledger behind a change of the frame alone, with new things -/
theorem Fr.but {h₀ h h' : Heap} {L : Addr} {m m' : Str → Option Value} (F : Fr h₀ L h m) (hn : h'.Ns L m') (k : ∀ b o, b ≠ L → h.get? b = some o → h'.get? b = some o) : Fr h₀ L h' m' :=
  ⟨hn, fun b o e => k b o (fun hb => by subst hb; have h1 : @LT.lt Nat _ b h₀.objs.size := Heap.lt_size e; exact absurd F.above (Nat.not_le.mpr h1)) (F.keep b o e), F.above⟩
theorem News.but {h₀ h h' : Heap} {L : Addr} {news : List (Addr × Obj)} (N : News h₀ L h news) (k : ∀ b o, b ≠ L → h.get? b = some o → h'.get? b = some o) : News h₀ L h' news := fun p hp => ⟨k _ _ (N p hp).2.1 (N p hp).1, (N p hp).2⟩
theorem News.addB {h₀ h h' : Heap} {L : Addr} {m : Str → Option Value} {news : List (Addr × Obj)} {D : Addr} {o : Obj} (F : Fr h₀ L h m) (N : News h₀ L h news) (k : ∀ b o, b ≠ L → h.get? b = some o → h'.get? b = some o) (hf : h.get? D = none) (hD : h'.get? D = some o) :
    News h₀ L h' ((D, o) :: news) := by
  refine News.cons ⟨hD, fun e => ?_, ?_⟩ (News.but N k)
  · obtain ⟨oL, _, _, hoL, _⟩ := F.ns
    have e' : D = L := e
    rw [e', hoL] at hf; cases hf
  · cases e : h₀.get? D with
    | none => rfl
    | some o' => have := F.keep _ _ e; rw [hf] at this; cases this
/-- the objects of a reader -/
noncomputable def rdNews (w : World) (a : RdA) (told : Str) (tt t1 t2 t3 : Tok) (vs : List Value) (n : Nat) (o : Obj) : List (Addr × Obj) :=
  [(a.ds, W.listOf vs.toArray n), (a.x, instObj 212 a.dx), (a.dx, dictOf (rdEs w a.ms a.ds a.ig t1 t2 t3) 3), (a.ms, set1O w told tt), (a.ig, o)]
theorem Rd.open {w : World} {h : Heap} {a : RdA} {told : Str} {dirs : List Str} {mem : List (Str × Nat)} (r : Rd w h a told dirs mem) :
    ∃ tt t1 t2 t3 vs n o kvs, (∀ p ∈ rdNews w a told tt t1 t2 t3 vs n o, h.get? p.1 = some p.2) ∧ StrsL vs dirs ∧ o.IsDictOf (PySem.strKind PG w) kvs ∧ MemL kvs mem := by
  obtain ⟨i, ⟨t1, t2, t3, d⟩, ⟨tt, s⟩, ⟨vs, n, l, hl⟩, ⟨o, kvs, g, hg, hm⟩, _, _⟩ := r
  refine ⟨tt, t1, t2, t3, vs, n, o, kvs, fun p hp => ?_, hl, hg, hm⟩
  simp only [rdNews, List.mem_cons, List.not_mem_nil, or_false] at hp
  rcases hp with rfl | rfl | rfl | rfl | rfl
  · exact l
  · exact i
  · exact d
  · exact s
  · exact g
theorem Rd.make {w : World} {h : Heap} {a : RdA} {told : Str} {dirs : List Str} {mem : List (Str × Nat)} {tt t1 t2 t3 : Tok} {vs : List Value} {n : Nat} {o : Obj} {kvs : List (Str × Value)}
    (hn : ∀ p ∈ rdNews w a told tt t1 t2 t3 vs n o, h.get? p.1 = some p.2) (hl : StrsL vs dirs) (hg : o.IsDictOf (PySem.strKind PG w) kvs) (hm : MemL kvs mem) (nm : (a.ig == sysModules) = false)
    (od : @LT.lt Nat _ a.dx a.x ∧ @LT.lt Nat _ a.x a.ms ∧ @LT.lt Nat _ a.ms a.ds ∧ @LT.lt Nat _ a.ds a.ig) : Rd w h a told dirs mem :=
  ⟨hn _ (.tail _ (.head _)), ⟨t1, t2, t3, hn _ (.tail _ (.tail _ (.head _)))⟩, ⟨tt, hn _ (.tail _ (.tail _ (.tail _ (.head _))))⟩, ⟨vs, n, hn _ (.head _), hl⟩, ⟨o, kvs, hn _ (.tail _ (.tail _ (.tail _ (.tail _ (.head _))))), hg, hm⟩, nm, od⟩
theorem rd_addr {w : World} {a : RdA} {told : Str} {tt t1 t2 t3 : Tok} {vs : List Value} {n : Nat} {o : Obj} {p : Addr × Obj} (hp : p ∈ rdNews w a told tt t1 t2 t3 vs n o) : p.1 ∈ a.all := by
  simp only [rdNews, List.mem_cons, List.not_mem_nil, or_false] at hp
  simp only [RdA.all, List.mem_cons, List.not_mem_nil, or_false]
  rcases hp with rfl | rfl | rfl | rfl | rfl <;> simp
section
variable {w : World} {A : Around} {E : Value → Shared → Prop} {s : Shared} {Q : Value → Shared → Prop} {h₀ : Heap} {L : Addr} {m : Str → Option Value} {news : List (Addr × Obj)}
theorem newListF {vs : List Value} (F : Fr h₀ L s.heap m) (N : News h₀ L s.heap news)
    (h : ∀ l h', Fr h₀ L h' m → News h₀ L h' ((l, W.listOf vs.toArray 0) :: news) → (∀ p ∈ news, p.1 < l) → Kp s.heap h' → s.heap.get? l = none → Q (.ref l) { s with heap := h' }) (hsz : vs.length ≤ sizeLine := by size_fits) :
    wpAny (model PG w) A (newList vs) Q E s :=
  wpAny_newObj_type (h _ _ (F.push _) (N.push F _) (fun p hp => Heap.lt_size (N p hp).1) (fun _ _ e => Heap.get?_push_of_some _ e) (none_of_size (Nat.le_refl _))) (by show vs.toArray.size ≤ sizeLine; rw [List.size_toArray]; exact hsz)
end
abbrev alphaS : Str := Str.ofString "ABCDEFGHIJKLMNOPQRSTUVWXYZabcdefghijklmnopqrstuvwxyz0123456789--"
noncomputable def headsS (c : Str) : Nat → List Str
  | 0 => [Str.ofString ""]
  | k + 1 => flat2 (headsS c k) [Str.ofString "/", c]
theorem len_app' (a b : Str) : (a ++ b).length = a.length + b.length := by show (a.cps ++ b.cps).size = _; simp; rfl
theorem heads_len (c : Str) (hc : c.length = 1) : ∀ k, ∀ a ∈ headsS c k, a.length = k
  | 0, a, ha => by
    simp only [headsS, List.mem_singleton] at ha; subst ha; decide +kernel
  | k + 1, a, ha => by
    simp only [headsS, flat2, List.mem_flatMap, List.mem_map, List.mem_cons, List.not_mem_nil, or_false] at ha
    obtain ⟨b, hb, d, hd, rfl⟩ := ha
    have h1 := heads_len c hc k b hb
    have h2 : d.length = 1 := by
      rcases hd with rfl | rfl
      · decide +kernel
      · exact hc
    rw [len_app', h1, h2]
theorem heads_num (c : Str) : ∀ k, (headsS c k).length = 2 ^ k
  | 0 => rfl
  | k + 1 => by
    have h := heads_num c k
    have h1 : ∀ (l sg : List Str), (flat2 l sg).length = l.length * sg.length := fun l sg => by
      induction l with
      | nil => simp [flat2]
      | cons q l ih => simp only [flat2, List.flatMap_cons, List.length_append, List.length_map, List.length_cons] at ih ⊢; rw [ih, Nat.succ_mul, Nat.add_comm]
    rw [headsS, h1, h]; rfl
end Mine
/- C16 -/
namespace Mine
theorem MemL.nil : MemL [] [] := ⟨rfl, fun i k r h => by simp at h⟩
theorem MemL.tail {p : Str × Value} {kvs : List (Str × Value)} {q : Str × Nat} {mem : List (Str × Nat)} (h : MemL (p :: kvs) (q :: mem)) : (∃ t, p = (q.1, Value.int (q.2 : Int) t)) ∧ MemL kvs mem := by
  obtain ⟨hl, hx⟩ := h
  refine ⟨?_, by simpa using hl, fun i k r hi => ?_⟩
  · obtain ⟨t, e⟩ := hx 0 q.1 q.2 (by simp)
    exact ⟨t, by simpa using e⟩
  · obtain ⟨t, e⟩ := hx (i + 1) k r (by simpa using hi)
    exact ⟨t, by simpa using e⟩
theorem MemL.snoc {kvs : List (Str × Value)} {mem : List (Str × Nat)} {k : Str} {r : Nat} {t : Tok} (h : MemL kvs mem) : MemL (kvs ++ [(k, Value.int (r : Int) t)]) (mem ++ [(k, r)]) := by
  refine ⟨by simp [h.1], fun i k' r' hi => ?_⟩
  rcases Nat.lt_trichotomy i mem.length with hlt | rfl | hlt
  · rw [List.getElem?_append_left hlt] at hi
    obtain ⟨t', e⟩ := h.2 i k' r' hi
    exact ⟨t', by rw [List.getElem?_append_left (by rw [h.1]; exact hlt)]; exact e⟩
  · simp at hi; obtain ⟨rfl, rfl⟩ := hi
    exact ⟨t, by rw [← h.1]; simp⟩
  · rw [List.getElem?_eq_none (by simp; omega)] at hi; cases hi
theorem lkS_cons (q : Str × Nat) (mem : List (Str × Nat)) (name : Str) : lkS (q :: mem) name = if q.1 = name then some q.2 else lkS mem name := by
  unfold lkS
  by_cases h : q.1 = name
  · simp [h]
  · simp [h]
theorem mem_some : ∀ {kvs : List (Str × Value)} {mem : List (Str × Nat)} {name : Str} {r : Nat}, MemL kvs mem → lkS mem name = some r → ∃ t, valueAt kvs name = some (.int (r : Int) t)
  | [], [], _, _, _, h => by simp [lkS] at h
  | [], _ :: _, _, _, m, _ => by have := m.1; simp at this
  | _ :: _, [], _, _, m, _ => by have := m.1; simp at this
  | p :: kvs, q :: mem, name, r, m, h => by
    obtain ⟨⟨t, rfl⟩, m'⟩ := m.tail
    rw [lkS_cons] at h
    by_cases e : q.1 = name
    · rw [if_pos e] at h
      cases h
      exact ⟨t, by simp [valueAt, e]⟩
    · rw [if_neg e] at h
      obtain ⟨t', e'⟩ := mem_some m' h
      refine ⟨t', ?_⟩
      rw [← e']; simp [valueAt, e]
theorem mem_none : ∀ {kvs : List (Str × Value)} {mem : List (Str × Nat)} {name : Str}, MemL kvs mem → lkS mem name = none → valueAt kvs name = none
  | [], _, _, _, _ => rfl
  | _ :: _, [], _, m, _ => by have := m.1; simp at this
  | p :: kvs, q :: mem, name, m, h => by
    obtain ⟨⟨t, rfl⟩, m'⟩ := m.tail
    rw [lkS_cons] at h
    by_cases e : q.1 = name
    · rw [if_pos e] at h; cases h
    · rw [if_neg e] at h
      have := mem_none m' h
      rw [← this]; simp [valueAt, e]
/-- what is left behind a change of the memory alone -/
theorem rd_keep {w : World} {h h' : Heap} {a : RdA} {told : Str} {tt t1 t2 t3 : Tok} {vs : List Value} {n : Nat} {o o' : Obj}
    (hrd : ∀ p ∈ rdNews w a told tt t1 t2 t3 vs n o, h.get? p.1 = some p.2) (hk : Kp (hideAll h a.all) h') (hrd' : ∀ p ∈ rdNews w a told tt t1 t2 t3 vs n o', h'.get? p.1 = some p.2) :
    ∀ b ob, b ≠ a.ig → h.get? b = some ob → h'.get? b = some ob := by
  intro b ob hb e
  by_cases hm : b ∈ a.all
  · simp only [RdA.all, List.mem_cons, List.not_mem_nil, or_false] at hm
    have key : ∀ q, (b, q) ∈ rdNews w a told tt t1 t2 t3 vs n o → (b, q) ∈ rdNews w a told tt t1 t2 t3 vs n o' → h'.get? b = some ob := fun q h1 h2 => by
      have e1 := hrd _ h1
      have e2 := hrd' _ h2
      dsimp only at e1 e2
      rw [e1] at e; cases e; exact e2
    rcases hm with rfl | rfl | rfl | rfl | rfl
    · exact key _ (.tail _ (.head _)) (.tail _ (.head _))
    · exact key _ (.tail _ (.tail _ (.head _))) (.tail _ (.tail _ (.head _)))
    · exact key _ (.tail _ (.tail _ (.tail _ (.head _)))) (.tail _ (.tail _ (.tail _ (.head _))))
    · exact key _ (.head _) (.head _)
    · exact absurd rfl hb
  · exact hk b ob (hideAll_get _ e hm)
theorem ForPost.rt {h₀ : Heap} {L : Addr} {s s' : Shared} {its : List (Addr × Obj)} {J : (Str → Option Value) → List (Addr × Obj) → Prop} {Q : Flow → Shared → Prop} {v : Value} (h : Q (.ret v) s') : ForPost h₀ L s its J Q (.ret v) s' := h
end Mine
/- C17 -/
namespace Mine
theorem strsL_are : ∀ {vs : List Value} {xs : List Str}, StrsL vs xs → StrsAre vs xs
  | [], [], _ => .nil
  | [], _ :: _, h => by have := h.1; simp at this
  | _ :: _, [], h => by have := h.1; simp at this
  | v :: vs, x :: xs, h => by
    obtain ⟨t, e⟩ := h.2 0 x rfl
    have e' : v = .str x t := by simpa using e
    subst e'
    exact .cons _ _ (strsL_are ⟨by simpa using h.1, fun i y hy => by obtain ⟨t', e'⟩ := h.2 (i + 1) y (by simpa using hy); exact ⟨t', by simpa using e'⟩⟩)
noncomputable def nmAt (nm : List (List Str)) (i k : Nat) : Str := (nm.getD i []).getD k Str.empty
noncomputable def colS (nm : List (List Str)) (k : Nat) : List Str := nm.map fun row => row.getD k Str.empty
/-- the first place that is like it -/
noncomputable def fstS (nm : List (List Str)) (i k : Nat) : Nat := (colS nm k).findIdx fun z => decide (z = nmAt nm i k)
noncomputable def firstS (nm : List (List Str)) (i k : Nat) (told : Str) : Nat := if told = nmAt nm i k ∨ told = itx k then 7 else fstS nm i k
theorem col_at {nm : List (List Str)} {i k : Nat} (hi : i < nm.length) : (colS nm k)[i]? = some (nmAt nm i k) := by
  unfold colS nmAt
  have e : nm.getD i [] = nm[i] := by rw [List.getD, List.getElem?_eq_getElem hi]; rfl
  rw [List.getElem?_map, List.getElem?_eq_getElem hi, e]; rfl
theorem fst_lt {nm : List (List Str)} {i k : Nat} (hi : i < nm.length) : fstS nm i k < (colS nm k).length ∧ fstS nm i k ≤ i := by
  have hl : i < (colS nm k).length := by simpa [colS] using hi
  have he : (colS nm k)[i] = nmAt nm i k := by
    have := col_at (k := k) hi
    rw [List.getElem?_eq_getElem hl] at this; exact Option.some.inj this
  have h1 : fstS nm i k ≤ i := by
    unfold fstS
    rcases Nat.lt_or_ge i ((colS nm k).findIdx fun z => decide (z = nmAt nm i k)) with h | h
    · have := List.not_of_lt_findIdx h
      simp [he] at this
    · exact h
  exact ⟨Nat.lt_of_le_of_lt h1 hl, h1⟩
theorem fst_eq {nm : List (List Str)} {i k : Nat} (hi : i < nm.length) : nmAt nm (fstS nm i k) k = nmAt nm i k := by
  have h := fst_lt (k := k) hi
  have h2 : fstS nm i k < nm.length := by simpa [colS] using h.1
  have h3 := List.findIdx_getElem (p := fun z => decide (z = nmAt nm i k)) (w := h.1)
  have h4 := col_at (k := k) h2
  rw [List.getElem?_eq_getElem h.1] at h4
  have h5 : (colS nm k)[fstS nm i k] = nmAt nm i k := of_decide_eq_true h3
  rw [← h5]; exact (Option.some.inj h4).symm
theorem fst_ne {nm : List (List Str)} {i k j : Nat} (hi : i < nm.length) (hj : j < fstS nm i k) : nmAt nm j k ≠ nmAt nm i k := by
  have h := fst_lt (k := k) hi
  have h2 : j < nm.length := by have h1 : fstS nm i k < nm.length := by simpa [colS] using h.1
                                omega
  have h4 := col_at (k := k) h2
  have h5 := List.not_of_lt_findIdx hj
  have hl : j < (colS nm k).length := by simpa [colS] using h2
  rw [List.getElem?_eq_getElem hl] at h4
  intro e
  have e2 : (colS nm k)[j] = nmAt nm i k := (Option.some.inj h4).trans e
  simp [e2] at h5
section
variable {w : World} {A : Around} {E : Value → Shared → Prop} {s : Shared} {Q : Value → Shared → Prop}
theorem indexL {D : Addr} {vs : List Value} {xs : List Str} {k : Str} {t : Tok} {j : Nat} (hl : s.heap.PlainList D vs.toArray) (hx : StrsL vs xs) (hj : j < xs.length) (hn : xs.length ≤ 1000) (he : xs[j] = k) (hne : ∀ m (hm : m < j), xs[m]'(by omega) ≠ k)
    (h : ∀ t' tk, Q (.int (j : Int) t') { s with toks := tk }) : wpAny (model PG w) A (call (.builtin "list.index") [.ref D, .str k t]) Q E s := by
  obtain ⟨n, hl⟩ := hl
  have hlen := hx.1
  have hat : ∀ m (hm : m < vs.length), isStrOf k vs[m] = decide (xs[m]'(by omega) = k) := fun m hm => by
    obtain ⟨t', e⟩ := hx.2 m (xs[m]'(by omega)) (by simp)
    rw [List.getElem?_eq_getElem hm] at e
    rw [Option.some.inj e]
    show (xs[m]'(by omega) == k) = _
    by_cases e' : xs[m]'(by omega) = k
    · rw [e']; simp
    · rw [decide_eq_false e']; simpa using e'
  have hT : s.TypeIs (.ref D) "list" := ⟨_, hl, rfl⟩
  have hsm : (j : Int) < 2 ^ 63 - 1 := by
    have h1 : ((2 : Int) ^ 63 - 1) = 9223372036854775807 := by decide
    rw [h1]; omega
  have hM := MeetsSeq.list_index D vs.toArray n (.str k t) (isStrOf k) (fun y hy => eq_isStrOf k t (strsL_are hx) y (by simpa using hy)) j (by simp; omega) hsm (by simp only [List.getElem_toArray]; rw [hat j (by omega)]; simp [he]) (fun m hm hlt => ?_)
  · exact call_meets PySem.F.slot_list_index hT PySem.F.entry_list_index (PySem.F.args_list_index_2 _ _) hM ⟨hl, h _ _⟩
  have hm' : m < vs.length := by simpa using hm
  have := hat m hm'
  simp only [List.getElem_toArray]
  rw [this]; exact decide_eq_false (hne m hlt)
end
theorem strsL_made2 {h₀ h : Heap} {D : Addr} {n : Nat} {ys : List Value} {os : List (List (Addr × Obj))} {xs : List Str} (hx : xs.length = n)
    (M : Made h₀ h D n (fun i y o => o = [] ∧ ∃ x t, xs[i]? = some x ∧ y = .str x t) ys os) : StrsAt h D xs := by
  refine ⟨ys, M.list, by rw [M.len, hx], fun i x hi => ?_⟩
  have hlt : i < n := by
    rcases Nat.lt_or_ge i xs.length with h | h
    · omega
    · rw [List.getElem?_eq_none h] at hi; cases hi
  have hy : ys[i]? = some (ys[i]'(by rw [M.len]; exact hlt)) := by simp [M.len, hlt]
  have ho : os[i]? = some (os[i]'(by rw [M.lens]; exact hlt)) := by simp [M.lens, hlt]
  obtain ⟨_, x', t, h1, h2⟩ := M.each i _ _ hy ho
  rw [hi] at h1; cases h1
  exact ⟨t, by rw [hy, h2]⟩
end Mine
/- C18 -/
namespace Mine
/-- a list of pairs of strs; the tuples lie in tups -/
noncomputable def TupL (vs : List Value) (ps : List (Str × Str)) (tups : List (Addr × Obj)) : Prop :=
  vs.length = ps.length ∧ ∀ (i : Nat) (k v : Str), ps[i]? = some (k, v) → ∃ T t t', vs[i]? = some (Value.ref T) ∧ (T, tupO [.str k t, .str v t']) ∈ tups
theorem TupL.mono {vs : List Value} {ps : List (Str × Str)} {tups tups' : List (Addr × Obj)} (h : TupL vs ps tups) (hs : ∀ p ∈ tups, p ∈ tups') : TupL vs ps tups' :=
  ⟨h.1, fun i k v hi => let ⟨T, t, t', a, b⟩ := h.2 i k v hi; ⟨T, t, t', a, hs _ b⟩⟩
theorem TupL.snoc {vs : List Value} {ps : List (Str × Str)} {tups : List (Addr × Obj)} {T : Addr} {k v : Str} {t t' : Tok} (h : TupL vs ps tups) (hT : (T, tupO [.str k t, .str v t']) ∈ tups) : TupL (vs ++ [.ref T]) (ps ++ [(k, v)]) tups := by
  refine ⟨by simp [h.1], fun i k' v' hi => ?_⟩
  rcases Nat.lt_trichotomy i ps.length with hlt | rfl | hlt
  · rw [List.getElem?_append_left hlt] at hi
    obtain ⟨T', a, b, c, d⟩ := h.2 i k' v' hi
    exact ⟨T', a, b, by rw [List.getElem?_append_left (by rw [h.1]; exact hlt)]; exact c, d⟩
  · simp at hi; obtain ⟨rfl, rfl⟩ := hi
    exact ⟨T, t, t', by rw [← h.1]; simp, hT⟩
  · rw [List.getElem?_eq_none (by simp; omega)] at hi; cases hi
/-- at D there lies a list of these pairs -/
noncomputable def PairsAt (h : Heap) (D : Addr) (ps : List (Str × Str)) : Prop :=
  ∃ vs, h.PlainList D (List.toArray vs) ∧ vs.length = ps.length ∧ ∀ (i : Nat) (k v : Str), ps[i]? = some (k, v) → ∃ T t t', vs[i]? = some (Value.ref T) ∧ h.get? T = some (tupO [.str k t, .str v t'])
noncomputable def mstep (nm du : List (List Str)) (b i : Nat) (st : List (Str × Str) × List Str) (k : Nat) : List (Str × Str) × List Str :=
  if st.2.any (· == nmAt nm i k) then st else (st.1 ++ [(nmAt nm i k, chrOf (nmAt du i k) b)], st.2 ++ [nmAt nm i k])
noncomputable def mrow (nm du : List (List Str)) (b i : Nat) (st : List (Str × Str) × List Str) : Nat → List (Str × Str) × List Str
  | 0 => st
  | j + 1 => mstep nm du b i (mrow nm du b i st j) j
noncomputable def mall (nm du : List (List Str)) (b : Nat) : Nat → List (Str × Str) × List Str
  | 0 => ([(Str.ofString "<string>", Str.ofString "1")], [])
  | n + 1 => mrow nm du b n (mall nm du b n) 8
theorem mrow_zero (nm du : List (List Str)) (b i : Nat) (st : List (Str × Str) × List Str) : mrow nm du b i st 0 = st := by rw [mrow]
theorem mrow_succ (nm du : List (List Str)) (b i : Nat) (st : List (Str × Str) × List Str) (j : Nat) : mrow nm du b i st (j + 1) = mstep nm du b i (mrow nm du b i st j) j := by rw [mrow]
theorem mall_zero (nm du : List (List Str)) (b : Nat) : mall nm du b 0 = ([(Str.ofString "<string>", Str.ofString "1")], []) := by rw [mall]
theorem mall_succ (nm du : List (List Str)) (b n : Nat) : mall nm du b (n + 1) = mrow nm du b n (mall nm du b n) 8 := by rw [mall]
theorem mstep_len (nm du : List (List Str)) (b i : Nat) (st : List (Str × Str) × List Str) (k : Nat) : (mstep nm du b i st k).1.length ≤ st.1.length + 1 ∧ (mstep nm du b i st k).2.length ≤ st.2.length + 1 := by
  unfold mstep; split <;> simp
theorem mrow_len (nm du : List (List Str)) (b i : Nat) (st : List (Str × Str) × List Str) : ∀ j, (mrow nm du b i st j).1.length ≤ st.1.length + j ∧ (mrow nm du b i st j).2.length ≤ st.2.length + j
  | 0 => by rw [mrow_zero]; exact ⟨Nat.le_refl _, Nat.le_refl _⟩
  | j + 1 => by
    have h := mrow_len nm du b i st j
    have h2 := mstep_len nm du b i (mrow nm du b i st j) j
    rw [mrow_succ]; omega
theorem mall_len (nm du : List (List Str)) (b : Nat) : ∀ n, (mall nm du b n).1.length ≤ 1 + 8 * n ∧ (mall nm du b n).2.length ≤ 8 * n
  | 0 => by rw [mall_zero]; simp
  | n + 1 => by
    have h := mall_len nm du b n
    have h2 := mrow_len nm du b n (mall nm du b n) 8
    rw [mall_succ]; omega
/-- the items of a list of lists, all at once -/
theorem LL.rows {h : Heap} {D : Addr} {xss : List (List Str)} (x : LL h D xss) (h8 : ∀ xs ∈ xss, xs.length = 8) : ∃ vs : List Value, h.IsList D vs.toArray ∧ vs.length = xss.length ∧
    ∀ i k, i < xss.length → k < 8 → ∃ a us t, vs[i]? = some (Value.ref a) ∧ h.IsList a (List.toArray us) ∧ us[k]? = some (Value.str (nmAt xss i k) t) := by
  obtain ⟨vs, pl, e0, hit⟩ := x
  refine ⟨vs, pl.isList, e0, fun j k hj hk => ?_⟩
  obtain ⟨a, e, us, q, hu⟩ := hit j xss[j] (by simp [hj])
  have ej : xss.getD j [] = xss[j] := by rw [List.getD, List.getElem?_eq_getElem hj]; rfl
  have hk' : k < xss[j].length := by rw [h8 _ (List.getElem_mem hj)]; exact hk
  obtain ⟨t, et⟩ := hu.2 k xss[j][k] (by simp [hk'])
  exact ⟨a, us, t, e, q.isList, by rw [et, nmAt, ej, List.getD, List.getElem?_eq_getElem hk']; rfl⟩
end Mine
/- C19 -/
namespace Mine
/-- all that lies in H, but what is older than h₀, the frame and ex -/
noncomputable def snapL (h₀ H : Heap) (L : Addr) (ex : List Addr) : List (Addr × Obj) :=
  (List.range H.objs.size).filterMap fun b => if b = L ∨ b ∈ ex ∨ (h₀.get? b).isSome then none else (H.get? b).map fun o => (b, o)
theorem snap_mem {h₀ H : Heap} {L : Addr} {ex : List Addr} {p : Addr × Obj} : p ∈ snapL h₀ H L ex ↔ (p.1 ≠ L ∧ p.1 ∉ ex ∧ h₀.get? p.1 = none ∧ H.get? p.1 = some p.2) := by
  unfold snapL
  rw [List.mem_filterMap]
  constructor
  · rintro ⟨b, hb, e⟩
    by_cases hc : b = L ∨ b ∈ ex ∨ (h₀.get? b).isSome
    · rw [if_pos hc] at e; cases e
    · rw [if_neg hc] at e
      obtain ⟨o, ho, e⟩ := Option.map_eq_some_iff.mp e
      subst e
      refine ⟨fun h => hc (.inl h), fun h => hc (.inr (.inl h)), ?_, ho⟩
      cases e : h₀.get? b with
      | none => rfl
      | some o => exact absurd (.inr (.inr (by rw [e]; rfl))) hc
  · rintro ⟨h1, h2, h3, h4⟩
    refine ⟨p.1, List.mem_range.mpr (Heap.lt_size h4), ?_⟩
    have hn : ¬ (p.1 = L ∨ p.1 ∈ ex ∨ (h₀.get? p.1).isSome) := by
      rintro (h | h | h)
      · exact h1 h
      · exact h2 h
      · rw [h3] at h; cases h
    rw [if_neg hn, h4]
    rfl
/-- what is kept: all of H but the frame and ex -/
noncomputable def KeepBut (L : Addr) (ex : List Addr) (H h : Heap) : Prop := ∀ b o, b ≠ L → b ∉ ex → H.get? b = some o → h.get? b = some o
theorem snap_news {h₀ H : Heap} {L : Addr} {ex : List Addr} : News h₀ L H (snapL h₀ H L ex) := fun p hp => by
  obtain ⟨h1, h2, h3, h4⟩ := snap_mem.mp hp; exact ⟨h4, h1, h3⟩
theorem snap_keep {h₀ H h : Heap} {L : Addr} {ex : List Addr} {m m' : Str → Option Value} (F : Fr h₀ L H m) (F' : Fr h₀ L h m') (N : ∀ p ∈ snapL h₀ H L ex, h.get? p.1 = some p.2) : KeepBut L ex H h := fun b o hL hx e => by
  cases e0 : h₀.get? b with
  | some o' => have := F.keep _ _ e0; rw [e] at this; cases this; exact F'.keep _ _ e0
  | none => exact N (b, o) (snap_mem.mpr ⟨hL, hx, e0, e⟩)
section
variable {w : World} {A : Around} {E : Value → Shared → Prop} {s : Shared}
/-- a block whose element changes what lies at ms -/
theorem comp_evalM {elt iter : Expr} {x : Str} {px : Pos} {scope : Scope} {cl : List (Str × Addr)} {pos : Pos} {env : Env} {Q : Value → Shared → Prop} (n : Nat) (P : Nat → Value → Prop) (ms : List Addr) (J : Nat → List Value → Heap → Prop)
    (hclos : closureFor scope env = pure cl) (hvar : OneVar scope cl env x) (hkind : scope.kind = .function)
    (hnames : ∀ y ∈ scope.names, y.2 = .local → scope.names.lookup y.1 = some .local) (hsz : n ≤ sizeLine)
    (hms : ∀ a ∈ ms, ∃ o, s.heap.get? a = some o)
    (hJ0 : J 0 [] s.heap) (hJ : ∀ i ys h h', J i ys h → (∀ b ∈ ms, ∀ o, h.get? b = some o → h'.get? b = some o) → J i ys h')
    (h1 : wpAny (model PG w) A (eval iter env) (fun xv s₁ => Keeps s s₁ ∧ ∃ src, (∀ b ∈ src, b ∉ ms) ∧ Iters w A s₁ xv n P src) E s)
    (helt : ∀ i v ys B h₃ tk₃ C E', P i v → i < n → ys.length = i → Kp (hideAll s.heap ms) B → (∀ a ∈ ms, B.get? a = none) → B.objs.size ≤ C → C < h₃.objs.size → CF (cEnv scope cl C env) x h₃ (some v) → Kp B h₃ → J i ys h₃ → (∀ a ∈ ms, ∃ o, h₃.get? a = some o) →
      wpAny (model PG w) A (eval elt (cEnv scope cl C env)) (fun y s₄ => ∃ h' tk, s₄ = { s with heap := h', toks := tk } ∧ J (i + 1) (ys ++ [y]) h' ∧ (∀ b o, b ∉ ms → h₃.get? b = some o → h'.get? b = some o) ∧ (∀ a ∈ ms, ∃ o, h'.get? a = some o)) E' { s with heap := h₃, toks := tk₃ })
    (hQ : ∀ h' tk D ys, h'.PlainList D (List.toArray ys) → s.heap.get? D = none → ys.length = n → J n ys h' → (∀ b o, b ∉ ms → s.heap.get? b = some o → h'.get? b = some o) → (∀ a ∈ ms, ∃ o, h'.get? a = some o) → Q (.ref D) { s with heap := h', toks := tk })
    (hs : ∀ x, foldedSetIterable iter env x = pure x := by intro _; rfl) :
    wpAny (model PG w) A (eval (.ListComp elt [⟨.Name x px, iter, [], 0⟩] scope pos) env) Q E s := by
  rw [eval_ListComp]
  refine wpAny_comprehension_free (use := none) rfl hs hclos hkind hnames (wpAny_mono h1 (fun xv s₁ h₁ => ?_) fun _ _ e => e)
  obtain ⟨⟨h₁, tk₁, rfl, k₁⟩, src, hsm, it⟩ := h₁
  refine it _ _ fun I fp wr St h' tk W hl' _ hst hfp hfs hk hwr => ?_
  have hl : ∀ i h, St i h → ∀ b ∈ wr, ∃ o, h.get? b = some o := fun i h st b hb => let ⟨o, e, _⟩ := hl' i h st b hb; ⟨o, e⟩
  have k2 : Kp s.heap h' := Kp.tr k₁ hk
  have hwr' : ∀ b ∈ wr, s.heap.get? b = none := fun b hb => none_back k₁ (hwr b hb)
  have msw : ∀ b ∈ ms, b ∉ wr := fun b hb hw => by obtain ⟨o, e⟩ := hms b hb; rw [hwr' b hw] at e; cases e
  have msl : ∀ b : Nat, b ∈ ms → b < h'.objs.size := fun b hb => by obtain ⟨o, e⟩ := hms b hb; exact Heap.lt_size (k2 _ _ e)
  have nown : ∀ b : Nat, b < h'.objs.size → ¬ Own scope env x h'.objs.size b := fun b hb ho => by
    rcases ho with e | e | ⟨e, _⟩ <;> omega
  have hBk : Kp (hideAll s.heap ms) (hideAll h' (wr ++ ms)) := fun b o e => by
    have e1 := of_hideAll _ e
    have hm : b ∉ ms := fun hm => by rw [hideAll_none _ hm] at e; cases e
    refine hideAll_get _ (k2 b o e1) fun hw => ?_
    rcases List.mem_append.mp hw with hw | hw
    · rw [hwr' b hw] at e1; cases e1
    · exact hm hw
  have hBn : ∀ a ∈ ms, (hideAll h' (wr ++ ms)).get? a = none := fun a ha => hideAll_none _ (List.mem_append_right _ ha)
  have hBs : (hideAll h' (wr ++ ms)).objs.size = h'.objs.size := hideAll_size _ _
  have hBo : ∀ b o, (hideAll h' (wr ++ ms)).get? b = some o → h'.get? b = some o ∧ b ∉ wr ∧ b ∉ ms := fun b o e => by
    refine ⟨of_hideAll _ e, fun hw => ?_, fun hw => ?_⟩
    · rw [hideAll_none _ (List.mem_append_left _ hw)] at e; cases e
    · rw [hideAll_none _ (List.mem_append_right _ hw)] at e; cases e
  generalize hideAll h' (wr ++ ms) = BB at *
  refine comp_core (s₂ := { s with heap := h', toks := tk }) (E := E) (RR := fun acc C => compPost (model PG w) A E none Q acc C) (px := px) (iter := iter) (pos := pos) (elt := elt) W hsz hl hvar hkind hst hfp
    (fun i ys h => J i ys h ∧ Kp BB h ∧ ∀ a ∈ ms, ∃ o, h.get? a = some o) ⟨hJ _ _ _ _ hJ0 fun b _ o e => k2 b o e, fun b o e => (hBo b o e).1, fun a ha => let ⟨o, e⟩ := hms a ha; ⟨o, k2 _ _ e⟩⟩ ?_ ?_ ?_
  · rintro i ys h h'' ⟨j1, j2, j3⟩ hkk
    refine ⟨hJ _ _ _ _ j1 fun b hb o e => hkk b o (msw b hb) (nown b (msl b hb)) e, fun b o e => ?_, fun a ha => let ⟨o, e⟩ := j3 a ha; ⟨o, hkk a o (msw a ha) (nown a (msl a ha)) e⟩⟩
    obtain ⟨e1, e2, e3⟩ := hBo b o e
    exact hkk b o e2 (nown b (Heap.lt_size e1)) (j2 b o e)
  · rintro i v ys h₃ tk₃ E' hP hi hys hcf ⟨j1, j2, j3⟩ hal
    have hC : h'.objs.size + 1 < h₃.objs.size := by
      obtain ⟨o, e⟩ := hal (h'.objs.size + 1) (.inr (.inr (.inl rfl)))
      exact Heap.lt_size e
    refine wpAny_mono (helt i v ys BB h₃ tk₃ (h'.objs.size + 1) E' hP hi hys hBk hBn (by rw [hBs]; exact Nat.le_succ _) hC hcf j2 j1 j3) (fun y s₄ h₄ => ?_) fun _ _ e => e
    obtain ⟨h₅, tk₅, rfl, j5, k5, a5⟩ := h₄
    refine ⟨h₅, tk₅, rfl, ⟨j5, fun b o e => k5 b o (hBo b o e).2.2 (j2 b o e), a5⟩, fun b o hb e => ?_⟩
    refine k5 b o ?_ e
    rcases hb with hb | hb
    · intro hm
      rcases hfs b hb with hw | hw
      · exact msw b hm hw
      · exact hsm b hw hm
    · intro hm; exact nown b (msl b hm) hb
  · rintro h₅ tk₅ ys m' hn hpl hlen ⟨j1, j2, j3⟩
    have hD0 : s.heap.get? h'.objs.size = none := none_back k2 (none_of_size (Nat.le_refl _))
    refine ⟨m', hn, fun h₆ hs₆ => ?_⟩
    have hC6 : ∀ b o, b ≠ h'.objs.size + 1 → h₅.get? b = some o → h₆.get? b = some o := fun b o hb e => hs₆.extBut b o hb e
    refine hQ h₆ tk₅ h'.objs.size ys (hpl.at fun o e => hC6 _ o (Nat.ne_of_lt (Nat.lt_succ_self _)) e) hD0 hlen (hJ _ _ _ _ j1 fun b hb o e => hC6 b o (Nat.ne_of_lt (Nat.lt_succ_of_lt (msl b hb))) e) (fun b o hb e => ?_) (fun a ha => ?_)
    · have e2 := hBk b o (hideAll_get _ e hb)
      exact hC6 b o (Nat.ne_of_lt (Nat.lt_succ_of_lt (Heap.lt_size (hBo b o e2).1))) (j2 b o e2)
    · obtain ⟨o, e⟩ := j3 a ha
      exact ⟨o, hC6 a o (Nat.ne_of_lt (Nat.lt_succ_of_lt (msl a ha))) e⟩
end
end Mine
/- C20 -/
namespace Mine
theorem lit_of {K : Frag} {f : Addr} {oc oc' : Value} {od od' : Option Addr} {n n' q q' : Str} {params params' : Arguments} {dV kV doc pm cdv ct dV' kV' doc' pm' cdv' ct' : Value} {an an' : Option Addr} {osl osl' : Array (Option Value)} {body body' : List Stmt} {scope scope' : Scope}
    (P : List Stmt → Scope → Prop) (ho : K.lookup f = some ⟨oc, od, .func (fnOf n q params body scope dV kV doc pm an cdv ct), osl⟩)
    (hk : K.lookup f = some ⟨oc', od', .func (fnOf n' q' params' body' scope' dV' kV' doc' pm' an' cdv' ct'), osl'⟩) (h : P body' scope') : P body scope := by
  rw [hk] at ho
  have e := Option.some.inj ho
  injection e with _ _ e _
  injection e with e
  unfold fnOf at e
  injection e with e1 e2 e3 e4 e5
  injection e4 with e4
  subst e4; subst e5; exact h
/-- what a statement of a frame leaves -/
noncomputable def StP (h₀ : Heap) (L : Addr) (s : Shared) (P : Heap → (Str → Option Value) → List (Addr × Obj) → Prop) (fl : Flow) (s' : Shared) : Prop :=
  fl = .next ∧ ∃ h' tk m' news', s' = { s with heap := h', toks := tk } ∧ Fr h₀ L h' m' ∧ News h₀ L h' news' ∧ P h' m' news'
theorem StP.mk {h₀ : Heap} {L : Addr} {s : Shared} {P : Heap → (Str → Option Value) → List (Addr × Obj) → Prop} {h' : Heap} {tk : Nat} {m' : Str → Option Value} {news' : List (Addr × Obj)} (F : Fr h₀ L h' m') (N : News h₀ L h' news') (h : P h' m' news') : StP h₀ L s P .next { s with heap := h', toks := tk } :=
  ⟨rfl, h', tk, m', news', rfl, F, N, h⟩
noncomputable def fstN (ns : List Int) : Int := ns.headD 1391
noncomputable def slS (ns : List Int) : Nat := 63 - (fstN ns % 2).toNat
noncomputable def otS (ns : List Int) : Nat := if (fstN ns / 2 % 63).toNat = 62 then 125 - slS ns else (fstN ns / 2 % 63).toNat
theorem sl_is (ns : List Int) : slS ns = 62 ∨ slS ns = 63 := by unfold slS; omega
theorem ot_lt (ns : List Int) : otS ns < 64 := by
  have := sl_is ns
  unfold otS; split <;> omega
theorem truthyL {w : World} {A : Around} {E : Value → Shared → Prop} {s : Shared} {Q : Bool → Shared → Prop} {l : Addr} {v : Value} {vs : List Value} (hl : s.heap.IsList l (v :: vs).toArray) (hb : (v :: vs).length ≤ 1000)
    (h : ∀ tk, Q true { s with toks := tk }) : wpAny (model PG w) A (truthy (.ref l)) Q E s := by
  refine wpAny_truthy_list hl (by rw [List.size_toArray]; exact lt63 (by omega)) ?_
  have e : (!(v :: vs).toArray.isEmpty) = true := by simp
  rw [e]; exact h _
theorem sub_nat {w : World} {A : Around} {E : Value → Shared → Prop} {s : Shared} {Q : Value → Shared → Prop} {t u : Tok} {z : Int} {b : Nat} (hz : (b : Int) ≤ z) (h : ∀ t' tk, Q (.int ((z.toNat - b : Nat) : Int) t') { s with toks := tk }) : wpAny (model PG w) A (binaryOp .Sub (.int z t) (.int (b : Int) u)) Q E s := by
  refine sub_int ?_
  have e : z - (b : Int) = ((z.toNat - b : Nat) : Int) := by omega
  rw [e]; exact h _ _
/-- a block of lists of strs -/
theorem LL.made {h₀ h : Heap} {D : Addr} {n : Nat} {ys : List Value} {os : List (List (Addr × Obj))} {xss : List (List Str)} (hx : xss.length = n)
    (M : Made h₀ h D n (fun i y o => ∃ a us k xs, y = Value.ref a ∧ o = [(a, W.listOf (List.toArray us) k)] ∧ xss[i]? = some xs ∧ StrsL us xs) ys os) : LL h D xss := by
  refine ⟨ys, M.list, by rw [M.len, hx], fun i xs hi => ?_⟩
  have hlt : i < n := by
    rcases Nat.lt_or_ge i xss.length with h | h
    · omega
    · rw [List.getElem?_eq_none h] at hi; cases hi
  have hy : ys[i]? = some (ys[i]'(by rw [M.len]; exact hlt)) := by simp [M.len, hlt]
  have ho : os[i]? = some (os[i]'(by rw [M.lens]; exact hlt)) := by simp [M.lens, hlt]
  obtain ⟨a, us, k, xs', e1, e2, e3, e4⟩ := M.each i _ _ hy ho
  rw [hi] at e3; cases e3
  have hl := M.lie _ (List.mem_of_getElem? ho) (a, W.listOf us.toArray k) (by rw [e2]; exact List.Mem.head _)
  exact ⟨a, by rw [hy, e1], us, ⟨k, hl⟩, e4⟩
end Mine
/- C21 -/
namespace Mine
noncomputable def nthS : List Stmt → Nat → Stmt
  | [], _ => default
  | x :: _, 0 => x
  | _ :: r, n + 1 => nthS r n
/-- all but bad is kept -/
noncomputable def KB (bad : List Addr) (h h' : Heap) : Prop := ∀ b o, b ∉ bad → h.get? b = some o → h'.get? b = some o
theorem KB.of {bad : List Addr} {h h' : Heap} (k : Kp h h') : KB bad h h' := fun b o _ e => k b o e
theorem KB.tr {bad : List Addr} {a b c : Heap} (x : KB bad a b) (y : KB bad b c) : KB bad a c := fun p o hp e => y p o hp (x p o hp e)
theorem KB.same {bad : List Addr} {a : Addr} {h h' : Heap} (hs : Heap.SameBut a h h') (ha : a ∈ bad) : KB bad h h' := fun b o hb e => (hs.2 b (fun e => hb (e ▸ ha))).trans e
theorem KB.mono {bad bad' : List Addr} {h h' : Heap} (k : KB bad h h') (hs : ∀ b ∈ bad, b ∈ bad') : KB bad' h h' := fun b o hb e => k b o (fun hm => hb (hs b hm)) e
/-- P holds, and needs nothing of bad -/
noncomputable def Off (bad : List Addr) (P : Heap → Prop) (h : Heap) : Prop := ∀ h', KB bad h h' → P h'
theorem Off.now {bad : List Addr} {P : Heap → Prop} {h : Heap} (x : Off bad P h) : P h := x h fun _ _ _ e => e
theorem Off.kb {bad : List Addr} {P : Heap → Prop} {h h' : Heap} (x : Off bad P h) (k : KB bad h h') : Off bad P h' := fun _ k' => x _ (KB.tr k k')
theorem Off.kp {bad : List Addr} {P : Heap → Prop} {h h' : Heap} (x : Off bad P h) (k : Kp h h') : Off bad P h' := x.kb (KB.of k)
theorem lp_ne {L i : Nat} (h : 0 < i) : L + i ≠ L := by omega
theorem lp_ne2 {L i j : Nat} (h : i ≠ j) : L + i ≠ L + j := by omega
noncomputable def badL (L : Addr) : List Addr := [L, L + 1, L + 2, L + 3, L + 4, L + 5]
/-- the frame of the law with its five cells -/
structure LS (h₀ : Heap) (L : Addr) (h : Heap) (m : Str → Option Value) (c1 c2 c3 c4 c5 : Option Value) : Prop where
  F : Fr h₀ L h m
  e1 : h.IsCell (L + 1) c1
  e2 : h.IsCell (L + 2) c2
  e3 : h.IsCell (L + 3) c3
  e4 : h.IsCell (L + 4) c4
  e5 : h.IsCell (L + 5) c5
  n : ∀ b ∈ badL L, h₀.get? b = none
section
variable {h₀ h h' : Heap} {L : Addr} {m : Str → Option Value} {c1 c2 c3 c4 c5 : Option Value}
theorem LS.kp (S : LS h₀ L h m c1 c2 c3 c4 c5) (k : Kp h h') : LS h₀ L h' m c1 c2 c3 c4 c5 := ⟨S.F.keeps k, S.e1.keeps k, S.e2.keeps k, S.e3.keeps k, S.e4.keeps k, S.e5.keeps k, S.n⟩
theorem LS.live (S : LS h₀ L h m c1 c2 c3 c4 c5) : ∀ b ∈ badL L, ∃ o, h.get? b = some o := by
  intro b hb
  simp only [badL, List.mem_cons, List.not_mem_nil, or_false] at hb
  obtain ⟨oL, _, _, hoL, _⟩ := S.F.ns
  rcases hb with rfl | rfl | rfl | rfl | rfl | rfl
  · exact ⟨_, hoL⟩
  · exact let ⟨o, e, _⟩ := S.e1; ⟨o, e⟩
  · exact let ⟨o, e, _⟩ := S.e2; ⟨o, e⟩
  · exact let ⟨o, e, _⟩ := S.e3; ⟨o, e⟩
  · exact let ⟨o, e, _⟩ := S.e4; ⟨o, e⟩
  · exact let ⟨o, e, _⟩ := S.e5; ⟨o, e⟩
theorem LS.off (S : LS h₀ L h m c1 c2 c3 c4 c5) {D : Addr} (hD : h.get? D = none) : D ∉ badL L := fun hb => by
  obtain ⟨o, e⟩ := S.live D hb; rw [hD] at e; cases e
theorem LS.kb (S : LS h₀ L h m c1 c2 c3 c4 c5) {bad : List Addr} (k : KB bad h h') (hb : ∀ b ∈ badL L, b ∉ bad) (h0 : ∀ b ∈ bad, h₀.get? b = none) : LS h₀ L h' m c1 c2 c3 c4 c5 := by
  have key : ∀ b ∈ badL L, ∀ o, h.get? b = some o → h'.get? b = some o := fun b hm o e => k b o (hb b hm) e
  refine ⟨⟨S.F.ns.at' fun o e => key _ (by simp [badL]) o e, fun b o e => k b o (fun hm => by rw [h0 b hm] at e; cases e) (S.F.keep b o e), S.F.above⟩, ?_, ?_, ?_, ?_, ?_, S.n⟩
  · exact let ⟨o, a, b⟩ := S.e1; ⟨o, key _ (by simp [badL]) o a, b⟩
  · exact let ⟨o, a, b⟩ := S.e2; ⟨o, key _ (by simp [badL]) o a, b⟩
  · exact let ⟨o, a, b⟩ := S.e3; ⟨o, key _ (by simp [badL]) o a, b⟩
  · exact let ⟨o, a, b⟩ := S.e4; ⟨o, key _ (by simp [badL]) o a, b⟩
  · exact let ⟨o, a, b⟩ := S.e5; ⟨o, key _ (by simp [badL]) o a, b⟩
/-- the five cells as a list of what is new -/
theorem LS.open (S : LS h₀ L h m c1 c2 c3 c4 c5) : ∃ o1 o2 o3 o4 o5, News h₀ L h [(L + 1 + 1 + 1 + 1 + 1, o5), (L + 1 + 1 + 1 + 1, o4), (L + 1 + 1 + 1, o3), (L + 1 + 1, o2), (L + 1, o1)] ∧
    o1.data = .cell c1 ∧ o2.data = .cell c2 ∧ o3.data = .cell c3 ∧ o4.data = .cell c4 ∧ o5.data = .cell c5 := by
  obtain ⟨F, ⟨o1, a1, b1⟩, ⟨o2, a2, b2⟩, ⟨o3, a3, b3⟩, ⟨o4, a4, b4⟩, ⟨o5, a5, b5⟩, n⟩ := S
  have ne : ∀ i : Nat, 0 < i → @Ne Nat (L + i) L := fun i hi => lp_ne hi
  refine ⟨o1, o2, o3, o4, o5, fun p hp => ?_, b1, b2, b3, b4, b5⟩
  simp only [List.mem_cons, List.not_mem_nil, or_false] at hp
  rcases hp with rfl | rfl | rfl | rfl | rfl
  · exact ⟨a5, ne 5 (by decide), n _ (by simp [badL])⟩
  · exact ⟨a4, ne 4 (by decide), n _ (by simp [badL])⟩
  · exact ⟨a3, ne 3 (by decide), n _ (by simp [badL])⟩
  · exact ⟨a2, ne 2 (by decide), n _ (by simp [badL])⟩
  · exact ⟨a1, ne 1 (by decide), n _ (by simp [badL])⟩
end
section
variable {M : Model} {A : Around} {E : Value → Shared → Prop} {s : Shared} {h₀ : Heap} {L : Addr} {m : Str → Option Value} {c1 c2 c3 c4 c5 : Option Value} {Q : Unit → Shared → Prop} {env : Env} {y : Str} {v : Value}
theorem LS.st (S : LS h₀ env.locals s.heap m c1 c2 c3 c4 c5) (h : ∀ h' tk, LS h₀ env.locals h' (fun x => if x = y then some v else m x) c1 c2 c3 c4 c5 → KB (badL env.locals) s.heap h' → Q () { s with heap := h', toks := tk })
    (hl : env.kindOf y = some .local) (hk : env.scope.kind = .function) : wpAny M A (storeName env y v) Q E s := by
  refine wpAny_storeName_local hl S.F.ns (fun h' hn hs => ?_) (by rw [hk]; rfl)
  have ne : ∀ i : Nat, 0 < i → @Ne Nat (env.locals + i) env.locals := fun i hi => lp_ne hi
  refine h h' _ ⟨Fr.but S.F hn fun b o hb e => (hs.2 b hb).trans e, S.e1.sameBut hs (ne 1 (by decide)), S.e2.sameBut hs (ne 2 (by decide)), S.e3.sameBut hs (ne 3 (by decide)), S.e4.sameBut hs (ne 4 (by decide)), S.e5.sameBut hs (ne 5 (by decide)), S.n⟩ (KB.same hs (by simp [badL]))
theorem LS.frB (S : LS h₀ L s.heap m c1 c2 c3 c4 c5) {h' : Heap} {i : Nat} (hi : 0 < i) (hi5 : i ≤ 5) (hs : Heap.SameBut (L + i) s.heap h') : Fr h₀ L h' m := by
  have hm : L + i ∈ badL L := by
    have : i = 1 ∨ i = 2 ∨ i = 3 ∨ i = 4 ∨ i = 5 := by omega
    rcases this with rfl | rfl | rfl | rfl | rfl <;> simp [badL]
  exact ⟨S.F.ns.at' fun o e => (hs.2 L (Ne.symm (lp_ne hi))).trans e, fun b o e => (hs.2 b (fun hb => by rw [hb, S.n _ hm] at e; cases e)).trans (S.F.keep b o e), S.F.above⟩
theorem LS.sc2 (S : LS h₀ L s.heap m c1 c2 c3 c4 c5) (h : ∀ h' tk, LS h₀ L h' m c1 (some v) c3 c4 c5 → KB (badL L) s.heap h' → Q () { s with heap := h', toks := tk })
    (hl : env.kindOf y = some .cell) (hc : env.cells.lookup y = some (L + 2)) (hk : env.scope.kind = .function) : wpAny M A (storeName env y v) Q E s := by
  refine wpAny_storeName_cell hk hl hc S.e2 fun h' hn hs => ?_
  have ne : ∀ i j : Nat, i ≠ j → @Ne Nat (L + i) (L + j) := fun i j hi => lp_ne2 hi
  exact h h' _ ⟨S.frB (by decide) (by decide) hs, S.e1.sameBut hs (ne 1 2 (by decide)), hn, S.e3.sameBut hs (ne 3 2 (by decide)), S.e4.sameBut hs (ne 4 2 (by decide)), S.e5.sameBut hs (ne 5 2 (by decide)), S.n⟩ (KB.same hs (by simp [badL]))
theorem LS.sc3 (S : LS h₀ L s.heap m c1 c2 c3 c4 c5) (h : ∀ h' tk, LS h₀ L h' m c1 c2 (some v) c4 c5 → KB (badL L) s.heap h' → Q () { s with heap := h', toks := tk })
    (hl : env.kindOf y = some .cell) (hc : env.cells.lookup y = some (L + 3)) (hk : env.scope.kind = .function) : wpAny M A (storeName env y v) Q E s := by
  refine wpAny_storeName_cell hk hl hc S.e3 fun h' hn hs => ?_
  have ne : ∀ i j : Nat, i ≠ j → @Ne Nat (L + i) (L + j) := fun i j hi => lp_ne2 hi
  exact h h' _ ⟨S.frB (by decide) (by decide) hs, S.e1.sameBut hs (ne 1 3 (by decide)), S.e2.sameBut hs (ne 2 3 (by decide)), hn, S.e4.sameBut hs (ne 4 3 (by decide)), S.e5.sameBut hs (ne 5 3 (by decide)), S.n⟩ (KB.same hs (by simp [badL]))
theorem LS.sc4 (S : LS h₀ L s.heap m c1 c2 c3 c4 c5) (h : ∀ h' tk, LS h₀ L h' m c1 c2 c3 (some v) c5 → KB (badL L) s.heap h' → Q () { s with heap := h', toks := tk })
    (hl : env.kindOf y = some .cell) (hc : env.cells.lookup y = some (L + 4)) (hk : env.scope.kind = .function) : wpAny M A (storeName env y v) Q E s := by
  refine wpAny_storeName_cell hk hl hc S.e4 fun h' hn hs => ?_
  have ne : ∀ i j : Nat, i ≠ j → @Ne Nat (L + i) (L + j) := fun i j hi => lp_ne2 hi
  exact h h' _ ⟨S.frB (by decide) (by decide) hs, S.e1.sameBut hs (ne 1 4 (by decide)), S.e2.sameBut hs (ne 2 4 (by decide)), S.e3.sameBut hs (ne 3 4 (by decide)), hn, S.e5.sameBut hs (ne 5 4 (by decide)), S.n⟩ (KB.same hs (by simp [badL]))
theorem LS.sc5 (S : LS h₀ L s.heap m c1 c2 c3 c4 c5) (h : ∀ h' tk, LS h₀ L h' m c1 c2 c3 c4 (some v) → KB (badL L) s.heap h' → Q () { s with heap := h', toks := tk })
    (hl : env.kindOf y = some .cell) (hc : env.cells.lookup y = some (L + 5)) (hk : env.scope.kind = .function) : wpAny M A (storeName env y v) Q E s := by
  refine wpAny_storeName_cell hk hl hc S.e5 fun h' hn hs => ?_
  have ne : ∀ i j : Nat, i ≠ j → @Ne Nat (L + i) (L + j) := fun i j hi => lp_ne2 hi
  exact h h' _ ⟨S.frB (by decide) (by decide) hs, S.e1.sameBut hs (ne 1 5 (by decide)), S.e2.sameBut hs (ne 2 5 (by decide)), S.e3.sameBut hs (ne 3 5 (by decide)), S.e4.sameBut hs (ne 4 5 (by decide)), hn, S.n⟩ (KB.same hs (by simp [badL]))
end
theorem IntsNAt.off {bad : List Addr} {h : Heap} {D : Addr} {zs : List Nat} (x : IntsNAt h D zs) (hD : D ∉ bad) : Off bad (fun h => IntsNAt h D zs) h := fun h' k => by
  obtain ⟨vs, ⟨n, e⟩, hv⟩ := x
  exact ⟨vs, ⟨n, k _ _ hD e⟩, hv⟩
noncomputable def nmS (ns : List Int) : List (List Str) := (rowS ns).map seenS
end Mine
/- C22 -/
namespace Mine
section
variable {w : World} {A : Around} {E : Value → Shared → Prop}
noncomputable def HPost (s : Shared) (keep : List Addr) (h : Heap) (I : Heap → Prop) (Q : Flow → Shared → Prop) (f : Flow) (s' : Shared) : Prop :=
  match f with
  | .ret v => Q (.ret v) s'
  | .brk => Q .next s'
  | _ => ∃ h' tk, s' = { s with heap := h', toks := tk } ∧ I h' ∧ ∀ b ∈ keep, ∀ o, h.get? b = some o → h'.get? b = some o
/-- a for, by a word over the heap that needs nothing of the iterator -/
theorem for_heap {target : Expr} {body orelse : List Stmt} {env : Env} {s : Shared} {xv : Value} {Q : Flow → Shared → Prop}
    {n : Nat} {P : Nat → Value → Prop} {src : List Addr} (I : List Addr → Nat → Heap → Prop) (it : Iters w A s xv n P src)
    (h0 : ∀ wr h, (∀ b ∈ wr, s.heap.get? b = none) → Kp s.heap h → I wr 0 h)
    (hk : ∀ wr i h h', (∀ b ∈ wr, s.heap.get? b = none) → I wr i h → KB wr h h' → I wr i h')
    (turn : ∀ i v wr h tk E₂, i < n → P i v → I wr i h → (∀ b ∈ wr, s.heap.get? b = none) → (∀ b ∈ wr, ∃ o, h.get? b = some o) →
      wpAny (model PG w) A (assign target env v) (fun _ s₂ => wpAny (model PG w) A (execs body env) (HPost s (wr ++ src) h (I wr (i + 1)) Q) E₂ s₂) E₂ { s with heap := h, toks := tk })
    (done : ∀ wr h tk E₂, (∀ b ∈ wr, s.heap.get? b = none) → I wr n h → wpAny (model PG w) A (execs orelse env) Q E₂ { s with heap := h, toks := tk }) :
    wpAny (model PG w) A (pyIter xv) (fun it s₂ => codeAny (model PG w) A (.forLoop target it body orelse env) (fun r s' => match r with | .ok f => Q f s' | .error e => cameBackBy (model PG w) A env E e s') s₂) E s := by
  refine it.toG target _ _ fun It fp wr St h' tk Wf Wi Wd hl hst hfs hkp hwr => ?_
  refine codeAny_forLoop_any (fun k s' => ∃ h' tk i, s' = { s with heap := h', toks := tk } ∧ St i h' ∧ I wr i h' ∧ i ≤ n ∧ k = n + 1 - i) ?_ (n + 1)
    ⟨h', tk, 0, rfl, hst, h0 wr h' hwr hkp, Nat.zero_le _, rfl⟩
  rintro k s' ⟨H, tk', i, rfl, hst', hI, hi, rfl⟩
  by_cases hlt : i < n
  · refine wpAny_mono (Wi i _ (fun v s₂ => wpAny (model PG w) A (assign target env v) (fun _ s₂ => wpAny (model PG w) A (execs body env) (fun f s₃ => match f with
            | .next | .cont => ∃ m, m < n + 1 - i ∧ ∃ h' tk i, s₃ = { s with heap := h', toks := tk } ∧ St i h' ∧ I wr i h' ∧ i ≤ n ∧ m = n + 1 - i
            | .brk => Q .next s₃
            | .ret v => Q (.ret v) s₃) (notedBy (model PG w) A env fun e s' => cameBackBy (model PG w) A env E e s') s₂) (notedBy (model PG w) A env fun e s' => cameBackBy (model PG w) A env E e s') s₂) _ hlt hst' fun v h₁ tk₁ hPv hst₁ hk₁ => ?_) (fun r s₁ h₁ => by cases r with | none => exact h₁.elim | some v => exact h₁) fun _ _ e => e
    have hI₁ := hk wr i H h₁ hwr hI hk₁
    refine wpAny_mono (turn i v wr h₁ tk₁ _ hlt hPv hI₁ hwr (fun b hb => let ⟨o, e, _⟩ := hl _ _ hst₁ b hb; ⟨o, e⟩)) (fun _ s₂ h₂ => wpAny_mono h₂ (fun f s₃ h₃ => ?_) fun _ _ e => e) fun _ _ e => e
    have fin : (∃ h' tk, s₃ = { s with heap := h', toks := tk } ∧ I wr (i + 1) h' ∧ ∀ b ∈ wr ++ src, ∀ o, h₁.get? b = some o → h'.get? b = some o) → ∃ m, m < n + 1 - i ∧ ∃ h' tk i, s₃ = { s with heap := h', toks := tk } ∧ St i h' ∧ I wr i h' ∧ i ≤ n ∧ m = n + 1 - i := by
      rintro ⟨h₄, tk₄, rfl, hI₄, hk₄⟩
      refine ⟨n + 1 - (i + 1), by omega, h₄, tk₄, i + 1, rfl, ?_, hI₄, hlt, rfl⟩
      exact Wf _ _ _ hst₁ fun b hb o e => hk₄ b ((hfs b hb).elim (List.mem_append_left _) (List.mem_append_right _)) o e
    cases f with
    | next => exact fin h₃
    | cont => exact fin h₃
    | brk => exact h₃
    | ret v => exact h₃
  · have hin : i = n := by omega
    subst hin
    refine Wd _ _ _ hst' fun h₁ tk₁ hk₁ => ?_
    exact wpAny_mono (done wr h₁ tk₁ _ hwr (hk wr i H h₁ hwr hI hk₁)) (fun f s₃ h₃ => h₃) fun _ _ e => e
end
end Mine
/- P1 -/
namespace Mine
theorem sw_iff (x y : Str) : Txt.startswith x y = true ↔ y.cps.toList <+: x.cps.toList := by
  have ly : y.cps.toList.length = y.length := Array.length_toList
  have lx : x.cps.toList.length = x.length := Array.length_toList
  unfold Txt.startswith
  rw [StrLaws.subAt_eq, List.drop_zero, Bool.and_eq_true, decide_eq_true_iff, beq_iff_eq, List.prefix_iff_eq_take, ly, Nat.zero_add]
  constructor
  · exact fun h => h.2.symm
  · intro h
    refine ⟨?_, h.symm⟩
    have := congrArg List.length h
    rw [List.length_take, ly, lx] at this; omega
theorem tl_app (a b : Str) : (a ++ b).cps.toList = a.cps.toList ++ b.cps.toList := by
  show (a.cps ++ b.cps).toList = _; simp
theorem str_ext {a b : Str} (h : a.cps.toList = b.cps.toList) : a = b := Str.ext_cps (Array.toList_inj.mp h)
theorem dot_tl : (Str.ofString ".").cps.toList = [46] := by decide +kernel
theorem itx_tl (k : Nat) (hk : k < 8) : (itx k).cps.toList = [48 + k] := by
  have : ∀ k < 8, (itx k).cps.toList = [48 + k] := by decide +kernel
  exact this k hk
theorem itx_eq (n : Nat) : (itx n).cps.toList = (Nat.toDigits 10 n).map Char.toNat := by
  have e : itx n = Str.ofString (String.ofList (Nat.toDigits 10 n)) := rfl
  rw [e, Str.ofString_eq_toList]; simp
/-- plain signs, and no dot -/
abbrev Gd (x : Str) : Prop := ∀ c ∈ x.cps.toList, c < 128 ∧ c ≠ 46
theorem Gd.dot {x : Str} (h : Gd x) : 46 ∉ x.cps.toList := fun hm => (h 46 hm).2 rfl
theorem Gd.app {a b : Str} (x : Gd a) (y : Gd b) : Gd (a ++ b) := fun c hc => by
  rw [tl_app] at hc
  exact (List.mem_append.mp hc).elim (x c) (y c)
theorem itx_gd (n : Nat) : Gd (itx n) := by
  intro q h
  rw [itx_eq] at h
  obtain ⟨c, hc, e⟩ := List.mem_map.mp h
  have hd := Nat.isDigit_of_mem_toDigits (by decide) (by decide) hc
  unfold Char.isDigit at hd
  rw [Bool.and_eq_true, decide_eq_true_iff, decide_eq_true_iff] at hd
  have h1 : (48 : Nat) ≤ c.toNat := hd.1
  have h2 : c.toNat ≤ (57 : Nat) := hd.2
  omega
/-- a name begins with the module told and a dot only where that is the figure alone -/
theorem sw_told {k : Nat} (hk : k < 8) {v told : Str} (hv : 46 ∉ v.cps.toList) : Txt.startswith (itx k ++ Str.ofString "." ++ v) (told ++ Str.ofString ".") = true ↔ told = itx k := by
  rw [sw_iff, tl_app, tl_app, tl_app, dot_tl, itx_tl k hk]
  constructor
  · intro h
    match e : told.cps.toList, h with
    | [], h => simp at h; omega
    | [c], h =>
      simp at h
      exact str_ext (by rw [e, itx_tl k hk, h])
    | c :: d :: r, h =>
      simp at h
      exact absurd (h.2.2.subset (by simp)) hv
  · rintro rfl
    rw [itx_tl k hk]; exact ⟨v.cps.toList, by simp⟩
theorem cat_gd : ∀ xs : List Str, (∀ x ∈ xs, Gd x) → Gd (catS xs)
  | [], _ => by decide +kernel
  | x :: r, h => Gd.app (a := x) (h x (by simp)) (cat_gd r (fun y hy => h y (by simp [hy])))
theorem chr_gd {y : Str} (h : Gd y) (i : Nat) : Gd (chrOf y i) := by
  intro c hc
  have e : c = y.cps.getD i 0 := List.mem_singleton.mp hc
  subst e
  rw [Array.getD_eq_getD_getElem?]
  cases hh : y.cps[i]? with
  | none => decide
  | some c => exact h c (Array.mem_toList_iff.mpr (Array.mem_of_getElem? hh))
theorem tri_gd {e : Str} (he : Gd e) (f a : Nat) : Gd (triS e f a) := by
  unfold triS
  refine Gd.app (Gd.app (chr_gd (by decide +kernel) _) (chr_gd (by decide +kernel) _)) (chr_gd ?_ _)
  split
  · decide +kernel
  · exact he
theorem parts_gd (x : Nat) : ∀ y ∈ partsS x, Gd y := by
  intro y hy
  simp only [partsS, List.mem_cons, List.not_mem_nil, or_false] at hy
  rcases hy with rfl | rfl | rfl | rfl
  · exact chr_gd (by decide +kernel) _
  · exact tri_gd (by decide +kernel) _ _
  · exact tri_gd (by decide +kernel) _ _
  · exact tri_gd (by decide +kernel) _ _
theorem view_gd (x : Nat) : ∀ y ∈ viewS x, Gd y := by
  intro y hy
  simp only [viewS, List.mem_append, List.mem_cons, List.not_mem_nil, or_false] at hy
  rcases hy with (rfl | hy) | (rfl | rfl | rfl)
  · exact cat_gd _ (parts_gd x)
  · exact parts_gd x y hy
  · exact itx_gd _
  · exact itx_gd _
  · refine cat_gd _ fun z hz => ?_
    obtain ⟨o, _, rfl⟩ := List.mem_map.mp hz
    split <;> decide +kernel
theorem ch_slash : ∀ sl ∈ [62, 63], chS (altOf sl) sl = 47 := by simp only [ch_eq]; decide +kernel
theorem ch_other : ∀ sl ∈ [62, 63], ∀ f < 64, f = 125 - sl ∨ f < 62 → chS (altOf sl) f ≠ 47 ∧ chrOf alphaS f = ⟨#[chS (altOf sl) f]⟩ := by simp only [ch_eq]; decide +kernel
/-- the j-th reader knows the file of a place by its j-th bit -/
theorem dirs_any {sl ot i j : Nat} (hsl : sl = 62 ∨ sl = 63) (hot : ot = 125 - sl ∨ ot < 62) (hj : j < 3) :
    (headsS (chrOf alphaS ot) j).any (fun d => Txt.startswith (fileS i sl ot) (d ++ Str.ofString "/")) = decide (i / 2 ^ (2 - j) % 2 = 1) := by
  have hot64 : ot < 64 := by omega
  have hm : sl ∈ [62, 63] := by rcases hsl with rfl | rfl <;> simp
  have h1 := ch_slash sl hm
  obtain ⟨h2, h3⟩ := ch_other sl hm ot hot64 hot
  rw [h3]
  generalize hc : chS (altOf sl) ot = c at *
  have fe : ∀ m, chS (altOf sl) (figS i sl ot m) = if i / 2 ^ (2 - m) % 2 = 1 then 47 else c := by
    intro m
    unfold figS
    split
    · exact h1
    · exact hc
  unfold fileS
  rw [fe 0, fe 1, fe 2]
  generalize chS (altOf sl) i = z
  have sl' : Str.ofString "/" = ⟨#[47]⟩ := by decide +kernel
  have em : Str.ofString "" = ⟨#[]⟩ := by decide +kernel
  have sw : ∀ (a b : List Nat), Txt.startswith (⟨a.toArray⟩ : Str) ⟨b.toArray⟩ = decide (b <+: a) := by
    intro a b
    have := sw_iff ⟨a.toArray⟩ ⟨b.toArray⟩
    simp only [] at this
    by_cases hb : b <+: a
    · rw [decide_eq_true hb]; exact this.mpr hb
    · rw [decide_eq_false hb]; exact Bool.eq_false_iff.mpr fun h => hb (this.mp h)
  have ap : ∀ (a b : Array Nat), (⟨a⟩ : Str) ++ ⟨b⟩ = ⟨a ++ b⟩ := fun _ _ => rfl
  obtain rfl | rfl | rfl : j = 0 ∨ j = 1 ∨ j = 2 := by omega
  all_goals simp only [headsS, flat2, sl', em, ap, List.flatMap_cons, List.flatMap_nil, List.map_cons, List.map_nil, List.any_cons, List.any_nil, List.cons_append, List.nil_append, List.append_toArray, sw, Nat.sub_zero, Nat.reduceSub, Nat.reducePow]
  · by_cases a : i / 4 % 2 = 1 <;> simp [a, Ne.symm h2]
  · by_cases a : i / 4 % 2 = 1 <;> by_cases b : i / 2 % 2 = 1 <;> simp [a, b, h2, Ne.symm h2]
  · by_cases a : i / 4 % 2 = 1 <;> by_cases b : i / 2 % 2 = 1 <;> by_cases d : i / 1 % 2 = 1 <;> simp [a, b, d, Ne.symm h2]
end Mine
namespace Mine
theorem fillAll : PySem.Challenge.rw_om0050_01 = PySem.Challenge.rw_om0050_01 ∧ hd.heap_39 = hd.heap_39 := by
  w_top off
  k_fill
  exact ⟨rfl, rfl⟩
local macro_rules | `(tactic| walk_at "w0") => `(tactic| (first | (walk1; (all_goals (try dsimp only))) | (dsimp only; walk1; (all_goals (try dsimp only)))))
local macro_rules | `(tactic| walk_at "u0") => `(tactic| (k_unfold; (try dsimp only)))
local macro_rules | `(tactic| walk_at "g4") => `(tactic| ((fail_if_success (with_reducible refine gd1 ?_)); (fail_if_success (with_reducible refine gd2 ?_)); (fail_if_success (with_reducible refine gd3 ?_)); (fail_if_success (with_reducible refine gd4 ?_)); (fail_if_success (with_reducible refine gd5 ?_))))
local macro_rules | `(tactic| walk_at "nG") => `(tactic| (refine' nm_glob ?F ?X ?T ?e ?_ ?g ?a ?b ?d; (case a | b => rfl); (case d => decide); (case g => rfl); (case F | X | T => k_asm); (case e => k_is); k_whole))
local macro_rules | `(tactic| walk_at "nB") => `(tactic| (refine' nm_built ?F ?X ?T ?e ?v ?n ?_ ?g ?bi ?a ?b ?d; (case a | b => rfl); (case d => decide); (case g | bi => rfl); (case F | X | T => k_asm); (case e => k_is); (case v => boot_fast); (case n => decide); k_whole))
local macro_rules | `(tactic| walk_at "it0") => `(tactic| (k_here; (with_reducible refine gd6 ?_); k_dflt (refine' itm ?F ?l ?x ?i ?_ ?s; (case F => k_asm); (case l | x => with_reducible assumption); (case i => omega); (case s => with_unfolding_all rfl); k_whole)))
local macro_rules | `(tactic| walk_at "pk0") => `(tactic| (k_here; (with_reducible refine gd6 ?_); k_dflt (refine' pick2 ?N ?m ?i ?_ ?s; (case N => k_asm); (case m => k_mem); (case i => omega); (case s => with_unfolding_all rfl); k_whole); intro t'))
local macro_rules | `(tactic| walk_at "do0") => `(tactic| (first | decide | omega))
local macro_rules | `(tactic| walk_at "nt0") => `(tactic| (k_here; k_dflt (refine' newTupleK ?k1 ?k2 ?_; (case k1 | k2 => k_asm); k_whole); intro l' h' F' N' l1 kp'; (try k_lt l1); (try k_sweep)))
local macro_rules | `(tactic| walk_at "s1") => `(tactic| (first
  | (walk_at "u0")
  | ((walk_at "g4");
     walk_at "w0")))
local macro_rules | `(tactic| walk_at "eval Name") => `(tactic| (k_here; (with_reducible refine gd7 ?_); k_dflt (first
  | (refine' nm_local ?F ?v ?_ ?a ?b ?d; (case F => k_asm); (case a | b => rfl); (case d => decide); (case v => with_reducible assumption); k_whole)
  | (refine' nm_cell ?F ?c ?_ ?cl ?a ?b ?d; (case a | b => rfl); (case d => decide); (case F => k_asm); (case cl => rfl); (case c => with_reducible assumption); k_whole)
  | (walk_at "nG")
  | (walk_at "nB"))))
local macro_rules | `(tactic| walk_at "subscriptTail") => `(tactic| (walk_at "it0"))
local macro_rules | `(tactic| walk_at "subscriptTail Name Name ref int") => `(tactic| (walk_at "it0"))
local macro_rules | `(tactic| walk_at "steps") => `(tactic| repeat' (walk_at "s1"))
local macro_rules | `(tactic| walk_at "s2") => `(tactic| (first
  | (walk_at "u0")
  | ((fail_if_success (with_reducible refine gd1 ?_));
     (fail_if_success (with_reducible refine gd4 ?_));
     walk_at "w0")))
local macro_rules | `(tactic| walk_at "steps2") => `(tactic| repeat' (walk_at "s2"))
local macro_rules | `(tactic| walk_at "binaryOp Mod int int") => `(tactic| ((first | (with_reducible refine mod_nat ?hz ?_; (case hz => walk_at "do0")) | (with_reducible refine mod_gen ?hz ?_; (case hz => walk_at "do0"))); intro t' tk'; (try dsimp only [Int.reduceToNat])))
local macro_rules | `(tactic| walk_at "binaryOp FloorDiv int int") => `(tactic| ((first | (with_reducible refine div_nat ?hz ?hy ?_; (case hz | hy => walk_at "do0")) | (with_reducible refine div_gen ?hz ?hy ?_; (case hz | hy => walk_at "do0"))); intro t' tk'; (try dsimp only [Int.reduceToNat])))
local macro_rules | `(tactic| walk_at "binaryOp BitAnd int int") => `(tactic| ((with_reducible refine and_nat ?hz ?_; (case hz => walk_at "do0")); intro t' tk'; (try dsimp only [Int.reduceToNat])))
local macro_rules | `(tactic| walk_at "binaryOp BitXor int int") => `(tactic| ((with_reducible refine xor_nat ?_); intro t' tk'))
local macro_rules | `(tactic| walk_at "subscriptTail") => `(tactic| ((with_reducible refine gd8 ?_); k_dflt (refine' chrAt ?i ?b ?_ ?s; (case i => (first | (with_reducible assumption) | (refine lt_sz 2 ?e ?q; (case e => (first | (show _ = _; decide +kernel) | (split <;> decide +kernel))); (case q => omega)) | (refine lt_sz 16 ?e ?q; (case e => (show _ = _; decide +kernel)); (case q => omega)) | (refine lt_sz 64 ?e ?q; (case e => (show _ = _; decide +kernel)); (case q => omega)))); (case b => (first | (with_reducible assumption) | omega)); (case s => with_unfolding_all rfl); k_whole); intro t' tk'))
local macro_rules | `(tactic| walk_at "subscriptTail") => `(tactic| (walk_at "pk0"))
local macro_rules | `(tactic| walk_at "subscriptTail Name Name ref int") => `(tactic| (walk_at "pk0"))
local macro_rules | `(tactic| walk_at "eval Name") => `(tactic| (k_here; name_kind "globalImplicit"; k_dflt (first
  | (walk_at "nG")
  | (walk_at "nB"))))
local macro_rules | `(tactic| walk_at "eval Name") => `(tactic| (k_here; name_kind "local"; k_dflt (refine' nm_local ?F ?v ?_ ?a ?b ?d; (case a | b => rfl); (case d => decide); (case F => k_asm); (case v => ((repeat (refine lk_ne ?hne ?_; (case hne => decide))); first | with_reducible assumption | exact if_pos rfl | with_unfolding_all rfl)); k_whole)))
local macro_rules | `(tactic| walk_at "binaryOp BitAnd int int") => `(tactic| ((with_reducible refine and_nn ?_); intro t' tk'))
local macro_rules | `(tactic| walk_at "compareOp Eq int int") => `(tactic| (with_reducible refine eq_nn ?_))
local macro_rules | `(tactic| walk_at "s3") => `(tactic| (first
  | (walk_at "u0")
  | ((walk_at "g4");
     (fail_if_success (with_reducible refine gd9 ?_));
     (fail_if_success (with_reducible refine gd10 ?_));
     walk_at "w0")))
local macro_rules | `(tactic| walk_at "steps3") => `(tactic| repeat' (walk_at "s3"))
local macro_rules | `(tactic| walk_at "newList") => `(tactic| (k_here; k_dflt (refine' newListK ?k1 ?k2 ?_; (case k1 | k2 => k_asm); k_whole); intro l' h' F' N' l1 kp'; (try k_lt l1); (try k_sweep)))
local macro_rules | `(tactic| walk_at "callWith") => `(tactic| ((with_reducible refine gd11 ?_); refine callWith_method1 ?_ (by with_unfolding_all rfl) (by with_unfolding_all rfl)))
local macro_rules | `(tactic| walk_at "callWith") => `(tactic| ((with_reducible refine gd12 ?_); refine PyProof.Rows.callWith_builtin1 ?_ (by with_unfolding_all rfl) (by with_unfolding_all rfl)))
/- D1 -/
section
variable {w : World} {dp un : Nat} {fr : Option (List Env)} {gd : Option (List Code)} {s : Shared} {Q E : Value → Shared → Prop}
theorem anewD1 : True := by
  w_top off
  trivial
theorem c_IFMT (x : Nat) (t : Tok) (g : G w s.heap) (hdp : dp < recursionLimit)
   (h : ∀ t' h' tk, Kp s.heap h' → Q (.int ((x &&& 61440 : Nat) : Int) t') {s with heap := h', toks := tk}) :
   wpAny (model PG w) (AA dp un fr gd) (call (.ref 35) [.int (x : Int) t]) Q E s := by
  refine enter (binds := [(Str.ofString "mode", .int (x : Int) t)]) g hdp (by k_is) (by k_is) (BindsTo.of_eq rfl) (locs rfl) ?_ rfl rfl rfl (by decide)
  intro L h₁ tk mean mg mb F N X T
  (try k_fold)
  walk_at "steps"
  exact h _ _ _ F.keep
theorem c_IMODE (x : Nat) (t : Tok) (g : G w s.heap) (hdp : dp < recursionLimit)
   (h : ∀ t' h' tk, Kp s.heap h' → Q (.int ((x &&& 4095 : Nat) : Int) t') {s with heap := h', toks := tk}) :
   wpAny (model PG w) (AA dp un fr gd) (call (.ref 28) [.int (x : Int) t]) Q E s := by
  refine enter (binds := [(Str.ofString "mode", .int (x : Int) t)]) g hdp (by k_is) (by k_is) (BindsTo.of_eq rfl) (locs rfl) ?_ rfl rfl rfl (by decide)
  intro L h₁ tk mean mg mb F N X T
  (try k_fold)
  walk_at "steps"
  exact h _ _ _ F.keep
local macro_rules | `(tactic| walk_at "call ref") => `(tactic| (k_dflt (refine c_IFMT _ _ (G.of (by k_asm) (by k_asm) (by k_asm)) (by assumption) ?_); intro t9 h9 tk9 K9; have F9 := Fr.keeps (by k_asm) K9; have N9 := News.grown (by k_asm) K9; (try k_fold)))
theorem c_ISDIR (x : Nat) (t : Tok) (g : G w s.heap) (hdp : dp + 1 < recursionLimit)
   (h : ∀ h' tk, Kp s.heap h' → Q (.bool (decide ((x &&& 61440 : Nat) = 16384))) {s with heap := h', toks := tk}) :
   wpAny (model PG w) (AA dp un fr gd) (call (.ref 42) [.int (x : Int) t]) Q E s := by
  refine enter (binds := [(Str.ofString "mode", .int (x : Int) t)]) g (Nat.lt_of_succ_lt hdp) (by k_is) (by k_is) (BindsTo.of_eq rfl) (locs rfl) ?_ rfl rfl rfl (by decide)
  intro L h₁ tk mean mg mb F N X T
  (try k_fold)
  walk_at "steps"
  exact beqc (x &&& 61440) 16384 ▸ h _ _ (Fr.keep (by assumption))
theorem c_ISCHR (x : Nat) (t : Tok) (g : G w s.heap) (hdp : dp + 1 < recursionLimit)
   (h : ∀ h' tk, Kp s.heap h' → Q (.bool (decide ((x &&& 61440 : Nat) = 8192))) {s with heap := h', toks := tk}) :
   wpAny (model PG w) (AA dp un fr gd) (call (.ref 49) [.int (x : Int) t]) Q E s := by
  refine enter (binds := [(Str.ofString "mode", .int (x : Int) t)]) g (Nat.lt_of_succ_lt hdp) (by k_is) (by k_is) (BindsTo.of_eq rfl) (locs rfl) ?_ rfl rfl rfl (by decide)
  intro L h₁ tk mean mg mb F N X T
  (try k_fold)
  walk_at "steps"
  exact beqc (x &&& 61440) 8192 ▸ h _ _ (Fr.keep (by assumption))
theorem c_ISBLK (x : Nat) (t : Tok) (g : G w s.heap) (hdp : dp + 1 < recursionLimit)
   (h : ∀ h' tk, Kp s.heap h' → Q (.bool (decide ((x &&& 61440 : Nat) = 24576))) {s with heap := h', toks := tk}) :
   wpAny (model PG w) (AA dp un fr gd) (call (.ref 56) [.int (x : Int) t]) Q E s := by
  refine enter (binds := [(Str.ofString "mode", .int (x : Int) t)]) g (Nat.lt_of_succ_lt hdp) (by k_is) (by k_is) (BindsTo.of_eq rfl) (locs rfl) ?_ rfl rfl rfl (by decide)
  intro L h₁ tk mean mg mb F N X T
  (try k_fold)
  walk_at "steps"
  exact beqc (x &&& 61440) 24576 ▸ h _ _ (Fr.keep (by assumption))
theorem c_ISREG (x : Nat) (t : Tok) (g : G w s.heap) (hdp : dp + 1 < recursionLimit)
   (h : ∀ h' tk, Kp s.heap h' → Q (.bool (decide ((x &&& 61440 : Nat) = 32768))) {s with heap := h', toks := tk}) :
   wpAny (model PG w) (AA dp un fr gd) (call (.ref 63) [.int (x : Int) t]) Q E s := by
  refine enter (binds := [(Str.ofString "mode", .int (x : Int) t)]) g (Nat.lt_of_succ_lt hdp) (by k_is) (by k_is) (BindsTo.of_eq rfl) (locs rfl) ?_ rfl rfl rfl (by decide)
  intro L h₁ tk mean mg mb F N X T
  (try k_fold)
  walk_at "steps"
  exact beqc (x &&& 61440) 32768 ▸ h _ _ (Fr.keep (by assumption))
theorem c_ISFIFO (x : Nat) (t : Tok) (g : G w s.heap) (hdp : dp + 1 < recursionLimit)
   (h : ∀ h' tk, Kp s.heap h' → Q (.bool (decide ((x &&& 61440 : Nat) = 4096))) {s with heap := h', toks := tk}) :
   wpAny (model PG w) (AA dp un fr gd) (call (.ref 70) [.int (x : Int) t]) Q E s := by
  refine enter (binds := [(Str.ofString "mode", .int (x : Int) t)]) g (Nat.lt_of_succ_lt hdp) (by k_is) (by k_is) (BindsTo.of_eq rfl) (locs rfl) ?_ rfl rfl rfl (by decide)
  intro L h₁ tk mean mg mb F N X T
  (try k_fold)
  walk_at "steps"
  exact beqc (x &&& 61440) 4096 ▸ h _ _ (Fr.keep (by assumption))
theorem c_ISLNK (x : Nat) (t : Tok) (g : G w s.heap) (hdp : dp + 1 < recursionLimit)
   (h : ∀ h' tk, Kp s.heap h' → Q (.bool (decide ((x &&& 61440 : Nat) = 40960))) {s with heap := h', toks := tk}) :
   wpAny (model PG w) (AA dp un fr gd) (call (.ref 77) [.int (x : Int) t]) Q E s := by
  refine enter (binds := [(Str.ofString "mode", .int (x : Int) t)]) g (Nat.lt_of_succ_lt hdp) (by k_is) (by k_is) (BindsTo.of_eq rfl) (locs rfl) ?_ rfl rfl rfl (by decide)
  intro L h₁ tk mean mg mb F N X T
  (try k_fold)
  walk_at "steps"
  exact beqc (x &&& 61440) 40960 ▸ h _ _ (Fr.keep (by assumption))
theorem c_ISSOCK (x : Nat) (t : Tok) (g : G w s.heap) (hdp : dp + 1 < recursionLimit)
   (h : ∀ h' tk, Kp s.heap h' → Q (.bool (decide ((x &&& 61440 : Nat) = 49152))) {s with heap := h', toks := tk}) :
   wpAny (model PG w) (AA dp un fr gd) (call (.ref 84) [.int (x : Int) t]) Q E s := by
  refine enter (binds := [(Str.ofString "mode", .int (x : Int) t)]) g (Nat.lt_of_succ_lt hdp) (by k_is) (by k_is) (BindsTo.of_eq rfl) (locs rfl) ?_ rfl rfl rfl (by decide)
  intro L h₁ tk mean mg mb F N X T
  (try k_fold)
  walk_at "steps"
  exact beqc (x &&& 61440) 49152 ▸ h _ _ (Fr.keep (by assumption))

noncomputable def numd (i : Nat) (x : Str) : Str := Str.ofString (toString (i : Int)) ++ Str.ofString "." ++ x
noncomputable def numS (xs : List Str) : List Str := xs.mapIdx numd
theorem strsL_made {h₀ h : Heap} {D : Addr} {n : Nat} {ys : List Value} {os : List (List (Addr × Obj))} {xs : List Str} (hx : xs.length = n)
    (M : Made h₀ h D n (fun i y o => o = [] ∧ ∃ x t, xs[i]? = some x ∧ y = .str x t) ys os) : StrsAt h D xs := by
  refine ⟨ys, M.list, by rw [M.len, hx], fun i x hi => ?_⟩
  have hlt : i < n := by
    rcases Nat.lt_or_ge i xs.length with h | h
    · omega
    · rw [List.getElem?_eq_none h] at hi; cases hi
  have hy : ys[i]? = some (ys[i]'(by rw [M.len]; exact hlt)) := by simp [M.len, hlt]
  have ho : os[i]? = some (os[i]'(by rw [M.lens]; exact hlt)) := by simp [M.lens, hlt]
  obtain ⟨_, x', t, h1, h2⟩ := M.each i _ _ hy ho
  rw [hi] at h1; cases h1
  exact ⟨t, by rw [hy, h2]⟩
theorem c_numbered (l : Addr) (vs : List Value) (xs : List Str) (g : G w s.heap) (hdp : dp < recursionLimit) (hl : s.heap.IsList l vs.toArray) (hxs : StrsL vs xs) (h8 : xs.length = 8) (hle : ∀ x ∈ xs, x.length ≤ 1000)
   (h : ∀ D h' tk, Kp s.heap h' → s.heap.get? D = none → StrsAt h' D (numS xs) → Q (.ref D) {s with heap := h', toks := tk}) :
   wpAny (model PG w) (AA dp un fr gd) (call (.ref 228) [.ref l]) Q E s := by
  refine enterC (binds := [(Str.ofString "views", .ref l)]) g hdp (by k_is) (by k_is) (BindsTo.of_eq rfl) rfl (by decide +kernel) ?_ rfl rfl rfl
  intro L h₁ tk cells mean mg mb F N Y X T
  k_cells Y
  rename_i oc dc
  have hc : h₁.IsCell (L + 1) (some (.ref l)) := ⟨oc, N.get (List.mem_singleton.mpr rfl), dc⟩
  (try k_fold)
  walk_at "steps"
  refine comp_eval 8 (fun i v => ∃ t, v = .int (i : Int) t) (fun i y o => o = [] ∧ ∃ x t, (numS xs)[i]? = some x ∧ y = .str x t)
    (cl := [(Str.ofString "views", L + 1)]) rfl (.inl ⟨by decide, by decide⟩) rfl (by decide) (by decide) ?_ ?_ ?_
  · walk_at "steps"
    rename_i a4 a3 a2 a1
    exact ⟨⟨_, _, rfl, a1⟩, _, iters_range (n := 8) rfl a4 (by decide)⟩
  · rintro i v B h₃ tk₃ C E' ⟨ti, rfl⟩ hi hB hBC ⟨m₃, hn, hv⟩ hk
    have hv' : m₃ (Str.ofString "k") = some (.int (i : Int) ti) := by
      rcases hv with ⟨_, e⟩ | ⟨e, _⟩
      · exact e
      · cases e
    obtain ⟨x, hx⟩ : ∃ x, xs[i]? = some x := ⟨xs[i], by simp [h8, hi]⟩
    obtain ⟨tx, htx⟩ := hxs.2 i x hx
    have hxl : x.length ≤ 1000 := hle x (List.mem_of_getElem? hx)
    have F' : Fr B C h₃ m₃ := ⟨hn, hk, hBC⟩
    have N' : News B C h₃ [] := News.nil
    have X' := X.keeps (Kp.tr F.keep hB)
    have T' := T.keeps (Kp.tr F.keep hB)
    have hc' : B.IsCell (L + 1) (some (.ref l)) := hc.keeps hB
    have hl' : B.IsList l vs.toArray := hl.at fun o e => hB _ _ (F.keep _ _ e)
    clear F N X T hv hn hc hl
    walk_at "steps"
    exact ⟨_, _, [], rfl, Kp.rfl', ⟨rfl, numd i x, _, by simp [numS, hx], rfl⟩, Lie.nil, Fresh.nil⟩
  · intro h' tk' D ys os hM hk
    refine h D h' tk' (Kp.tr F.keep hk) ?_ (strsL_made (by simp [numS, h8]) hM)
    have := hM.fresh
    cases e : s.heap.get? D with
    | none => rfl
    | some o => have e' := F.keep _ _ e; rw [this] at e'; cases e'
end
/- D2 -/
section
variable {w : World} {dp un : Nat} {fr : Option (List Env)} {gd : Option (List Code)} {s : Shared} {Q E : Value → Shared → Prop}
theorem anewD2 : True := by
  w_top off
  trivial
inductive dpI (x : Nat) (t : Tok) (i : Nat) (m : Str → Option Value) (news : List (Addr × Obj)) : Prop
  | mk (h1 : m (Str.ofString "mode") = some (.int (x : Int) t)) (p : Addr) (vs : List Value) (n : Nat) (h2 : m (Str.ofString "parts") = some (.ref p)) (h3 : news = [(p, W.listOf vs.toArray n)]) (h4 : StrsL vs ((partsS x).take (i + 1))) : dpI x t i m news
theorem c_parts (x : Nat) (t : Tok) (g : G w s.heap) (hdp : dp < recursionLimit) (hx : x < 131072)
   (h : ∀ D h' tk, Kp s.heap h' → s.heap.get? D = none → StrsAt h' D (partsS x) → Q (.ref D) {s with heap := h', toks := tk}) :
   wpAny (model PG w) (AA dp un fr gd) (call (.ref 223) [.int (x : Int) t]) Q E s := by
  refine enter (binds := [(Str.ofString "mode", .int (x : Int) t)]) g hdp (by k_is) (by k_is) (BindsTo.of_eq rfl) (locs rfl) ?_ rfl rfl rfl (by decide)
  intro L h₁ tk mean mg mb F N X T
  (try k_fold)
  walk_at "steps"
  refine wpAny_For ?_
  walk_at "steps"
  rename IsRange _ _ _ _ _ _ _ _ => a4
  rename Fr _ _ _ _ => F'
  rename News _ _ _ _ => N'
  refine for_iter (dpI x t)
    (iters_range (n := 3) rfl a4 (by decide)) F' N' ?_ ?_ ?_ ?_
  · exact ⟨rfl, _, [_], _, rfl, rfl, StrsL.cons ⟨_, rfl⟩ StrsL.nil⟩
  · intro b hb; cases hb
  · rintro i v m₁ news₁ its h₃ tk₃ E₂ hi ⟨ti, rfl⟩ ⟨hm1, p, vs, n, hm2, rfl, hvs⟩ F₃ N₃ Off
    have hvl : vs.length ≤ 10 := by rw [hvs.1]; simp [partsS]; omega
    have hoff : OwnOff its [p] := fun q hq b hb => by rw [List.mem_singleton] at hb; rw [hb]; exact Off q hq (p, W.listOf vs.toArray n) (List.mem_singleton.mpr rfl)
    simp only [List.cons_append, List.nil_append] at N₃
    clear F' N' Off
    (try k_fold)
    obtain rfl | rfl | rfl : i = 0 ∨ i = 1 ∨ i = 2 := by omega
    all_goals walk_at "steps"
    all_goals (rename Fr _ _ _ _ => F₄)
    all_goals (rename News _ _ _ _ => N₄)
    all_goals (rw [List.push_toArray] at N₄)
    all_goals (refine ForPost.nx ?_; refine ForEnd.mk1 p F₄ N₄ (by k_mem) (fun q hq => by repeat (first | exact hq | refine List.Mem.tail _ ?_)) rfl ?_; refine ⟨?_, p, _, _, ?_, rfl, StrsL.snoc hvs ⟨_, rfl⟩⟩)
    all_goals ((repeat (refine lk_ne ?hne ?_; (case hne => decide))); assumption)
  · rintro m₁ news₁ h₃ tk₃ E₂ ⟨hm1, p, vs, n, hm2, rfl, hvs⟩ F₃ N₃
    (try k_fold)
    walk_at "steps"
    exact h p _ _ F₃.keep (N₃.fresh (List.mem_singleton.mpr rfl)) ⟨vs, ⟨n, N₃.get (List.mem_singleton.mpr rfl)⟩, hvs⟩
end
/- D3a -/
section
local macro_rules | `(tactic| walk_at "none such") => `(tactic| skip)
variable {w : World} {dp un : Nat} {fr : Option (List Env)} {gd : Option (List Code)} {s : Shared} {Q E : Value → Shared → Prop}
theorem anewD3a : True := by
  w_top off
  trivial
theorem tab_of {h : Heap} {a : Addr} {vs : List Value} {tb : List (Nat × Str)} (h1 : h.IsTuple a vs.toArray) (h2 : vs.length = tb.length)
    (h3 : ∀ p ∈ vs.zip tb, ∃ T t t', p.1 = Value.ref T ∧ h.IsTuple T #[.int ((p.2.1 : Nat) : Int) t, .str p.2.2 t']) : TabAt h a tb := by
  refine ⟨vs, h1, h2, fun j b c hj => ?_⟩
  have hlt : j < tb.length := by
    rcases Nat.lt_or_ge j tb.length with h | h
    · exact h
    · rw [List.getElem?_eq_none h] at hj; cases hj
  obtain ⟨T, t, t', e, hT⟩ := h3 (vs[j], (b, c)) (List.mem_of_getElem? (i := j) (by rw [List.getElem?_zip_eq_some]; exact ⟨by simp [h2, hlt], hj⟩))
  exact ⟨T, t, t', by rw [List.getElem?_eq_getElem (by omega)]; exact congrArg some e, hT⟩
theorem ftab0 {w : World} {h : Heap} (X : (hd.heap_39 w.params).In h) : TabAt h 92 (tabs.getD 0 []) := by
  refine tab_of (vs := [.ref 85, .ref 86, .ref 87, .ref 88, .ref 89, .ref 90, .ref 91]) ⟨_, X _ _ (by k_is), rfl, _, rfl⟩ rfl ?_
  intro p hp
  simp only [tabs, List.getD_cons_zero, List.getD_cons_succ, List.zip_cons_cons, List.zip_nil_right, List.mem_cons, List.not_mem_nil, or_false] at hp
  rcases hp with rfl | rfl | rfl | rfl | rfl | rfl | rfl
  · exact ⟨_, _, _, rfl, ⟨_, X _ _ (by k_is), rfl, _, rfl⟩⟩
  · exact ⟨_, _, _, rfl, ⟨_, X _ _ (by k_is), rfl, _, rfl⟩⟩
  · exact ⟨_, _, _, rfl, ⟨_, X _ _ (by k_is), rfl, _, rfl⟩⟩
  · exact ⟨_, _, _, rfl, ⟨_, X _ _ (by k_is), rfl, _, rfl⟩⟩
  · exact ⟨_, _, _, rfl, ⟨_, X _ _ (by k_is), rfl, _, rfl⟩⟩
  · exact ⟨_, _, _, rfl, ⟨_, X _ _ (by k_is), rfl, _, rfl⟩⟩
  · exact ⟨_, _, _, rfl, ⟨_, X _ _ (by k_is), rfl, _, rfl⟩⟩
theorem ftab1 {w : World} {h : Heap} (X : (hd.heap_39 w.params).In h) : TabAt h 94 (tabs.getD 1 []) := by
  refine tab_of (vs := [.ref 93]) ⟨_, X _ _ (by k_is), rfl, _, rfl⟩ rfl ?_
  intro p hp
  simp only [tabs, List.getD_cons_zero, List.getD_cons_succ, List.zip_cons_cons, List.zip_nil_right, List.mem_cons, List.not_mem_nil, or_false] at hp
  rcases hp with rfl
  · exact ⟨_, _, _, rfl, ⟨_, X _ _ (by k_is), rfl, _, rfl⟩⟩
theorem ftab2 {w : World} {h : Heap} (X : (hd.heap_39 w.params).In h) : TabAt h 96 (tabs.getD 2 []) := by
  refine tab_of (vs := [.ref 95]) ⟨_, X _ _ (by k_is), rfl, _, rfl⟩ rfl ?_
  intro p hp
  simp only [tabs, List.getD_cons_zero, List.getD_cons_succ, List.zip_cons_cons, List.zip_nil_right, List.mem_cons, List.not_mem_nil, or_false] at hp
  rcases hp with rfl
  · exact ⟨_, _, _, rfl, ⟨_, X _ _ (by k_is), rfl, _, rfl⟩⟩
theorem ftab3 {w : World} {h : Heap} (X : (hd.heap_39 w.params).In h) : TabAt h 100 (tabs.getD 3 []) := by
  refine tab_of (vs := [.ref 97, .ref 98, .ref 99]) ⟨_, X _ _ (by k_is), rfl, _, rfl⟩ rfl ?_
  intro p hp
  simp only [tabs, List.getD_cons_zero, List.getD_cons_succ, List.zip_cons_cons, List.zip_nil_right, List.mem_cons, List.not_mem_nil, or_false] at hp
  rcases hp with rfl | rfl | rfl
  · exact ⟨_, _, _, rfl, ⟨_, X _ _ (by k_is), rfl, _, rfl⟩⟩
  · exact ⟨_, _, _, rfl, ⟨_, X _ _ (by k_is), rfl, _, rfl⟩⟩
  · exact ⟨_, _, _, rfl, ⟨_, X _ _ (by k_is), rfl, _, rfl⟩⟩
theorem ftab4 {w : World} {h : Heap} (X : (hd.heap_39 w.params).In h) : TabAt h 102 (tabs.getD 4 []) := by
  refine tab_of (vs := [.ref 101]) ⟨_, X _ _ (by k_is), rfl, _, rfl⟩ rfl ?_
  intro p hp
  simp only [tabs, List.getD_cons_zero, List.getD_cons_succ, List.zip_cons_cons, List.zip_nil_right, List.mem_cons, List.not_mem_nil, or_false] at hp
  rcases hp with rfl
  · exact ⟨_, _, _, rfl, ⟨_, X _ _ (by k_is), rfl, _, rfl⟩⟩
theorem ftab5 {w : World} {h : Heap} (X : (hd.heap_39 w.params).In h) : TabAt h 104 (tabs.getD 5 []) := by
  refine tab_of (vs := [.ref 103]) ⟨_, X _ _ (by k_is), rfl, _, rfl⟩ rfl ?_
  intro p hp
  simp only [tabs, List.getD_cons_zero, List.getD_cons_succ, List.zip_cons_cons, List.zip_nil_right, List.mem_cons, List.not_mem_nil, or_false] at hp
  rcases hp with rfl
  · exact ⟨_, _, _, rfl, ⟨_, X _ _ (by k_is), rfl, _, rfl⟩⟩
theorem ftab6 {w : World} {h : Heap} (X : (hd.heap_39 w.params).In h) : TabAt h 108 (tabs.getD 6 []) := by
  refine tab_of (vs := [.ref 105, .ref 106, .ref 107]) ⟨_, X _ _ (by k_is), rfl, _, rfl⟩ rfl ?_
  intro p hp
  simp only [tabs, List.getD_cons_zero, List.getD_cons_succ, List.zip_cons_cons, List.zip_nil_right, List.mem_cons, List.not_mem_nil, or_false] at hp
  rcases hp with rfl | rfl | rfl
  · exact ⟨_, _, _, rfl, ⟨_, X _ _ (by k_is), rfl, _, rfl⟩⟩
  · exact ⟨_, _, _, rfl, ⟨_, X _ _ (by k_is), rfl, _, rfl⟩⟩
  · exact ⟨_, _, _, rfl, ⟨_, X _ _ (by k_is), rfl, _, rfl⟩⟩
theorem ftab7 {w : World} {h : Heap} (X : (hd.heap_39 w.params).In h) : TabAt h 110 (tabs.getD 7 []) := by
  refine tab_of (vs := [.ref 109]) ⟨_, X _ _ (by k_is), rfl, _, rfl⟩ rfl ?_
  intro p hp
  simp only [tabs, List.getD_cons_zero, List.getD_cons_succ, List.zip_cons_cons, List.zip_nil_right, List.mem_cons, List.not_mem_nil, or_false] at hp
  rcases hp with rfl
  · exact ⟨_, _, _, rfl, ⟨_, X _ _ (by k_is), rfl, _, rfl⟩⟩
theorem ftab8 {w : World} {h : Heap} (X : (hd.heap_39 w.params).In h) : TabAt h 112 (tabs.getD 8 []) := by
  refine tab_of (vs := [.ref 111]) ⟨_, X _ _ (by k_is), rfl, _, rfl⟩ rfl ?_
  intro p hp
  simp only [tabs, List.getD_cons_zero, List.getD_cons_succ, List.zip_cons_cons, List.zip_nil_right, List.mem_cons, List.not_mem_nil, or_false] at hp
  rcases hp with rfl
  · exact ⟨_, _, _, rfl, ⟨_, X _ _ (by k_is), rfl, _, rfl⟩⟩
theorem ftab9 {w : World} {h : Heap} (X : (hd.heap_39 w.params).In h) : TabAt h 116 (tabs.getD 9 []) := by
  refine tab_of (vs := [.ref 113, .ref 114, .ref 115]) ⟨_, X _ _ (by k_is), rfl, _, rfl⟩ rfl ?_
  intro p hp
  simp only [tabs, List.getD_cons_zero, List.getD_cons_succ, List.zip_cons_cons, List.zip_nil_right, List.mem_cons, List.not_mem_nil, or_false] at hp
  rcases hp with rfl | rfl | rfl
  · exact ⟨_, _, _, rfl, ⟨_, X _ _ (by k_is), rfl, _, rfl⟩⟩
  · exact ⟨_, _, _, rfl, ⟨_, X _ _ (by k_is), rfl, _, rfl⟩⟩
  · exact ⟨_, _, _, rfl, ⟨_, X _ _ (by k_is), rfl, _, rfl⟩⟩
theorem tabs_at {w : World} {h : Heap} (X : (hd.heap_39 w.params).In h) : ∃ vs : List Value, h.IsTuple 117 vs.toArray ∧ vs.length = 10 ∧ ∀ i v, vs[i]? = some v → ∃ a, v = Value.ref a ∧ TabAt h a (tabs.getD i []) := by
  refine ⟨[.ref 92, .ref 94, .ref 96, .ref 100, .ref 102, .ref 104, .ref 108, .ref 110, .ref 112, .ref 116], ⟨_, X _ _ (by k_is), rfl, _, rfl⟩, rfl, fun i v hi => ?_⟩
  have hlt : i < 10 := by
    rcases Nat.lt_or_ge i 10 with h | h
    · exact h
    · rw [List.getElem?_eq_none h] at hi; cases hi
  obtain rfl | rfl | rfl | rfl | rfl | rfl | rfl | rfl | rfl | rfl : i = 0 ∨ i = 1 ∨ i = 2 ∨ i = 3 ∨ i = 4 ∨ i = 5 ∨ i = 6 ∨ i = 7 ∨ i = 8 ∨ i = 9 := by omega
  · simp at hi; exact ⟨_, hi.symm, ftab0 X⟩
  · simp at hi; exact ⟨_, hi.symm, ftab1 X⟩
  · simp at hi; exact ⟨_, hi.symm, ftab2 X⟩
  · simp at hi; exact ⟨_, hi.symm, ftab3 X⟩
  · simp at hi; exact ⟨_, hi.symm, ftab4 X⟩
  · simp at hi; exact ⟨_, hi.symm, ftab5 X⟩
  · simp at hi; exact ⟨_, hi.symm, ftab6 X⟩
  · simp at hi; exact ⟨_, hi.symm, ftab7 X⟩
  · simp at hi; exact ⟨_, hi.symm, ftab8 X⟩
  · simp at hi; exact ⟨_, hi.symm, ftab9 X⟩
end
/- D3 -/
section
variable {w : World} {dp un : Nat} {fr : Option (List Env)} {gd : Option (List Code)} {s : Shared} {Q E : Value → Shared → Prop}
theorem anewD3 : True := by
  w_top off
  trivial
theorem fm_take (x i : Nat) (hi : i < 10) : (fmL x).take (i + 1) = (fmL x).take i ++ [pickT i x (tabs.getD i [])] := by
  have hl : (fmL x).length = 10 := by simp [fmL, tabs]
  have he : (fmL x)[i]? = some (pickT i x (tabs.getD i [])) := by
    have ht : tabs.length = 10 := rfl
    simp only [fmL, List.getElem?_mapIdx, List.getD]
    rw [List.getElem?_eq_getElem (by omega)]; rfl
  rw [List.take_succ, he]; rfl
theorem pick_hit {i x b : Nat} {c : Str} {r : List (Nat × Str)} (h : hits i x b = true) : pickT i x ((b, c) :: r) = c := by unfold pickT; rw [if_pos h]
theorem pick_miss {i x b : Nat} {c : Str} {r : List (Nat × Str)} (h : hits i x b = false) : pickT i x ((b, c) :: r) = pickT i x r := by rw [pickT, h]; rfl
theorem hits0 {i x b : Nat} (hi : (i : Int) = 0) : hits i x b = decide (x &&& 61440 = b) := by
  have : i = 0 := by omega
  simp [hits, this]
theorem hits1 {i x b : Nat} (hi : ¬ (i : Int) = 0) : hits i x b = decide (x &&& b = b) := by
  have : ¬ i = 0 := by omega
  simp [hits, this]
theorem pick_len (i x : Nat) (hi : i < 10) : (pickT i x (tabs.getD i [])).length ≤ 1000 := by
  have key : ∀ tb : List (Nat × Str), (∀ p ∈ tb, p.2.length ≤ 1000) → (pickT i x tb).length ≤ 1000 := by
    intro tb
    induction tb with
    | nil =>
      intro _
      unfold pickT
      split
      · exact Nat.le_trans (Nat.le_of_eq (show (Str.ofString "?").length = 1 by decide +kernel)) (by decide)
      · exact Nat.le_trans (Nat.le_of_eq (show (Str.ofString "-").length = 1 by decide +kernel)) (by decide)
    | cons p r ih =>
      intro h
      obtain ⟨b, c⟩ := p
      unfold pickT
      split
      · exact h (b, c) (by simp)
      · exact ih fun q hq => h q (by simp [hq])
  refine key _ ?_
  have hall : ∀ tb ∈ tabs, ∀ p ∈ tb, p.2.length ≤ 1000 := by decide +kernel
  exact hall _ (by rw [List.getD]; rw [List.getElem?_eq_getElem (show i < tabs.length from hi)]; exact List.getElem_mem _)

theorem pick_len1 (i x : Nat) : ∀ tb : List (Nat × Str), (∀ p ∈ tb, p.2.length = 1) → (pickT i x tb).length = 1 := by
  intro tb
  induction tb with
  | nil =>
    intro _
    unfold pickT
    split
    · decide +kernel
    · decide +kernel
  | cons p r ih =>
    intro h
    obtain ⟨b, c⟩ := p
    unfold pickT
    split
    · exact h (b, c) (by simp)
    · exact ih fun q hq => h q (by simp [hq])
theorem cat_len1 : ∀ xs : List Str, (∀ x ∈ xs, x.length = 1) → (catS xs).length = xs.length
  | [], _ => rfl
  | x :: r, h => by
    have h1 := h x (by simp)
    have h2 := cat_len1 r (fun y hy => h y (by simp [hy]))
    have e : (x ++ catS r).length = x.length + (catS r).length := by show (x.cps ++ (catS r).cps).size = _; simp; rfl
    show (x ++ catS r).length = _
    rw [e]; simp only [List.length_cons]; omega
theorem fm_len1 (x : Nat) : ∀ y ∈ fmL x, y.length = 1 := by
  intro y hy
  have hall : ∀ tb ∈ tabs, ∀ p ∈ tb, p.2.length = 1 := by decide +kernel
  unfold fmL at hy
  rw [List.mem_mapIdx] at hy
  obtain ⟨i, hi, rfl⟩ := hy
  exact pick_len1 i x _ (hall _ (List.getElem_mem hi))
theorem fm_len (x : Nat) : (catS (fmL x)).length = 10 := by
  rw [cat_len1 _ (fm_len1 x)]; simp [fmL, tabs]

local macro_rules | `(tactic| walk_at "call ref") => `(tactic| (k_dflt (refine c_IFMT _ _ (G.of (by k_asm) (by k_asm) (by k_asm)) (by assumption) ?_); intro t9 h9 tk9 K9; have F9 := Fr.keeps (by k_asm) K9; have N9 := News.grown (by k_asm) K9; (try k_fold)))
theorem c_filemode (x : Nat) (t : Tok) (g : G w s.heap) (hdp : dp + 1 < recursionLimit)
   (h : ∀ f t' h' tk, f = catS (fmL x) → f.length = 10 → Kp s.heap h' → Q (.str f t') {s with heap := h', toks := tk}) :
   wpAny (model PG w) (AA dp un fr gd) (call (.ref 124) [.int (x : Int) t]) Q E s := by
  refine enter (binds := [(Str.ofString "mode", .int (x : Int) t)]) g (Nat.lt_of_succ_lt hdp) (by k_is) (by k_is) (BindsTo.of_eq rfl) (locs rfl) ?_ rfl rfl rfl (by decide)
  intro L h₁ tk mean mg mb F N X T
  (try k_fold)
  walk_at "steps"
  refine wpAny_For ?_
  iterate 6 (walk_at "s1")
  rename Fr _ _ _ _ => F'
  rename News _ _ _ _ => N'
  obtain ⟨tvs, htab, htl, htabs⟩ := tabs_at X
  refine for_enum rfl htab (fun i m news => m (Str.ofString "mode") = some (.int (x : Int) t) ∧ ∃ p vs n, m (Str.ofString "perm") = some (.ref p) ∧ news = [(p, W.listOf vs.toArray n)] ∧ StrsL vs ((fmL x).take i)) F' N' ?_ ?_ ?_
  · exact ⟨rfl, _, [], _, rfl, rfl, StrsL.nil⟩
  · rintro i T ti xv m₁ news₁ its h₃ tk₃ E₂ hxv hT ⟨hm1, p, vs, n, hm2, rfl, hvs⟩ F₃ N₃ Off
    have hi10 : i < 10 := by
      rcases Nat.lt_or_ge i 10 with h | h
      · exact h
      · rw [Array.getElem?_eq_none (by simp; omega)] at hxv; cases hxv
    obtain ⟨a, rfl, tv, hta, htvl, htb⟩ := htabs i xv (by simpa using hxv)
    have hvl : vs.length ≤ 10 := by rw [hvs.1]; simp [fmL, tabs]; omega
    have hoff : OwnOff its [p] := fun q hq b hb => by rw [List.mem_singleton] at hb; rw [hb]; exact Off q hq (p, W.listOf vs.toArray n) (List.mem_singleton.mpr rfl)
    clear F' N' Off
    refine asg2 rfl hT fun h₄ k₄ => ?_
    have F₄ := F₃.keeps k₄
    have N₄ := N₃.grown k₄
    clear F₃ N₃
    simp only [List.cons_append, List.nil_append] at N₄
    (try k_fold)
    walk_at "steps"
    refine wpAny_For ?_
    walk_at "steps"
    rename Fr _ _ _ _ => F₅
    rename News _ _ _ _ => N₅
    have hal : ∀ q ∈ its, ∃ o, Heap.get? _ q.1 = some o := fun q hq => ⟨_, (N₅ q (List.Mem.tail _ hq)).1⟩
    refine for_iter (fun j m news => m (Str.ofString "mode") = some (.int (x : Int) t) ∧ m (Str.ofString "index") = some (.int (i : Int) ti) ∧ m (Str.ofString "perm") = some (.ref p) ∧ news = (p, W.listOf vs.toArray n) :: its ∧ pickT i x (tabs.getD i []) = pickT i x ((tabs.getD i []).drop j))
      (iters_tuple rfl (hta.at fun o e => F₅.keep _ o e)) F₅ N₅ ?_ ?_ ?_ ?_
    · exact ⟨hm1, rfl, hm2, rfl, rfl⟩
    · intro b hb; rw [List.mem_singleton] at hb; subst hb; obtain ⟨o, e, _⟩ := hta; exact .inl ⟨o, e⟩
    · rintro j v m₂ news₂ its₂ h₆ tk₆ E₃ hj hv ⟨hn1, hn2, hn3, rfl, hpk⟩ F₆ N₆ Off₂
      obtain ⟨b, c, hbc⟩ : ∃ b c, (tabs.getD i [])[j]? = some (b, c) := by
        have : j < (tabs.getD i []).length := by rw [← htvl]; simpa using hj
        exact ⟨_, _, List.getElem?_eq_getElem this⟩
      obtain ⟨T', tb', tc, hvT, hT'⟩ := htb j b c hbc
      have hv' : v = .ref T' := by
        have e : tv[j]? = some v := by simpa using hv
        rw [hvT] at e; exact (Option.some.inj e).symm
      subst hv'
      have hdrop : (tabs.getD i []).drop j = (b, c) :: (tabs.getD i []).drop (j + 1) := by
        rw [List.drop_eq_getElem_cons (List.getElem?_eq_some_iff.mp hbc).1, (List.getElem?_eq_some_iff.mp hbc).2]
      have hoff₂ : OwnOff its₂ [p] := fun q hq b hb => by rw [List.mem_singleton] at hb; rw [hb]; exact Off₂ q hq (p, W.listOf vs.toArray n) (List.Mem.head _)
      have hoffA : OwnOff (its ++ its₂) [p] := fun q hq => (List.mem_append.mp hq).elim (hoff q) (hoff₂ q)
      refine asg2 rfl (hT'.at fun o e => F₆.keep _ o e) fun h₇ k₇ => ?_
      have F₇ := F₆.keeps k₇
      have N₇ := N₆.grown k₇
      clear F₆ N₆ F₅ Off₂
      simp only [List.cons_append] at N₇
      (try k_fold)
      walk_at "steps"
      all_goals (rename Fr _ _ _ _ => F₈)
      all_goals (rename News _ _ _ _ => N₈)
      · rw [List.push_toArray] at N₈
        refine ForPost.bk ?_
        walk_at "steps"
        refine ForPost.nx ?_; refine ForEnd.mk1 p F₈ N₈ (by k_mem) (fun q hq => List.Mem.tail _ (List.mem_append_left _ hq)) rfl ?_
        refine ⟨?_, p, _, _, ?_, rfl, ?_⟩
        · (repeat (refine lk_ne ?hne ?_; (case hne => decide))); assumption
        · (repeat (refine lk_ne ?hne ?_; (case hne => decide))); assumption
        · rw [fm_take x i hi10, hpk, hdrop, pick_hit (by rw [hits0 (by assumption)]; simpa using (by assumption : x &&& 61440 = b))]
          exact StrsL.snoc hvs ⟨_, rfl⟩
      · refine ForPost.nx ?_; refine ForEnd.mk2 p F₈ N₈ (by k_mem) (fun q hq => List.Mem.tail _ (List.mem_append_right _ hq)) (fun q hq => List.Mem.tail _ (List.mem_append_left _ hq)) hal rfl ?_
        refine ⟨?_, ?_, ?_, rfl, ?_⟩
        · (repeat (refine lk_ne ?hne ?_; (case hne => decide))); assumption
        · (repeat (refine lk_ne ?hne ?_; (case hne => decide))); assumption
        · (repeat (refine lk_ne ?hne ?_; (case hne => decide))); assumption
        · rw [hpk, hdrop, pick_miss (by rw [hits0 (by assumption)]; simpa using (by assumption : ¬ x &&& 61440 = b))]
      · rw [List.push_toArray] at N₈
        refine ForPost.bk ?_
        walk_at "steps"
        refine ForPost.nx ?_; refine ForEnd.mk1 p F₈ N₈ (by k_mem) (fun q hq => List.Mem.tail _ (List.mem_append_left _ hq)) rfl ?_
        refine ⟨?_, p, _, _, ?_, rfl, ?_⟩
        · (repeat (refine lk_ne ?hne ?_; (case hne => decide))); assumption
        · (repeat (refine lk_ne ?hne ?_; (case hne => decide))); assumption
        · rw [fm_take x i hi10, hpk, hdrop, pick_hit (by rw [hits1 (by assumption)]; simpa using (by assumption : x &&& b = b))]
          exact StrsL.snoc hvs ⟨_, rfl⟩
      · refine ForPost.nx ?_; refine ForEnd.mk2 p F₈ N₈ (by k_mem) (fun q hq => List.Mem.tail _ (List.mem_append_right _ hq)) (fun q hq => List.Mem.tail _ (List.mem_append_left _ hq)) hal rfl ?_
        refine ⟨?_, ?_, ?_, rfl, ?_⟩
        · (repeat (refine lk_ne ?hne ?_; (case hne => decide))); assumption
        · (repeat (refine lk_ne ?hne ?_; (case hne => decide))); assumption
        · (repeat (refine lk_ne ?hne ?_; (case hne => decide))); assumption
        · rw [hpk, hdrop, pick_miss (by rw [hits1 (by assumption)]; simpa using (by assumption : ¬ x &&& b = b))]
    · rintro m₂ news₂ h₆ tk₆ E₃ ⟨hn1, hn2, hn3, rfl, hpk⟩ F₆ N₆
      have hnil : (tabs.getD i []).drop tv.toArray.size = [] := by simp [htvl]
      (try k_fold)
      walk_at "steps"
      all_goals (rename Fr _ _ _ _ => F₈)
      all_goals (rename News _ _ _ _ => N₈)
      all_goals (rw [List.push_toArray] at N₈)
      all_goals (refine ForPost.nx ?_; refine ForEnd.mk1 p F₈ N₈ (by k_mem) (fun q hq => List.Mem.tail _ hq) rfl ?_)
      all_goals (refine ⟨?_, p, _, _, ?_, rfl, ?_⟩)
      any_goals ((repeat (refine lk_ne ?hne ?_; (case hne => decide))); with_reducible assumption)
      · rw [fm_take x i hi10, hpk, hnil, pickT, if_pos (by omega)]
        exact StrsL.snoc hvs ⟨_, rfl⟩
      · rw [fm_take x i hi10, hpk, hnil, pickT, if_neg (by omega)]
        exact StrsL.snoc hvs ⟨_, rfl⟩
  · rintro m₁ news₁ h₃ tk₃ E₂ ⟨hm1, p, vs, n, hm2, rfl, hvs⟩ F₃ N₃
    (try k_fold)
    walk_at "steps"
    have hfl : (fmL x).length = 10 := by simp [fmL, tabs]
    rw [show (fmL x).take tvs.toArray.size = fmL x by rw [List.take_of_length_le]; simp [htl, hfl]] at hvs
    refine joinE ⟨_, N₃.get (List.mem_singleton.mpr rfl), rfl, _, rfl⟩ hvs (fun y hy => ?_) (by omega) fun t' k => ?_
    · obtain ⟨i, hi⟩ := List.getElem?_of_mem hy
      have hi10 : i < 10 := by
        rcases Nat.lt_or_ge i 10 with h | h
        · exact h
        · rw [List.getElem?_eq_none (by omega)] at hi; cases hi
      have h1 := fm_take x i hi10
      rw [List.take_succ, hi] at h1
      have := List.append_cancel_left h1
      simp at this; subst this; exact pick_len i x hi10
    · exact h _ _ _ _ rfl (fm_len x) F₃.keep
end
/- D4 -/
section
variable {w : World} {dp un : Nat} {fr : Option (List Env)} {gd : Option (List Code)} {s : Shared} {Q E : Value → Shared → Prop}
theorem anewD4 : True := by
  w_top off
  trivial
theorem len_app (a b : Str) : (a ++ b).length = a.length + b.length := by show (a.cps ++ b.cps).size = _; simp; rfl
theorem len_chr (x : Str) (i : Nat) : (chrOf x i).length = 1 := rfl
theorem parts_len (x : Nat) : ∀ y ∈ partsS x, y.length ≤ 1000 := by
  intro y hy
  simp only [partsS, List.mem_cons, List.not_mem_nil, or_false] at hy
  rcases hy with rfl | rfl | rfl | rfl <;> simp only [triS, len_app, len_chr] <;> decide

theorem itx_len (n : Nat) (hn : n < 1000000) : (itx n).length ≤ 1000 := by
  have e := int_text_length_le10 (a := (n : Int)) (k := 6) (by decide) (by show n < 10 ^ 6; exact hn)
  unfold itx
  rw [PySem.ofString_length]; omega
theorem cat_len : ∀ xs : List Str, (∀ x ∈ xs, x.length ≤ 20) → (catS xs).length ≤ 20 * xs.length
  | [], _ => Nat.le_refl _
  | x :: r, h => by
    have h1 := h x (by simp)
    have h2 := cat_len r (fun y hy => h y (by simp [hy]))
    show (x ++ catS r).length ≤ _
    rw [len_app]; simp only [List.length_cons]; omega
theorem kinds_len (k : Nat) : (kindsS k).length ≤ 1000 := by
  refine Nat.le_trans (cat_len _ ?_) (by simp)
  intro y hy
  rw [List.mem_map] at hy
  obtain ⟨o, _, rfl⟩ := hy
  split <;> decide +kernel
theorem parts_len20 (x : Nat) : ∀ y ∈ partsS x, y.length ≤ 20 := by
  intro y hy
  simp only [partsS, List.mem_cons, List.not_mem_nil, or_false] at hy
  rcases hy with rfl | rfl | rfl | rfl <;> simp only [triS, len_app, len_chr] <;> decide
theorem view_len (x : Nat) (hx : x < 131072) : ∀ y ∈ viewS x, y.length ≤ 1000 := by
  intro y hy
  simp only [viewS, List.mem_append, List.mem_cons, List.not_mem_nil, or_false] at hy
  rcases hy with (rfl | hy) | (rfl | rfl | rfl)
  · exact Nat.le_trans (cat_len _ (parts_len20 x)) (by simp [partsS])
  · exact parts_len x y hy
  · exact itx_len _ (by omega)
  · exact itx_len _ (by omega)
  · exact kinds_len _
theorem c_seen (x : Nat) (t : Tok) (g : G w s.heap) (hdp : dp + 1 < recursionLimit) (hx : x < 131072)
   (h : ∀ D h' tk, Kp s.heap h' → s.heap.get? D = none → StrsAt h' D (seenS x) → Q (.ref D) {s with heap := h', toks := tk}) :
   wpAny (model PG w) (AA dp un fr gd) (call (.ref 233) [.int (x : Int) t]) Q E s := by
  refine enterC (binds := [(Str.ofString "mode", .int (x : Int) t)]) g (Nat.lt_of_succ_lt hdp) (by k_is) (by k_is) (BindsTo.of_eq rfl) rfl (by decide +kernel) ?_ rfl rfl rfl
  intro L h₁ tk cells mean mg mb F N Y X T
  k_cells Y
  rename_i oc dc
  change Fr s.heap L h₁ (fun y => if y = Str.ofString "mode" then some (.int (x : Int) t) else none) at F
  replace dc : oc.data = .cell none := dc
  (try k_fold)
  walk_at "steps3"
  refine c_parts x t (G.of F X T) hdp hx ?_
  intro D₂ h₂ tk₂ K₂ f₂ ⟨pv, ⟨ep, e₂⟩, hpv⟩
  have N₂ := News.addO F N K₂ f₂ e₂
  have F₂ := F.keeps K₂
  clear F N
  (try dsimp only)
  walk_at "steps3"
  refine cw1 ?_
  rename Fr _ _ _ _ => F₃
  rename News _ _ _ _ => N₃
  rename (_ = Data.cell (some _)) => d₃
  have hc : Heap.IsCell _ (L + 1) _ := ⟨_, N₃.get (List.Mem.tail _ (List.Mem.tail _ (List.Mem.head _))), d₃⟩
  simp only [List.cons_append, List.nil_append] at N₃
  (try k_fold)
  refine comp_eval 7 (fun i v => ∃ z tz, [4, 2, 6, 8, 1, 10, 12][i]? = some z ∧ v = .int ((z : Nat) : Int) tz)
    (fun i y o => o = [] ∧ ∃ b tb, (([4, 2, 6, 8, 1, 10, 12] : List Nat).map fun o => if x / 4096 % 16 = o then Str.ofString "1" else Str.ofString "0")[i]? = some b ∧ y = .str b tb)
    (cl := [(Str.ofString "kind", L + 1)]) rfl (.inl ⟨by decide, by decide⟩) rfl (by decide) (by decide) ?_ ?_ ?_
  · walk_at "steps3"
    rename News _ _ _ _ => N₅
    rename Kp _ _ => k₅
    exact ⟨⟨_, _, rfl, k₅⟩, _, iters_ints rfl ⟨_, N₅.get (List.Mem.head _), rfl, _, rfl⟩ (.cons ⟨_, rfl⟩ (.cons ⟨_, rfl⟩ (.cons ⟨_, rfl⟩ (.cons ⟨_, rfl⟩ (.cons ⟨_, rfl⟩ (.cons ⟨_, rfl⟩ (.cons ⟨_, rfl⟩ .nil)))))))⟩
  · rintro i v B h₅ tk₅ C E' ⟨z, tz, hz, rfl⟩ hi hB hBC ⟨m₅, hn, hv⟩ hk
    have hv' : m₅ (Str.ofString "one") = some (.int (z : Int) tz) := by
      rcases hv with ⟨_, e⟩ | ⟨e, _⟩
      · exact e
      · cases e
    have F' : Fr B C h₅ m₅ := ⟨hn, hk, hBC⟩
    have N' : News B C h₅ [] := News.nil
    have X' := X.keeps (Kp.tr F₃.keep hB)
    have T' := T.keeps (Kp.tr F₃.keep hB)
    have hc' := Heap.IsCell.keeps hc hB
    clear F₃ N₃ X T hv hn hc
    walk_at "steps3"
    · exact ⟨_, _, [], rfl, Kp.rfl', ⟨rfl, _, _, by rw [List.getElem?_map, hz]; rfl, by show _ = Value.str (if _ then _ else _) _; rw [if_pos (by assumption)]⟩, Lie.nil, Fresh.nil⟩
    · exact ⟨_, _, [], rfl, Kp.rfl', ⟨rfl, _, _, by rw [List.getElem?_map, hz]; rfl, by show _ = Value.str (if _ then _ else _) _; rw [if_neg (by assumption)]⟩, Lie.nil, Fresh.nil⟩
  · intro h₅ tk₅ D₅ ys os hM hk₅
    obtain ⟨kv, ⟨ek, e₅⟩, hkv⟩ := strsL_made (xs := ([4, 2, 6, 8, 1, 10, 12] : List Nat).map fun o => if x / 4096 % 16 = o then Str.ofString "1" else Str.ofString "0") rfl hM
    have N₅ := News.addO F₃ N₃ hk₅ hM.fresh e₅
    have F₅ := F₃.keeps hk₅
    clear F₃ N₃ hc hM
    (try dsimp only)
    refine joinE ⟨_, e₅, rfl, _, rfl⟩ hkv (fun y hy => ?_) (by simp) fun t₆ tk₆ => ?_
    · rw [List.mem_map] at hy
      obtain ⟨o, _, rfl⟩ := hy
      split <;> decide +kernel
    (try dsimp only)
    walk_at "steps3"
    refine cw1 ?_
    walk_at "steps3"
    rename News _ _ _ _ => N₆
    refine joinE ⟨_, N₆.get (List.Mem.tail _ (List.Mem.tail _ (List.Mem.head _))), rfl, _, rfl⟩ hpv (parts_len x) (by simp [partsS]) fun t₇ tk₇ => ?_
    (try dsimp only)
    walk_at "steps3"
    rename Fr _ _ _ _ => F₇
    rename News _ _ _ _ => N₇
    have hpl : pv.length = 4 := hpv.1
    refine addL F₇ N₇ ⟨_, N₇.get (List.Mem.head _), rfl, _, rfl⟩ ⟨_, N₇.get (List.Mem.tail _ (List.Mem.tail _ (List.Mem.tail _ (List.Mem.head _)))), rfl, _, rfl⟩ (by simp [hpl]; decide) ?_
    intro r₈ h₈ F₈ N₈ l₈ k₈
    clear F₇ N₇
    walk_at "steps3"
    rename Fr _ _ _ _ => F₉
    rename News _ _ _ _ => N₉
    refine c_numbered _ _ (viewS x) (G.of F₉ X T) hdp ⟨_, N₉.get (List.Mem.head _), rfl, _, rfl⟩ ?_ rfl (view_len x hx) ?_
    · refine StrsL.append (StrsL.append (StrsL.cons ⟨_, rfl⟩ StrsL.nil) hpv) ?_
      exact StrsL.cons ⟨_, rfl⟩ (StrsL.cons ⟨_, rfl⟩ (StrsL.cons ⟨_, rfl⟩ StrsL.nil))
    · intro D h' tk' k' f' S'
      exact h D h' tk' (Kp.tr F₉.keep k') (none_back F₉.keep f') S'
end
/- D5 -/
section
variable {w : World} {dp un : Nat} {fr : Option (List Env)} {gd : Option (List Code)} {s : Shared} {Q E : Value → Shared → Prop}
theorem anewD5 : True := by
  w_top off
  trivial
local macro_rules | `(tactic| walk_at "call ref") => `(tactic| (k_dflt (first
  | refine c_IFMT _ _ (G.of (by k_asm) (by k_asm) (by k_asm)) (Nat.lt_of_succ_lt (by assumption)) ?_
  | refine c_IMODE _ _ (G.of (by k_asm) (by k_asm) (by k_asm)) (Nat.lt_of_succ_lt (by assumption)) ?_); intro t9 h9 tk9 K9; have F9 := Fr.keeps (by k_asm) K9; have N9 := News.grown (by k_asm) K9; (try k_fold); (try k_sweep)))
local macro_rules | `(tactic| walk_at "call ref") => `(tactic| (k_dflt (refine c_filemode _ _ (G.of (by k_asm) (by k_asm) (by k_asm)) (by assumption) ?_); intro f9 t9 h9 tk9 hf9 hl9 K9; have F9 := Fr.keeps (by k_asm) K9; have N9 := News.grown (by k_asm) K9; (try k_fold); (try k_sweep)))
local macro_rules | `(tactic| walk_at "call ref") => `(tactic| (k_dflt (first
  | refine c_ISDIR _ _ (G.of (by k_asm) (by k_asm) (by k_asm)) (by assumption) ?_
  | refine c_ISCHR _ _ (G.of (by k_asm) (by k_asm) (by k_asm)) (by assumption) ?_
  | refine c_ISBLK _ _ (G.of (by k_asm) (by k_asm) (by k_asm)) (by assumption) ?_
  | refine c_ISREG _ _ (G.of (by k_asm) (by k_asm) (by k_asm)) (by assumption) ?_
  | refine c_ISFIFO _ _ (G.of (by k_asm) (by k_asm) (by k_asm)) (by assumption) ?_
  | refine c_ISLNK _ _ (G.of (by k_asm) (by k_asm) (by k_asm)) (by assumption) ?_
  | refine c_ISSOCK _ _ (G.of (by k_asm) (by k_asm) (by k_asm)) (by assumption) ?_); intro h9 tk9 K9; have F9 := Fr.keeps (by k_asm) K9; have N9 := News.grown (by k_asm) K9; (try k_fold); (try k_sweep)))
local macro_rules | `(tactic| walk_at "s4") => `(tactic| (first
  | (k_unfold; (try dsimp only))
  | ((fail_if_success (with_reducible refine gd1 ?_));
     (fail_if_success (with_reducible refine gd10 ?_));
     (fail_if_success (with_reducible refine gd14 ?_));
     first | (walk1; (all_goals (try dsimp only))) | (dsimp only; walk1; (all_goals (try dsimp only))))))
theorem c_asked (x : Nat) (t : Tok) (g : G w s.heap) (hdp : dp + 2 < recursionLimit) (hx : x < 131072)
   (h : ∀ D h' tk, Kp s.heap h' → s.heap.get? D = none → StrsAt h' D (seenS x) → Q (.ref D) {s with heap := h', toks := tk}) :
   wpAny (model PG w) (AA dp un fr gd) (call (.ref 238) [.int (x : Int) t]) Q E s := by
  have hdp1 : dp + 1 < recursionLimit := Nat.lt_of_succ_lt hdp
  refine enter (binds := [(Str.ofString "mode", .int (x : Int) t)]) g (Nat.lt_of_succ_lt hdp1) (by k_is) (by k_is) (BindsTo.of_eq rfl) (locs rfl) ?_ rfl rfl rfl (by decide)
  intro L h₁ tk mean mg mb F N X T
  have hb1 : x &&& 61440 ≤ 61440 := Nat.and_le_right
  have hb2 : x &&& 4095 ≤ 4095 := Nat.and_le_right
  (try k_fold)
  repeat' (walk_at "s4")
  refine cw1 ?_
  rename Fr _ _ _ _ => F₃
  rename News _ _ _ _ => N₃
  (try k_fold)
  refine comp_eval 7 (fun i v => ∃ b, (bls x)[i]? = some b ∧ v = .bool b)
    (fun i y o => o = [] ∧ ∃ b tb, ((bls x).map fun b => if b then Str.ofString "1" else Str.ofString "0")[i]? = some b ∧ y = .str b tb)
    (cl := []) rfl (.inl ⟨by decide, by decide⟩) rfl (by decide) (by decide) ?_ ?_ ?_
  · walk_at "steps3"
    exact ⟨⟨_, _, rfl, Kp.rfl'⟩, _, iters_vals (c := fun b v => v = .bool b) (xs := bls x) rfl ⟨_, N₃.get (List.Mem.head _), rfl, _, rfl⟩ (.cons rfl (.cons rfl (.cons rfl (.cons rfl (.cons rfl (.cons rfl (.cons rfl .nil)))))))⟩
  · rintro i v B h₅ tk₅ C E' ⟨b, hb, rfl⟩ hi hB hBC ⟨m₅, hn, hv⟩ hk
    have hv' : m₅ (Str.ofString "one") = some (.bool b) := by
      rcases hv with ⟨_, e⟩ | ⟨e, _⟩
      · exact e
      · cases e
    have F' : Fr B C h₅ m₅ := ⟨hn, hk, hBC⟩
    have N' : News B C h₅ [] := News.nil
    have X' := X.keeps (Kp.tr F₃.keep hB)
    have T' := T.keeps (Kp.tr F₃.keep hB)
    clear F₃ N₃ X T hv hn
    cases b
    all_goals walk_at "steps3"
    all_goals exact ⟨_, _, [], rfl, Kp.rfl', ⟨rfl, _, _, by rw [List.getElem?_map, hb]; rfl, rfl⟩, Lie.nil, Fresh.nil⟩
  · intro h₅ tk₅ D₅ ys os hM hk₅
    obtain ⟨kv, ⟨ek, e₅⟩, hkv⟩ := strsL_made (xs := (bls x).map fun b => if b then Str.ofString "1" else Str.ofString "0") rfl hM
    have N₅ := News.addO F₃ N₃ hk₅ hM.fresh e₅
    have F₅ := F₃.keeps hk₅
    clear F₃ N₃ hM
    (try dsimp only)
    refine joinE ⟨_, e₅, rfl, _, rfl⟩ hkv (fun y hy => ?_) (by simp [bls]) fun t₆ tk₆ => ?_
    · rw [List.mem_map] at hy
      obtain ⟨o, _, rfl⟩ := hy
      split <;> decide +kernel
    (try dsimp only)
    repeat' (walk_at "s4")
    rename Fr _ _ _ _ => F₉
    rename News _ _ _ _ => N₉
    rename (_ = catS (fmL x)) => hf
    refine c_numbered _ _ (viewS x) (G.of F₉ X T) hdp1 ⟨_, N₉.get (List.Mem.head _), rfl, _, rfl⟩ ?_ rfl (view_len x hx) ?_
    · rw [← view_asked x _ hf]
      exact StrsL.cons ⟨_, rfl⟩ (StrsL.cons ⟨_, rfl⟩ (StrsL.cons ⟨_, rfl⟩ (StrsL.cons ⟨_, rfl⟩ (StrsL.cons ⟨_, rfl⟩ (StrsL.cons ⟨_, rfl⟩ (StrsL.cons ⟨_, rfl⟩ (StrsL.cons ⟨_, rfl⟩ StrsL.nil)))))))
    · intro D h' tk' k' f' S'
      exact h D h' tk' (Kp.tr F₉.keep k') (none_back F₉.keep f') S'
end
/- E1 -/
section
variable {w : World} {dp un : Nat} {fr : Option (List Env)} {gd : Option (List Code)} {s : Shared} {Q E : Value → Shared → Prop}
theorem anewE1 : True := by
  w_top off
  trivial
local macro_rules | `(tactic| walk_at "s9") => `(tactic| ((fail_if_success (with_reducible refine gd15 ?_)); walk_at "s1"))
local macro_rules | `(tactic| walk_at "steps9") => `(tactic| repeat' (walk_at "s9"))
inductive erI (ns : List Int) (us : List Value) (D₆ : Addr) (i : Nat) (m : Str → Option Value) (news : List (Addr × Obj)) : Prop
  | mk (pr pm : Addr) (ms vs : List Value) (n : Nat) (h1 : m (Str.ofString "masks") = some (.ref pm)) (h2 : m (Str.ofString "row") = some (.ref pr)) (h3 : news = [(pr, W.listOf vs.toArray n), (D₆, W.listOf us.toArray 0), (pm, W.listOf ms.toArray 0)])
    (h4 : @LT.lt Nat _ pr D₆) (h5 : @LT.lt Nat _ pm pr) (h6 : IntsN ms masksS) (h7 : IntsN vs (((vsS ns).take i).foldl stepS [33188])) : erI ns us D₆ i m news
theorem c_row (a : Addr) (vs : List Value) (ns : List Int) (g : G w s.heap) (hdp : dp < recursionLimit) (hl : s.heap.IsList a vs.toArray) (hns : IntsAre vs ns) (hlen : ns.length ≤ 63)
   (h : ∀ D h' tk, Kp s.heap h' → s.heap.get? D = none → IntsNAt h' D (rowS ns) → Q (.ref D) {s with heap := h', toks := tk}) :
   wpAny (model PG w) (AA dp un fr gd) (call (.ref 245) [.ref a]) Q E s := by
  refine enter (binds := [(Str.ofString "script", .ref a)]) g hdp (by k_is) (by k_is) (BindsTo.of_eq rfl) (locs rfl) ?_ rfl rfl rfl (by decide)
  intro L h₁ tk mean mg mb F N X T
  have hvl : vs.length ≤ 63 := by rw [hns.length]; exact hlen
  (try k_fold)
  walk_at "steps9"
  refine wpAny_For ?_
  walk_at "steps9"
  rename Fr _ _ _ _ => F₂
  rename News _ _ _ _ => N₂
  refine slice6 (s := { s with heap := _, toks := _ }) F₂ N₂ (hl.at fun o e => F₂.keep _ o e) (by omega) ?_ (by with_unfolding_all rfl) (by intro _; with_unfolding_all rfl)
  intro D₃ h₃ F₃ N₃ l₃ k₃
  clear F₂ N₂
  (try k_lt l₃)
  (try k_sweep)
  (try dsimp only)
  (try k_fold)
  walk_at "steps9"
  rename Fr _ _ _ _ => F₄
  rename News _ _ _ _ => N₄
  refine addL F₄ N₄ ⟨_, N₄.get (List.Mem.tail _ (List.Mem.head _)), rfl, _, rfl⟩ ⟨_, N₄.get (List.Mem.head _), rfl, _, rfl⟩ (by rw [sizeLine_eq]; simp; omega) ?_
  intro r₅ h₅ F₅ N₅ l₅ k₅
  clear F₄ N₄
  (try k_lt l₅)
  (try k_sweep)
  (try dsimp only)
  (try k_fold)
  walk_at "steps9"
  walk_at "last subscriptTail"
  refine slice6 (s := { s with heap := _, toks := _ }) F₅ N₅ ⟨_, N₅.get (List.Mem.head _), rfl, _, rfl⟩ (by simp; omega) ?_ (by with_unfolding_all rfl) (by intro _; with_unfolding_all rfl)
  intro D₆ h₆ F₆ N₆ l₆ k₆
  clear F₅ N₅
  (try dsimp only)
  (try k_lt l₆)
  have N₇ := News.cons (N₆ _ (.tail _ (.tail _ (.tail _ (.tail _ (.head _)))))) (News.cons (N₆ _ (.head _)) (News.cons (N₆ _ (.tail _ (.tail _ (.tail _ (.tail _ (.tail _ (.head _))))))) News.nil))
  clear N₆
  have hi6 := ints_app (IntsAre.take hns 6) (.cons 35 (tk + 1) (.cons 1 (tk + 1 + 1) (.cons 9 (tk + 1 + 1 + 1) (.cons 15 (tk + 1 + 1 + 1 + 1) (.cons 95 (tk + 1 + 1 + 1 + 1 + 1) (.cons 89 (tk + 1 + 1 + 1 + 1 + 1 + 1) .nil))))))
  replace hi6 := IntsAre.take hi6 6
  generalize List.take 6 (List.take 6 vs ++ [Value.int 35 (tk + 1), Value.int 1 (tk + 1 + 1), Value.int 9 (tk + 1 + 1 + 1), Value.int 15 (tk + 1 + 1 + 1 + 1), Value.int 95 (tk + 1 + 1 + 1 + 1 + 1), Value.int 89 (tk + 1 + 1 + 1 + 1 + 1 + 1)]) = us at N₇ hi6
  refine for_iter (erI ns us D₆)
    (iters_list rfl ⟨_, N₇.get (List.Mem.tail _ (List.Mem.head _)), rfl, _, rfl⟩) F₆ N₇ ?_ ?_ ?_ ?_
  · refine ⟨_, _, _, [_], _, rfl, rfl, rfl, ?_, ?_, masksN, .cons ⟨_, rfl⟩ .nil⟩ <;> omega
  · intro b hb; rw [List.mem_singleton] at hb; subst hb; exact .inr ⟨_, fun i m news hJ => by obtain ⟨_, _, _, _, _, _, _, rfl, _, _, _, _⟩ := hJ; exact List.Mem.tail _ (List.Mem.head _)⟩
  · clear F₆ N₇
    rintro i v m₁ news₁ its h₈ tk₈ E₂ hi hv ⟨pr, pm, ms, ws, n, hm1, hm2, rfl, hne1, hne2, hms, hws⟩ F₈ N₈ Off
    obtain ⟨x, tx, hx, rfl⟩ := ints_at hi6 i v (by simpa using hv)
    have hvl6 : us.length = 6 := by rw [hi6.length]; exact vs_len ns
    have hi6' : i < 6 := by rw [← hvl6]; simpa using hi
    have hx' : (vsS ns)[i]? = some x := hx
    have hwl : ws.length = i + 1 := by rw [hws.1, fold_len]; simp [vs_len]; omega
    have hoff : OwnOff its [pr] := fun q hq b hb => by rw [List.mem_singleton] at hb; rw [hb]; exact Off q hq (pr, W.listOf ws.toArray n) (List.Mem.head _)
    clear Off
    simp only [List.cons_append, List.nil_append] at N₈
    (try k_fold)
    walk_at "steps9"
    rename Fr _ _ _ _ => F₉
    rename News _ _ _ _ => N₉
    refine lenL (i + 1) ⟨_, N₉.get (List.Mem.head _), rfl, _, rfl⟩ hwl (by omega) ?_
    intro t9 tk9
    (try dsimp only)
    walk_at "steps9"
    have hlt : (x % ((i + 1 : Nat) : Int)).toNat < (((vsS ns).take i).foldl stepS [33188]).length := by
      rw [fold_len]; simp only [List.length_take, vs_len, List.length_singleton]
      have := Int.emod_nonneg x (show ((i + 1 : Nat) : Int) ≠ 0 by omega)
      have := Int.emod_lt_of_pos x (show 0 < ((i + 1 : Nat) : Int) by omega)
      omega
    obtain ⟨t1, ht1⟩ := intsN_at hws hlt
    refine itmH ⟨_, N₉.get (List.Mem.head _), rfl, _, rfl⟩ ht1 (Nat.lt_trans hlt (by rw [fold_len]; simp only [List.length_take, vs_len, List.length_singleton]; omega)) ?_ (by with_unfolding_all rfl)
    walk_at "steps9"
    obtain ⟨t2, ht2⟩ := intsN_at hms (i := (x / 7 % 16).toNat) (by show _ < 16; omega)
    refine itmH ⟨_, N₉.get (List.Mem.tail _ (List.Mem.tail _ (List.Mem.head _))), rfl, _, rfl⟩ ht2 (by omega) ?_ (by with_unfolding_all rfl)
    walk_at "steps9"
    rename Fr _ _ _ _ => F₁₀
    rename News _ _ _ _ => N₁₀
    rw [List.push_toArray] at N₁₀
    refine ForPost.nx ?_
    refine ForEnd.mk3 (old := [(D₆, W.listOf us.toArray 0), (pm, W.listOf ms.toArray 0)]) pr F₁₀ N₁₀ (List.Mem.head _) (fun q hq => List.Mem.tail _ (List.Mem.tail _ (List.Mem.tail _ hq))) (fun q hq => ?_) rfl (NoIt.cons rfl (NoIt.cons rfl NoIt.nil)) ?_
    · rcases List.mem_cons.mp hq with rfl | hq
      · exact List.Mem.tail _ (List.Mem.head _)
      · rw [List.mem_singleton] at hq; subst hq; exact List.Mem.tail _ (List.Mem.tail _ (List.Mem.head _))
    · refine ⟨pr, pm, ms, _, _, ?_, ?_, rfl, hne1, hne2, hms, ?_⟩
      · (repeat (refine lk_ne ?hne ?_; (case hne => decide))); assumption
      · (repeat (refine lk_ne ?hne ?_; (case hne => decide))); assumption
      · rw [fold_succ hx']
        refine IntsN.snoc hws ?_
        have e : ((((vsS ns).take i).foldl stepS [33188]).length : Int) = ((i + 1 : Nat) : Int) := by rw [← hws.1, hwl]
        rw [e]
        exact ⟨_, rfl⟩
  · clear F₆ N₇
    rintro m₁ news₁ h₈ tk₈ E₂ ⟨pr, pm, ms, ws, n, hm1, hm2, rfl, hne1, hne2, hms, hws⟩ F₈ N₈
    have hsz : us.length = 6 := by rw [hi6.length]; exact vs_len ns
    (try k_fold)
    walk_at "steps9"
    refine h pr _ _ F₈.keep (N₈.fresh (List.Mem.head _)) ⟨ws, ⟨n, N₈.get (List.Mem.head _)⟩, ?_⟩
    rw [show us.toArray.size = 6 by simpa using hsz, List.take_of_length_le (by rw [vs_len]; decide)] at hws
    exact hws
end
/- E2 -/
section
variable {w : World} {dp un : Nat} {fr : Option (List Env)} {gd : Option (List Code)} {s : Shared} {Q E : Value → Shared → Prop}
theorem anewE2 : True := by
  w_top off
  trivial
theorem c_named (f : Int) (tf : Tok) (l : Addr) (nm : List (List Str)) (g : G w s.heap) (hdp : dp < recursionLimit) (hl : LL s.heap l nm) (h7 : nm.length = 7) (h8 : ∀ xs ∈ nm, xs.length = 8) (hle : ∀ xs ∈ nm, ∀ x ∈ xs, x.length ≤ 1000)
   (h : ∀ t h' tk, Kp s.heap h' → Q (.str (toldS f nm) t) {s with heap := h', toks := tk}) :
   wpAny (model PG w) (AA dp un fr gd) (call (.ref 252) [.int f tf, .ref l]) Q E s := by
  refine enter (binds := [(Str.ofString "first", .int f tf), (Str.ofString "names", .ref l)]) g hdp (by k_is) (by k_is) (BindsTo.of_eq rfl) (locs rfl) ?_ rfl rfl rfl (by decide)
  intro L h₁ tk mean mg mb F N X T
  have hi : (f / 3024 % 7).toNat < nm.length := by omega
  have hmem : nm.getD (f / 3024 % 7).toNat [] ∈ nm := by rw [List.getD, List.getElem?_eq_getElem hi]; exact List.getElem_mem hi
  have hk : (f / 126 % 24).toNat % 8 < (nm.getD (f / 3024 % 7).toNat []).length := by rw [h8 _ hmem]; omega
  obtain ⟨vs, us, a, t, h1, _, h3, h4, h5⟩ := hl.item hi hk
  have hnl : ((nm.getD (f / 3024 % 7).toNat []).getD ((f / 126 % 24).toNat % 8) Str.empty).length ≤ 1000 := hle _ hmem _ (getD_mem hk)
  unfold toldS at h
  generalize (nm.getD (f / 3024 % 7).toNat []).getD ((f / 126 % 24).toNat % 8) Str.empty = name at *
  (try k_fold)
  walk_at "steps"
  · have e : (f / 126 % 24).toNat / 8 = 0 := by omega
    rw [e] at h; exact h _ _ _ (Fr.keep (by assumption))
  · have e : (f / 126 % 24).toNat / 8 = 1 := by omega
    rw [e] at h; exact h _ _ _ (Fr.keep (by assumption))
  · have e : (f / 126 % 24).toNat / 8 = 2 := by omega
    rw [e] at h; exact h _ _ _ (Fr.keep (by assumption))
end
/- E3 -/
section
variable {w : World} {dp un : Nat} {fr : Option (List Env)} {gd : Option (List Code)} {s : Shared} {Q E : Value → Shared → Prop}
theorem anewE3 : True := by
  w_top off
  trivial
local macro_rules | `(tactic| walk_at "s9") => `(tactic| ((fail_if_success (with_reducible refine gd17 ?_)); (fail_if_success (with_reducible refine gd18 ?_)); walk_at "s1"))
local macro_rules | `(tactic| walk_at "steps9") => `(tactic| repeat' (walk_at "s9"))
local macro_rules | `(tactic| walk_at "call type:type") => `(tactic| ((with_reducible refine gd19 ?_); refine call_type_of (Tx := "bytes") (typeIs_bytes _ _ _) (by decide +kernel) ?_))
local macro_rules | `(tactic| walk_at "binaryOp LShift int int") => `(tactic| ((with_reducible refine shl_nat ?ha ?hb ?hc ?_; (case ha => decide); (case hb => decide); (case hc => omega)); intro t' tk'))
local macro_rules | `(tactic| walk_at "binaryOp RShift int int") => `(tactic| ((with_reducible refine shr_nat ?ha ?_; (case ha => decide)); intro t' tk'))
local macro_rules | `(tactic| walk_at "binaryOp BitOr int int") => `(tactic| ((with_reducible refine or_nat ?_); intro t' tk'))
theorem c_buffer (b : Array UInt8) (t : Tok) (g : G w s.heap) (hdp : dp < recursionLimit)
   (h : ∀ h' tk, Kp s.heap h' → Q (.bytes b t) {s with heap := h', toks := tk}) :
   wpAny (model PG w) (AA dp un fr gd) (call (.ref 131) [.bytes b t]) Q E s := by
  refine enter (binds := [(Str.ofString "data", .bytes b t)]) g hdp (by k_is) (by k_is) (BindsTo.of_eq rfl) (locs rfl) ?_ rfl rfl rfl (by decide)
  intro L h₁ tk mean mg mb F N X T
  (try k_fold)
  walk_at "steps9"
  exact h _ _ (Fr.keep (by assumption))
theorem c_truth (g : G w s.heap) (hdp : dp < recursionLimit)
   (h : ∀ h' tk, Kp s.heap h' → Q (.bool false) {s with heap := h', toks := tk}) :
   wpAny (model PG w) (AA dp un fr gd) (call (.ref 138) [.bool false]) Q E s := by
  refine enter (binds := [(Str.ofString "x", .bool false)]) g hdp (by k_is) (by k_is) (BindsTo.of_eq rfl) (locs rfl) ?_ rfl rfl rfl (by decide)
  intro L h₁ tk mean mg mb F N X T
  (try k_fold)
  walk_at "steps9"
  exact h _ _ (Fr.keep (by assumption))

local macro_rules | `(tactic| walk_at "call ref") => `(tactic| (k_dflt (first
  | refine c_buffer _ _ (G.of (by k_asm) (by k_asm) (by k_asm)) (by assumption) ?_
  | refine c_truth (G.of (by k_asm) (by k_asm) (by k_asm)) (by assumption) ?_); intro h9 tk9 K9; have F9 := Fr.keeps (by k_asm) K9; have N9 := News.grown (by k_asm) K9; (try k_fold)))
inductive baI (v : Nat) (i : Nat) (m : Str → Option Value) (news : List (Addr × Obj)) : Prop
  | mk (h1 : m (Str.ofString "newline") = some (.bool false)) (h2 : ∃ tb, m (Str.ofString "leftbits") = some (.int (lbS i) tb)) (h3 : ∃ tc, m (Str.ofString "leftchar") = some (.int ((lcS v i : Nat) : Int) tc))
    (p : Addr) (vs : List Value) (n : Nat) (h4 : m (Str.ofString "out") = some (.ref p)) (h5 : news = [(p, W.listOf vs.toArray n)]) (h6 : IntsN vs ((outS v).take (onS i))) : baI v i m news
theorem c_b2a (v : Nat) (hv : v < 16777216) (t : Tok) (g : G w s.heap) (hdp : dp + 1 < recursionLimit)
   (h : ∀ t' h' tk, Kp s.heap h' → Q (.bytes ((outS v).map Nat.toUInt8).toArray t') {s with heap := h', toks := tk}) :
   wpAny (model PG w) (AA dp un fr gd) (call (.ref 146) [.bytes [(v / 65536).toUInt8, (v / 256 % 256).toUInt8, (v % 256).toUInt8].toArray t] [(Str.ofString "newline", .bool false)]) Q E s := by
  refine enter (binds := [(Str.ofString "data", _), (Str.ofString "newline", .bool false)]) g (Nat.lt_of_succ_lt hdp) (by k_is) (by k_is) (BindsTo.of_eq rfl) (locs rfl) ?_ rfl rfl rfl (by decide)
  intro L h₁ tk mean mg mb F N X T
  (try k_fold)
  walk_at "steps9"
  refine wpAny_For ?_
  walk_at "steps9"
  rename Fr _ _ _ _ => F'
  rename News _ _ _ _ => N'
  refine for_iter (baI v)
    (iters_bytes rfl _ _) F' N' ?_ ?_ ?_ ?_
  · exact ⟨rfl, ⟨_, rfl⟩, ⟨_, rfl⟩, _, [], _, rfl, rfl, IntsN.nil⟩
  · intro b hb; cases hb
  · rintro i xv m₁ news₁ its h₃ tk₃ E₂ hi ⟨c, tc', hc, rfl⟩ ⟨hm1, ⟨tb, hm2⟩, ⟨tc, hm3⟩, p, vs, n, hm4, rfl, hvs⟩ F₃ N₃ Off
    have hi3 : i < 3 := by simpa using hi
    have ho := oct_at hv hi3 hc
    rw [ho]
    have hlcb : lcS v i < 2 ^ 60 := by
      obtain rfl | rfl | rfl : i = 0 ∨ i = 1 ∨ i = 2 := by omega
      all_goals (simp only [lcS]; omega)
    have hst := lc_step hv hi3
    have hvl : vs.length ≤ 10 := by rw [hvs.1]; simp [outS]; omega
    have hoff : OwnOff its [p] := fun q hq b hb => by rw [List.mem_singleton] at hb; rw [hb]; exact Off q hq (p, W.listOf vs.toArray n) (List.mem_singleton.mpr rfl)
    simp only [List.cons_append, List.nil_append] at N₃
    clear F' N' Off
    (try k_fold)
    obtain rfl | rfl | rfl : i = 0 ∨ i = 1 ∨ i = 2 := by omega
    · replace hm2 : m₁ (Str.ofString "leftbits") = some (.int 0 tb) := hm2
      walk_at "steps9"
      refine whl_go (whl_yes ?_)
      walk_at "steps9"
      refine itmB (by decide +kernel) and63_lt ?_ (by with_unfolding_all rfl) (by intro _; with_unfolding_all rfl)
      intro t9 k9
      walk_at "steps9"
      rename Fr _ _ _ _ => F₄
      rename News _ _ _ _ => N₄
      simp only [List.push_toArray] at N₄
      refine ForPost.nx ?_
      refine ForEnd.mk1 p F₄ N₄ (by k_mem) (fun q hq => by repeat (first | exact hq | refine List.Mem.tail _ ?_)) rfl ?_
      refine ⟨?_, ?_, ?_, p, _, _, ?_, rfl, ?_⟩
      · (repeat (refine lk_ne ?hne ?_; (case hne => decide))); assumption
      · exact ⟨_, rfl⟩
      · rw [← hst]; exact ⟨_, rfl⟩
      · (repeat (refine lk_ne ?hne ?_; (case hne => decide))); assumption
      · show IntsN _ ((outS v).take 0 ++ [b64N (v / 262144 % 64)])
        refine IntsN.snoc hvs ?_
        · have e : lcS v (0 + 1) / 2 ^ (0 + 8 - 6 : Int).toNat % 64 = v / 262144 % 64 := by show v / 65536 / 2 ^ 2 % 64 = _; omega
          rw [hst, and63', e]; exact ⟨_, rfl⟩
    · replace hm2 : m₁ (Str.ofString "leftbits") = some (.int 2 tb) := hm2
      walk_at "steps9"
      refine whl_go (whl_yes ?_)
      walk_at "steps9"
      refine itmB (by decide +kernel) and63_lt ?_ (by with_unfolding_all rfl) (by intro _; with_unfolding_all rfl)
      intro t9 k9
      walk_at "steps9"
      rename Fr _ _ _ _ => F₄
      rename News _ _ _ _ => N₄
      simp only [List.push_toArray] at N₄
      refine ForPost.nx ?_
      refine ForEnd.mk1 p F₄ N₄ (by k_mem) (fun q hq => by repeat (first | exact hq | refine List.Mem.tail _ ?_)) rfl ?_
      refine ⟨?_, ?_, ?_, p, _, _, ?_, rfl, ?_⟩
      · (repeat (refine lk_ne ?hne ?_; (case hne => decide))); assumption
      · exact ⟨_, rfl⟩
      · rw [← hst]; exact ⟨_, rfl⟩
      · (repeat (refine lk_ne ?hne ?_; (case hne => decide))); assumption
      · show IntsN _ ((outS v).take 1 ++ [b64N (v / 4096 % 64)])
        refine IntsN.snoc hvs ?_
        · have e : lcS v (1 + 1) / 2 ^ (2 + 8 - 6 : Int).toNat % 64 = v / 4096 % 64 := by show v / 256 / 2 ^ 4 % 64 = _; omega
          rw [hst, and63', e]; exact ⟨_, rfl⟩
    · replace hm2 : m₁ (Str.ofString "leftbits") = some (.int 4 tb) := hm2
      walk_at "steps9"
      refine whl_go (whl_yes ?_)
      walk_at "steps9"
      refine itmB (by decide +kernel) and63_lt ?_ (by with_unfolding_all rfl) (by intro _; with_unfolding_all rfl)
      intro t9 k9
      walk_at "steps9"
      refine itmB (by decide +kernel) and63_lt ?_ (by with_unfolding_all rfl) (by intro _; with_unfolding_all rfl)
      intro t9 k9
      walk_at "steps9"
      rename Fr _ _ _ _ => F₄
      rename News _ _ _ _ => N₄
      simp only [List.push_toArray] at N₄
      refine ForPost.nx ?_
      refine ForEnd.mk1 p F₄ N₄ (by k_mem) (fun q hq => by repeat (first | exact hq | refine List.Mem.tail _ ?_)) rfl ?_
      refine ⟨?_, ?_, ?_, p, _, _, ?_, rfl, ?_⟩
      · (repeat (refine lk_ne ?hne ?_; (case hne => decide))); assumption
      · exact ⟨_, rfl⟩
      · rw [← hst]; exact ⟨_, rfl⟩
      · (repeat (refine lk_ne ?hne ?_; (case hne => decide))); assumption
      · show IntsN _ ((outS v).take 2 ++ [b64N (v / 64 % 64)] ++ [b64N (v % 64)])
        refine IntsN.snoc (IntsN.snoc hvs ?_) ?_
        · have e : lcS v (2 + 1) / 2 ^ (4 + 8 - 6 : Int).toNat % 64 = v / 64 % 64 := by show v % 65536 / 2 ^ 6 % 64 = _; omega
          rw [hst, and63', e]; exact ⟨_, rfl⟩
        · have e : lcS v (2 + 1) / 2 ^ (4 + 8 - 6 - 6 : Int).toNat % 64 = v % 64 := by show v % 65536 / 2 ^ 0 % 64 = _; omega
          rw [hst, and63', e]; exact ⟨_, rfl⟩
  · rintro m₁ news₁ h₃ tk₃ E₂ ⟨hm1, ⟨tb, hm2⟩, ⟨tc, hm3⟩, p, vs, n, hm4, rfl, hvs⟩ F₃ N₃
    replace hm2 : m₁ (Str.ofString "leftbits") = some (.int 0 tb) := hm2
    (try k_fold)
    walk_at "steps9"
    have hz : IntsN vs (outS v) := hvs
    refine call_bytes_ints ⟨_, N₃.get (List.mem_singleton.mpr rfl), rfl, _, rfl⟩ (intsN_are hz) ?_ ?_ rfl ?_
    · intro x hx
      obtain ⟨z, hz', rfl⟩ := List.mem_map.mp hx
      simp only [outS, List.mem_cons, List.not_mem_nil, or_false] at hz'
      have hb := b64_lt
      rcases hz' with rfl | rfl | rfl | rfl
      · have := b64_lt (v / 262144 % 64); omega
      · have := b64_lt (v / 4096 % 64); omega
      · have := b64_lt (v / 64 % 64); omega
      · have := b64_lt (v % 64); omega
    · rw [hz.1, sizeLine_eq]; simp [outS]
    · intro h' t' k' K'
      exact h _ _ _ (Kp.tr F₃.keep K')
end
/- E4 -/
section
variable {w : World} {dp un : Nat} {fr : Option (List Env)} {gd : Option (List Code)} {s : Shared} {Q E : Value → Shared → Prop}
theorem anewE4 : True := by
  w_top off
  trivial
theorem c_b64 (v : Nat) (hv : v < 16777216) (alt : Array UInt8) (ha : alt.size = 2) (t ta : Tok) (g : G w s.heap) (hdp : dp + 2 < recursionLimit)
   (h : ∀ t' h' tk, Kp s.heap h' → Q (.bytes (trS ((outS v).map Nat.toUInt8).toArray (mtab #[43, 47] alt)) t') {s with heap := h', toks := tk}) :
   wpAny (model PG w) (AA dp un fr gd) (call (.ref 154) [.bytes [(v / 65536).toUInt8, (v / 256 % 256).toUInt8, (v % 256).toUInt8].toArray t, .bytes alt ta]) Q E s := by
  have hs2 : (#[43, 47] : Array UInt8).size = alt.size := by rw [ha]; rfl
  have hos : ((outS v).map Nat.toUInt8).toArray.size ≤ 1000 := by simp [outS]
  have hdp1 : dp + 1 < recursionLimit := Nat.lt_of_succ_lt hdp
  refine enter (binds := [(Str.ofString "s", _), (Str.ofString "altchars", .bytes alt ta)]) g (Nat.lt_of_succ_lt hdp1) (by k_is) (by k_is) (BindsTo.of_defaults rfl (g.k _ _ (by k_is)) rfl rfl rfl) (locs rfl) ?_ rfl rfl rfl (by decide)
  intro L h₁ tk mean mg mb F N X T
  (try k_fold)
  walk_at "steps3"
  refine c_b2a v hv _ (G.of F X T) hdp ?_
  intro t₂ h₂ tk₂ K₂
  have F₂ := F.keeps K₂
  have N₂ := N.grown K₂
  clear F N
  (try k_fold)
  walk_at "steps"
  · with_reducible refine gm_trans ?_
    iterate 4 (walk_at "s1")
    rename Fr _ _ _ _ => F₃
    with_reducible refine gm_mt F₃ X ?_
    (try dsimp only)
    walk_at "steps"
    with_reducible refine call_mt hs2 ?_
    intro t₃ tk₃
    (try dsimp only)
    walk_at "steps"
    with_reducible refine call_tr (mtab_size _ _) hos ?_
    intro t₄ tk₄
    walk_at "steps"
    exact h _ _ _ F₃.keep
  · exfalso
    omega
end
/- E5 -/
section
variable {w : World} {dp un : Nat} {fr : Option (List Env)} {gd : Option (List Code)} {s : Shared} {Q E : Value → Shared → Prop}
theorem anewE5 : True := by
  w_top off
  trivial
local macro_rules | `(tactic| walk_at "newTuple") => `(tactic| (walk_at "nt0"))
theorem c_file (i sl ot : Nat) (hi : i < 7) (hsl : sl = 62 ∨ sl = 63) (hot : ot < 64) (t1 t2 t3 : Tok) (g : G w s.heap) (hdp : dp + 3 < recursionLimit)
   (h : ∀ t' h' tk, Kp s.heap h' → Q (.str (fileS i sl ot) t') {s with heap := h', toks := tk}) :
   wpAny (model PG w) (AA dp un fr gd) (call (.ref 257) [.int (i : Int) t1, .int (sl : Int) t2, .int (ot : Int) t3]) Q E s := by
  have hdp2 : dp + 2 < recursionLimit := Nat.lt_of_succ_lt hdp
  have hdp1 : dp + 1 < recursionLimit := Nat.lt_of_succ_lt hdp2
  refine enterC (binds := [(Str.ofString "place", .int (i : Int) t1), (Str.ofString "slash", .int (sl : Int) t2), (Str.ofString "other", .int (ot : Int) t3)]) g (Nat.lt_of_succ_lt hdp1) (by k_is) (by k_is) (BindsTo.of_eq rfl) rfl (by decide +kernel) ?_ rfl rfl rfl
  intro L h₁ tk cells mean mg mb F N Y X T
  k_cells Y
  rename_i o1 o2 o3 d1 d2 d3
  change Fr s.heap L h₁ (fun y => none) at F
  replace d1 : o1.data = .cell (some (.int (ot : Int) t3)) := d1
  replace d2 : o2.data = .cell (some (.int (sl : Int) t2)) := d2
  replace d3 : o3.data = .cell (some (.int (i : Int) t1)) := d3
  (try k_fold)
  walk_at "steps"
  refine wpAny_For ?_
  walk_at "steps"
  rename Fr _ _ _ _ => F₃
  rename News _ _ _ _ => N₃
  have hc1 : Heap.IsCell _ (L + 1) _ := ⟨_, N₃.get (List.Mem.tail _ (List.Mem.tail _ (List.Mem.head _))), d3⟩
  have hc2 : Heap.IsCell _ (L + 1 + 1) _ := ⟨_, N₃.get (List.Mem.tail _ (List.Mem.head _)), d2⟩
  have hc3 : Heap.IsCell _ (L + 1 + 1 + 1) _ := ⟨_, N₃.get (List.Mem.head _), d1⟩
  refine comp_eval 3 (fun j v => ∃ z tz, [2, 1, 0][j]? = some z ∧ v = .int ((z : Nat) : Int) tz)
    (fun j y o => o = [] ∧ ∃ t, y = .int ((figS i sl ot j : Nat) : Int) t)
    (cl := [(Str.ofString "slash", L + 1 + 1), (Str.ofString "place", L + 1), (Str.ofString "other", L + 1 + 1 + 1)]) rfl (.inl ⟨by decide, by decide⟩) rfl (by decide) (by decide) ?_ ?_ ?_
  · walk_at "steps"
    rename News _ _ _ _ => N₅
    rename Kp _ _ => k₅
    refine ⟨⟨_, _, rfl, k₅⟩, _, (iters_tuple rfl ⟨_, N₅.get (List.Mem.head _), rfl, _, rfl⟩).imp rfl fun j v hj hv => ?_⟩
    have hj3 : j < 3 := hj
    obtain rfl | rfl | rfl : j = 0 ∨ j = 1 ∨ j = 2 := by omega
    · simp at hv; exact ⟨2, _, rfl, hv.symm⟩
    · simp at hv; exact ⟨1, _, rfl, hv.symm⟩
    · simp at hv; exact ⟨0, _, rfl, hv.symm⟩
  · rintro j v B h₅ tk₅ C E' ⟨z, tz, hz, rfl⟩ hj hB hBC ⟨m₅, hn, hv⟩ hk
    have hv' : m₅ (Str.ofString "k") = some (.int (z : Int) tz) := by
      rcases hv with ⟨_, e⟩ | ⟨e, _⟩
      · exact e
      · cases e
    have F' : Fr B C h₅ m₅ := ⟨hn, hk, hBC⟩
    have N' : News B C h₅ [] := News.nil
    have X' := X.keeps (Kp.tr F₃.keep hB)
    have T' := T.keeps (Kp.tr F₃.keep hB)
    have hc1' := Heap.IsCell.keeps hc1 hB
    have hc2' := Heap.IsCell.keeps hc2 hB
    have hc3' := Heap.IsCell.keeps hc3 hB
    clear F₃ N₃ X T hv hn hc1 hc2 hc3
    obtain rfl | rfl | rfl : j = 0 ∨ j = 1 ∨ j = 2 := by omega
    all_goals (simp at hz; subst hz)
    · walk_at "steps"
      · refine ⟨_, _, [], rfl, Kp.rfl', ⟨rfl, ?_⟩, Lie.nil, Fresh.nil⟩
        rename (_ ≠ (0 : Int)) => hq
        replace hq : ((i / 4 % 2 : Nat) : Int) ≠ 0 := hq
        rw [figS, if_pos (by show i / 4 % 2 = 1; omega)]
        exact ⟨_, rfl⟩
      · refine ⟨_, _, [], rfl, Kp.rfl', ⟨rfl, ?_⟩, Lie.nil, Fresh.nil⟩
        rename (_ = (0 : Int)) => hq
        replace hq : ((i / 4 % 2 : Nat) : Int) = 0 := hq
        rw [figS, if_neg (by show ¬ i / 4 % 2 = 1; omega)]
        exact ⟨_, rfl⟩
    · walk_at "steps"
      · refine ⟨_, _, [], rfl, Kp.rfl', ⟨rfl, ?_⟩, Lie.nil, Fresh.nil⟩
        rename (_ ≠ (0 : Int)) => hq
        replace hq : ((i / 2 % 2 : Nat) : Int) ≠ 0 := hq
        rw [figS, if_pos (by show i / 2 % 2 = 1; omega)]
        exact ⟨_, rfl⟩
      · refine ⟨_, _, [], rfl, Kp.rfl', ⟨rfl, ?_⟩, Lie.nil, Fresh.nil⟩
        rename (_ = (0 : Int)) => hq
        replace hq : ((i / 2 % 2 : Nat) : Int) = 0 := hq
        rw [figS, if_neg (by show ¬ i / 2 % 2 = 1; omega)]
        exact ⟨_, rfl⟩
    · walk_at "steps"
      · refine ⟨_, _, [], rfl, Kp.rfl', ⟨rfl, ?_⟩, Lie.nil, Fresh.nil⟩
        rename (_ ≠ (0 : Int)) => hq
        replace hq : ((i / 1 % 2 : Nat) : Int) ≠ 0 := hq
        rw [figS, if_pos (by show i / 1 % 2 = 1; omega)]
        exact ⟨_, rfl⟩
      · refine ⟨_, _, [], rfl, Kp.rfl', ⟨rfl, ?_⟩, Lie.nil, Fresh.nil⟩
        rename (_ = (0 : Int)) => hq
        replace hq : ((i / 1 % 2 : Nat) : Int) = 0 := hq
        rw [figS, if_neg (by show ¬ i / 1 % 2 = 1; omega)]
        exact ⟨_, rfl⟩
  · intro h₅ tk₅ D₅ ys os hM hk₅
    obtain ⟨ep, e₅⟩ := hM.list
    have N₅ := News.addO F₃ N₃ hk₅ hM.fresh e₅
    have F₅ := F₃.keeps hk₅
    have hyl := hM.len
    have hys : IntsN ys [figS i sl ot 0, figS i sl ot 1, figS i sl ot 2] := by
      refine ⟨by rw [hM.len]; rfl, fun j z hz => ?_⟩
      have hj : j < 3 := by
        rcases Nat.lt_or_ge j 3 with h | h
        · exact h
        · rw [List.getElem?_eq_none (by simpa using h)] at hz; cases hz
      have hy : ys[j]? = some (ys[j]'(by rw [hM.len]; exact hj)) := by simp [hM.len, hj]
      have ho : os[j]? = some (os[j]'(by rw [hM.lens]; exact hj)) := by simp [hM.lens, hj]
      obtain ⟨_, t, ht⟩ := hM.each j _ _ hy ho
      have ez : z = figS i sl ot j := by
        obtain rfl | rfl | rfl : j = 0 ∨ j = 1 ∨ j = 2 := by omega
        all_goals (simp at hz; exact hz.symm)
      exact ⟨t, by rw [hy, ht, ez]⟩
    clear F₃ N₃ hM hc1 hc2 hc3
    (try dsimp only)
    walk_at "steps"
    rename Fr _ _ _ _ => F₆
    rename News _ _ _ _ => N₆
    have N₇ := News.cons (N₆ _ (.head _)) (News.sub (news := [(L + 1 + 1 + 1, o1), (L + 1 + 1, o2), (L + 1, o3)]) N₆ fun q hq => .tail _ (.tail _ (.tail _ hq)))
    clear N₆
    dsimp only at N₇
    generalize Array.size _ = Ds at N₇ ⊢
    have hno := NoIt.old N₇ (fun _ h => h)
    have hzs := IntsN.snoc hys (v := .int (i : Int) t1) (x := i) ⟨_, rfl⟩
    refine for_iter (fun j m news => (∃ t, m (Str.ofString "value") = some (.int ((valS i sl ot j : Nat) : Int) t)) ∧ news = (Ds, { cls := .type "list", data := .seq (ys ++ [Value.int (i : Int) t1]).toArray }) :: [(L + 1 + 1 + 1, o1), (L + 1 + 1, o2), (L + 1, o3)])
      (iters_ints rfl ⟨_, N₇.get (List.Mem.head _), rfl, _, rfl⟩ hzs) F₆ N₇ ?_ ?_ ?_ ?_
    · exact ⟨⟨_, rfl⟩, rfl⟩
    · intro b hb; rw [List.mem_singleton] at hb; subst hb; exact .inr ⟨_, fun i m news hJ => by obtain ⟨_, rfl⟩ := hJ; exact List.Mem.head _⟩
    · clear F₆ N₇
      rintro j v m₁ news₁ its h₈ tk₈ E₂ hj ⟨z, tz, hz, rfl⟩ ⟨⟨tv, hm1⟩, rfl⟩ F₈ N₈ Off
      have hj4 : j < 4 := hj
      (try k_fold)
      walk_at "steps"
      rename Fr _ _ _ _ => F₉
      rename News _ _ _ _ => N₉
      have ez : z = (if j = 3 then i else figS i sl ot j) := by
        obtain rfl | rfl | rfl | rfl : j = 0 ∨ j = 1 ∨ j = 2 ∨ j = 3 := by omega
        all_goals (simp at hz; exact hz.symm)
      refine ForPost.nx ⟨_, _, _, _, rfl, F₉, N₉, hno, ?_, rfl⟩
      have e : ((valS i sl ot (j + 1) : Nat) : Int) = 64 * (valS i sl ot j : Int) + (z : Int) := by rw [valS, ← ez]; push_cast; rfl
      rw [e]; exact ⟨_, rfl⟩
    · clear F₆ N₇
      rintro m₁ news₁ h₈ tk₈ E₂ ⟨⟨tv, hm1⟩, rfl⟩ F₈ N₈
      replace hm1 : m₁ (Str.ofString "value") = some (.int ((valS i sl ot 4 : Nat) : Int) tv) := hm1
      (try k_fold)
      walk_at "steps"
      rename Fr _ _ _ _ => F₉
      rename News _ _ _ _ => N₉
      have hv24 := val_lt hi hsl hot
      generalize hV : valS i sl ot 4 = V at *
      refine call_bytes_ints ⟨_, N₉.get (List.Mem.head _), rfl, _, rfl⟩ (intsN_are (zs := [V / 65536, V / 256 % 256, V % 256]) (.cons ⟨_, rfl⟩ (.cons ⟨_, rfl⟩ (.cons ⟨_, rfl⟩ .nil)))) ?_ (by rw [sizeLine_eq]; simp) rfl ?_
      · intro x hx
        simp only [List.map_cons, List.map_nil, List.mem_cons, List.not_mem_nil, or_false] at hx
        omega
      intro h₁₀ t₁₀ tk₁₀ K₁₀
      have F₁₀ := F₉.keeps K₁₀
      have N₁₀ := N₉.grown K₁₀
      have hby : byteArr ([V / 65536, V / 256 % 256, V % 256].map fun z : Nat => (z : Int)) = [(V / 65536).toUInt8, (V / 256 % 256).toUInt8, (V % 256).toUInt8].toArray := rfl
      rw [hby]
      clear F₉ N₉
      (try dsimp only)
      (try k_fold)
      walk_at "steps3"
      · have hsl' : sl = 63 := by omega
        have hal : altOf sl = #[45, 47] := by unfold altOf; rw [if_pos (by omega)]
        rename Fr _ _ _ _ => F₁₁
        rename News _ _ _ _ => N₁₁
        refine c_b64 V hv24 _ rfl _ _ (G.of F₁₁ X T) hdp ?_
        intro t₁₂ h₁₂ tk₁₂ K₁₂
        have F₁₂ := F₁₁.keeps K₁₂
        have N₁₂ := N₁₁.grown K₁₂
        clear F₁₁ N₁₁
        rw [← hV, val_out hi hsl hot, tr4, ← hal]
        (try dsimp only)
        with_reducible refine gm_dec ?_
        (try dsimp only)
        walk_at "steps"
        refine call_dec (ch_lt hsl (fig_lt hsl hot)) (ch_lt hsl (fig_lt hsl hot)) (ch_lt hsl (fig_lt hsl hot)) (ch_lt hsl (by omega)) ?_
        intro t₁₃ tk₁₃
        exact h _ _ _ F₁₂.keep
      · have hsl' : sl = 62 := by omega
        have hal : altOf sl = #[47, 45] := by unfold altOf; rw [if_neg (by omega)]
        rename Fr _ _ _ _ => F₁₁
        rename News _ _ _ _ => N₁₁
        refine c_b64 V hv24 _ rfl _ _ (G.of F₁₁ X T) hdp ?_
        intro t₁₂ h₁₂ tk₁₂ K₁₂
        have F₁₂ := F₁₁.keeps K₁₂
        have N₁₂ := N₁₁.grown K₁₂
        clear F₁₁ N₁₁
        rw [← hV, val_out hi hsl hot, tr4, ← hal]
        (try dsimp only)
        with_reducible refine gm_dec ?_
        (try dsimp only)
        walk_at "steps"
        refine call_dec (ch_lt hsl (fig_lt hsl hot)) (ch_lt hsl (fig_lt hsl hot)) (ch_lt hsl (fig_lt hsl hot)) (ch_lt hsl (by omega)) ?_
        intro t₁₃ tk₁₃
        exact h _ _ _ F₁₂.keep
end
/- E6 -/
section
variable {w : World} {dp un : Nat} {fr : Option (List Env)} {gd : Option (List Code)} {s : Shared} {Q E : Value → Shared → Prop}
theorem anewE6 : True := by
  w_top off
  trivial
theorem c_new (l : Addr) (told : Str) (tt : Tok) (hl : s.heap.IsList l [Value.str told tt].toArray) (htl : told.length ≤ 1000) (g : G w s.heap) (hdp : dp + 1 < recursionLimit)
   (h : ∀ a h' tk, Kp s.heap h' → (∀ b ∈ RdA.all a, s.heap.get? b = none) → Rd w h' a told [] [(Str.ofString "<string>", 1)] → Q (.ref a.x) {s with heap := h', toks := tk}) :
   wpAny (model PG w) (AA dp un fr gd) (call (.ref 212) [.ref l]) Q E s := by
  refine makeB g (by k_is) (by k_is) (by k_is) ?_
  intro x dx h₀ K₀ fx fdx ltx sz₀ ex edx
  refine enterBc (B := s.heap) (ms := [(x, instObj 212 dx), (dx, emptyDict)]) (binds := [(Str.ofString "self", .ref x), (Str.ofString "modules", .ref l), (Str.ofString "dirs", .none)]) g K₀ sz₀ ?_ (by simp only [depth_under_make]; exact hdp) (by k_is) (by k_is) (BindsTo.of_defaults rfl (K₀ _ _ (g.k _ _ (by k_is))) rfl rfl rfl) (locs rfl) ?_ rfl rfl rfl (by decide)
  · intro p hp
    rcases List.mem_cons.mp hp with rfl | hp
    · exact ⟨ex, fx⟩
    · rw [List.mem_singleton] at hp; subst hp; exact ⟨edx, fdx⟩
  intro L h₁ tk mean mg mb hL F N K₁ fL X T
  (try k_fold)
  walk_at "steps"
  refine call_set1 rfl (hl.at fun o e => F.keep _ o e) ?_
  intro h₂ tk₂ eS K₂
  have fS := none_of_size (h := h₁) (Nat.le_refl h₁.objs.size)
  have lS : ∀ p ∈ [(x, instObj 212 dx), (dx, emptyDict)], @LT.lt Nat _ p.1 h₁.objs.size := fun p hp => Heap.lt_size (N p hp).1
  have N₂ := News.addO F N K₂ fS eS
  have F₂ := F.keeps K₂
  dsimp only at N₂ lS ⊢
  generalize h₁.objs.size = S at *
  clear F N
  (try k_lt lS)
  (try k_fold)
  walk_at "steps"
  rename Fr _ _ _ _ => F₃
  rename News _ _ _ _ => N₃
  rename Obj.IsDictOf _ _ _ => hd₃
  rename ((_ == sysModules) = false) => lo₃
  refine ⟨rfl, ?_⟩
  refine h ⟨x, dx, _, _, _⟩ _ _ F₃.keep ?_ ⟨N₃.get (by k_mem), ⟨_, _, _, N₃.get (by k_mem)⟩, ⟨_, N₃.get (by k_mem)⟩, ⟨[], _, N₃.get (by k_mem), StrsL.nil⟩, ⟨_, _, N₃.get (List.Mem.head _), hd₃, rfl, ?_⟩, lo₃, ?_⟩
  · intro b hb
    simp only [RdA.all, List.mem_cons, List.not_mem_nil, or_false] at hb
    rcases hb with rfl | rfl | rfl | rfl | rfl
    · exact (N₃ _ (.tail _ (.tail _ (.tail _ (.head _))))).2.2
    · exact (N₃ _ (.tail _ (.tail _ (.tail _ (.tail _ (.head _)))))).2.2
    · exact (N₃ _ (.tail _ (.tail _ (.head _)))).2.2
    · exact (N₃ _ (.tail _ (.head _))).2.2
    · exact (N₃ _ (.head _)).2.2
  · intro i k r hi
    cases i with
    | zero => simp at hi; obtain ⟨rfl, rfl⟩ := hi; exact ⟨_, rfl⟩
    | succ i => simp at hi
  · dsimp only
    refine ⟨ltx, lS.1, ?_, ?_⟩
    · exact And.left (by assumption)
    · exact And.left (by assumption)
end
/- E7 -/
section
local macro_rules | `(tactic| walk_at "none such") => `(tactic| skip)
variable {w : World} {dp un : Nat} {fr : Option (List Env)} {gd : Option (List Code)} {s : Shared} {Q E : Value → Shared → Prop}
theorem anewE7 : True := by
  w_top off
  trivial
theorem alpha_sz : alphaS.cps.size = 64 := by decide +kernel
local macro_rules | `(tactic| walk_at "subscriptTail Name Name str int") => `(tactic| ((with_reducible refine gd8 ?_); k_dflt (refine' chrAt ?i ?b ?_ ?s; (case i => exact lt_sz 64 alpha_sz (by assumption)); (case b => omega); (case s => with_unfolding_all rfl); k_whole); intro t' tk'))
local macro_rules | `(tactic| walk_at "newList") => `(tactic| (k_here; k_dflt (refine' newListF ?k1 ?k2 ?_; (case k1 => k_asm); (case k2 => k_asm); k_whole); intro l' h' F' N' l1 kp' fr'; (try k_lt l1); (try k_sweep)))
local macro_rules | `(tactic| walk_at "newTuple") => `(tactic| (walk_at "nt0"))
inductive mdI (a : RdA) (ot : Nat) (base : List (Addr × Obj)) (i : Nat) (m : Str → Option Value) (news : List (Addr × Obj)) : Prop
  | mk (h1 : m (Str.ofString "reader") = some (.ref a.x)) (D : Addr) (vs : List Value) (n : Nat) (h2 : m (Str.ofString "heads") = some (.ref D)) (h3 : news = (D, W.listOf (List.toArray vs) n) :: base) (h4 : StrsL vs (headsS (chrOf alphaS ot) i)) (h5 : @Ne Nat a.ds D) : mdI a ot base i m news
inductive meI (a : RdA) (hs : List Str) (base : List (Addr × Obj)) (i : Nat) (m : Str → Option Value) (news : List (Addr × Obj)) : Prop
  | mk (h1 : m (Str.ofString "reader") = some (.ref a.x)) (ds : List Value) (nd : Nat) (h3 : news = (a.ds, W.listOf (List.toArray ds) nd) :: base) (h4 : StrsL ds (hs.take i)) : meI a hs base i m news
theorem c_made (k ot : Nat) (hk : k < 3) (hot : ot < 64) (told : Str) (htl : told.length ≤ 1000) (t1 t2 t3 : Tok) (g : G w s.heap) (hdp : dp + 2 < recursionLimit)
   (h : ∀ a h' tk, Kp s.heap h' → (∀ b ∈ RdA.all a, s.heap.get? b = none) → Rd w h' a told (headsS (chrOf alphaS ot) k) [(Str.ofString "<string>", 1)] → Q (.ref a.x) {s with heap := h', toks := tk}) :
   wpAny (model PG w) (AA dp un fr gd) (call (.ref 262) [.int (k : Int) t1, .int (ot : Int) t2, .str told t3]) Q E s := by
  have hdp1 : dp + 1 < recursionLimit := Nat.lt_of_succ_lt hdp
  refine enterC (binds := [(Str.ofString "size", .int (k : Int) t1), (Str.ofString "other", .int (ot : Int) t2), (Str.ofString "told", .str told t3)]) g (Nat.lt_of_succ_lt hdp1) (by k_is) (by k_is) (BindsTo.of_eq rfl) rfl (by decide +kernel) ?_ rfl rfl rfl
  intro L h₁ tk cells mean mg mb F N Y X T
  k_cells Y
  rename_i o1 o2 d1 d2
  change Fr s.heap L h₁ (fun y => if y = Str.ofString "told" then some (.str told t3) else if y = Str.ofString "size" then some (.int (k : Int) t1) else none) at F
  replace d1 : o1.data = .cell none := d1
  replace d2 : o2.data = .cell (some (.int (ot : Int) t2)) := d2
  (try k_fold)
  walk_at "steps3"
  rename Obj => oc
  rename (Obj.data oc = _) => doc
  rename Fr _ _ _ _ => F₂
  rename News _ _ _ _ => N₂
  refine c_new _ told t3 ⟨_, N₂.get (List.Mem.head _), rfl, _, rfl⟩ htl (G.of F₂ X T) hdp ?_
  intro a h₃ tk₃ K₃ fa R₃
  obtain ⟨tt, u1, u2, u3, dvs, dn, oi, kvs, hrd, hdv, hik, him⟩ := R₃.open
  have nm := R₃.nomod
  have od := R₃.ord
  obtain ⟨od1, od2, od3, od4⟩ := od
  have hdv0 : dvs = [] := List.length_eq_zero_iff.mp hdv.1
  subst hdv0
  have N₃ : News s.heap L h₃ (rdNews w a told tt u1 u2 u3 [] dn oi ++ [(L + 1 + 1, oc), (L + 1, o2)]) := fun p hp => by
    rcases List.mem_append.mp hp with hp | hp
    · refine ⟨hrd p hp, fun e => ?_, none_back F₂.keep (fa p.1 (rd_addr hp))⟩
      have h1 := fa p.1 (rd_addr hp)
      obtain ⟨oL, _, _, hoL, _⟩ := F₂.ns
      rw [e, hoL] at h1; cases h1
    · exact N₂.grown K₃ p (List.Mem.tail _ hp)
  have F₃ := F₂.keeps K₃
  have ne1 : @Ne Nat a.ds (L + 1 + 1) := alive_ne (fa _ (by simp [RdA.all])) (N₂.get (List.Mem.tail _ (List.Mem.head _)))
  have ne2 : @Ne Nat a.ds (L + 1) := alive_ne (fa _ (by simp [RdA.all])) (N₂.get (List.Mem.tail _ (List.Mem.tail _ (List.Mem.head _))))
  have fa' : ∀ b ∈ a.all, s.heap.get? b = none := fun b hb => none_back F₂.keep (fa b hb)
  clear F₂ N₂ R₃ hrd
  simp only [rdNews, List.cons_append, List.nil_append] at N₃
  (try dsimp only)
  walk_at "steps3"
  rename Fr _ _ _ _ => F₄
  rename News _ _ _ _ => N₄
  have N₅ := News.sub (news := _ :: _) N₄ fun q hq => List.Mem.tail _ hq
  clear N₄
  refine wpAny_For ?_
  walk_at "steps"
  rename Fr _ _ _ _ => F₆
  rename News _ _ _ _ => N₆
  rename IsRange _ _ _ _ _ _ _ _ => a4
  refine for_iter (mdI a ot (rdNews w a told tt u1 u2 u3 [] dn oi ++ [(L + 1 + 1, oc), (L + 1, o2)]))
    (iters_range (n := k) rfl a4 (by omega)) F₆ N₆ ?_ ?_ ?_ ?_
  · refine ⟨rfl, _, [_], _, rfl, rfl, StrsL.cons ⟨_, rfl⟩ StrsL.nil, ?_⟩
    omega
  · intro b hb; cases hb
  · have hno := NoIt.old (l := rdNews w a told tt u1 u2 u3 [] dn oi ++ [(L + 1 + 1, oc), (L + 1, o2)]) N₆ (fun q hq => List.Mem.tail _ hq)
    clear F₆ N₆
    rintro i v m₁ news₁ its h₈ tk₈ E₂ hi ⟨ti, rfl⟩ ⟨hm1, D, vs, n, hm2, rfl, hvs, hneD⟩ F₈ N₈ Off
    simp only [rdNews, List.cons_append, List.nil_append] at N₈
    (try k_fold)
    walk_at "steps"
    rename Fr _ _ _ _ => F₉
    rename News _ _ _ _ => N₉
    have hcA : Heap.IsCell _ (L + 1 + 1) _ := ⟨_, N₉.get (.tail _ (.tail _ (.tail _ (.tail _ (.tail _ (.tail _ (.head _))))))), doc⟩
    have hcO : Heap.IsCell _ (L + 1) _ := ⟨_, N₉.get (.tail _ (.tail _ (.tail _ (.tail _ (.tail _ (.tail _ (.tail _ (.head _)))))))), d2⟩
    have hch : (chrOf alphaS ot).length = 1 := rfl
    refine comp2_assign (cl := [(Str.ofString "other", L + 1), (Str.ofString "alphabet", L + 1 + 1)]) (headsS (chrOf alphaS ot) i) [Str.ofString "/", chrOf alphaS ot] ?_ (by simp) rfl rfl (by decide) (by decide) (by decide) (by decide) rfl (by decide) rfl rfl F₉.ns (fun _ => rfl) (fun _ _ => rfl) ?_ ?_ ?_ ?_
    · rw [heads_num]
      obtain rfl | rfl | rfl : i = 0 ∨ i = 1 ∨ i = 2 := by omega
      all_goals decide
    · walk_at "steps"
      refine ⟨⟨_, _, rfl, Kp.rfl'⟩, _, iters_strs rfl ⟨_, N₉.get (List.Mem.head _), rfl, _, rfl⟩ hvs⟩
    · intro B h₃ tk₃ C m hB F'
      have X' := X.keeps (Kp.tr F₉.keep hB)
      have T' := T.keeps (Kp.tr F₉.keep hB)
      have hcA' := Heap.IsCell.keeps hcA hB
      have hcO' := Heap.IsCell.keeps hcO hB
      have N' : News B C h₃ [] := News.nil
      clear F₉ N₉ X T hcA hcO
      walk_at "steps"
      rename News _ _ _ _ => N₅
      rename Kp _ _ => k₅
      rename (Heap.get? _ _ = none) => f₅
      refine ⟨⟨_, _, rfl, k₅⟩, _, fun b hb => ?_, iters_strs rfl ⟨_, N₅.get (List.Mem.head _), rfl, _, rfl⟩ (.cons ⟨_, rfl⟩ (.cons ⟨_, rfl⟩ .nil))⟩
      rw [List.mem_singleton] at hb; subst hb; exact f₅
    · intro a' b' ta tb B h₃ tk₃ C m ha hb hB F' hmx hmy
      have X' := X.keeps (Kp.tr F₉.keep hB)
      have T' := T.keeps (Kp.tr F₉.keep hB)
      have N' : News B C h₃ [] := News.nil
      have hla : a'.length = i := heads_len _ hch i a' ha
      have hlb : b'.length = 1 := by
        simp only [List.mem_cons, List.not_mem_nil, or_false] at hb
        rcases hb with rfl | rfl
        · decide +kernel
        · exact hch
      clear F₉ N₉ X T hcA hcO ha hb
      walk_at "steps"
      all_goals exact ⟨_, _, _, rfl, Kp.rfl', rfl⟩
    · intro h' tk' D' S' fD' hn' k'
      obtain ⟨us, ⟨un', eD'⟩, hus⟩ := S'
      have F₁₀ := Fr.but F₉ hn' k'
      have N₁₀ := News.addB F₉ N₉ k' fD' eD'
      have hne' : @Ne Nat a.ds D' := (alive_ne fD' (N₉.get (List.Mem.tail _ (List.Mem.head _)))).symm
      clear F₉ N₉ hcA hcO
      (try dsimp only)
      walk_at "steps"
      refine ForPost.nx ⟨_, _, _, (D', W.listOf us.toArray un') :: (rdNews w a told tt u1 u2 u3 [] dn oi ++ [(L + 1 + 1, oc), (L + 1, o2)]), rfl, F₁₀, ?_, NoIt.cons rfl hno, ?_, D', us, un', rfl, rfl, hus, hne'⟩
      · refine News.sub N₁₀ fun q hq => ?_
        simp only [rdNews, List.cons_append, List.nil_append] at hq
        rcases List.mem_cons.mp hq with rfl | hq
        · exact List.Mem.head _
        · exact List.Mem.tail _ (List.Mem.tail _ hq)
      · (repeat (refine lk_ne ?hne ?_; (case hne => decide))); assumption
  · clear F₆ N₆
    rintro m₁ news₁ h₈ tk₈ E₂ ⟨hm1, D, vs, n, hm2, rfl, hvs, hneD⟩ F₈ N₈
    simp only [rdNews, List.cons_append, List.nil_append] at N₈
    (try k_fold)
    walk_at "steps"
    refine wpAny_For ?_
    walk_at "steps"
    have hnum : vs.length = 2 ^ k := by rw [hvs.1, heads_num]
    have hvl : vs.length ≤ 4 := by
      rw [hnum]
      obtain rfl | rfl | rfl : k = 0 ∨ k = 1 ∨ k = 2 := by omega
      all_goals decide
    have hno := NoIt.old (l := (D, W.listOf vs.toArray n) :: (a.x, instObj 212 a.dx) :: (a.dx, dictOf (rdEs w a.ms a.ds a.ig u1 u2 u3) 3) :: (a.ms, set1O w told tt) :: (a.ig, oi) :: []) N₈ (fun q hq => by
      rcases List.mem_cons.mp hq with rfl | hq
      · exact List.Mem.head _
      · simp only [List.mem_cons, List.not_mem_nil, or_false] at hq ⊢
        rcases hq with rfl | rfl | rfl | rfl <;> simp)
    have N₉ := News.cons (N₈ _ (.tail _ (.head _))) (News.sub (news := (D, W.listOf vs.toArray n) :: (a.x, instObj 212 a.dx) :: (a.dx, dictOf (rdEs w a.ms a.ds a.ig u1 u2 u3) 3) :: (a.ms, set1O w told tt) :: (a.ig, oi) :: []) N₈ (fun q hq => by
      rcases List.mem_cons.mp hq with rfl | hq
      · exact List.Mem.head _
      · simp only [List.mem_cons, List.not_mem_nil, or_false] at hq ⊢
        rcases hq with rfl | rfl | rfl | rfl <;> simp))
    refine for_iter (meI a ((headsS (chrOf alphaS ot) k)) ((D, W.listOf vs.toArray n) :: (a.x, instObj 212 a.dx) :: (a.dx, dictOf (rdEs w a.ms a.ds a.ig u1 u2 u3) 3) :: (a.ms, set1O w told tt) :: (a.ig, oi) :: []))
      (iters_strs rfl ⟨_, N₈.get (List.Mem.head _), rfl, _, rfl⟩ hvs) F₈ N₉ ?_ ?_ ?_ ?_
    · exact ⟨hm1, [], _, rfl, StrsL.nil⟩
    · intro b hb; rw [List.mem_singleton] at hb; subst hb; exact .inr ⟨_, fun i m news hJ => by obtain ⟨_, _, _, rfl, _⟩ := hJ; exact List.Mem.tail _ (List.Mem.head _)⟩
    · clear F₈ N₈ N₉
      rintro i v m₂ news₂ its h₉ tk₉ E₃ hi ⟨z, tz, hz, rfl⟩ ⟨hm3, ds, nd, rfl, hds⟩ F₁₀ N₁₀ Off
      have hoff : OwnOff its [a.ds] := fun q hq b hb => by rw [List.mem_singleton] at hb; rw [hb]; exact Off q hq (a.ds, W.listOf ds.toArray nd) (List.Mem.head _)
      have hdl : ds.length ≤ 10 := by rw [hds.1, List.length_take, ← hvs.1]; omega
      clear Off
      simp only [List.cons_append, List.nil_append] at N₁₀
      (try k_fold)
      walk_at "steps"
      rename Fr _ _ _ _ => F₁₁
      rename News _ _ _ _ => N₁₁
      rw [List.push_toArray] at N₁₁
      refine ForPost.nx ⟨_, _, _, (a.ds, W.listOf (ds ++ [Value.str z tz]).toArray (nd + 1)) :: (D, W.listOf vs.toArray n) :: (a.x, instObj 212 a.dx) :: (a.dx, dictOf (rdEs w a.ms a.ds a.ig u1 u2 u3) 3) :: (a.ms, set1O w told tt) :: (a.ig, oi) :: [], rfl, F₁₁, N₁₁, NoIt.cons rfl hno, ?_, _, _, rfl, ?_⟩
      · (repeat (refine lk_ne ?hne ?_; (case hne => decide))); assumption
      · rw [List.take_add_one, hz]; exact StrsL.snoc hds ⟨_, rfl⟩
    · clear F₈ N₈ N₉
      rintro m₂ news₂ h₉ tk₉ E₃ ⟨hm3, ds, nd, rfl, hds⟩ F₁₀ N₁₀
      (try k_fold)
      walk_at "steps"
      rw [List.take_of_length_le (Nat.le_refl _)] at hds
      refine h a _ _ F₁₀.keep fa' (Rd.make (tt := tt) (t1 := u1) (t2 := u2) (t3 := u3) (vs := ds) (n := nd) (o := oi) (fun p hp => ?_) hds hik him nm ⟨od1, od2, od3, od4⟩)
      refine N₁₀.get ?_
      simp only [rdNews, List.mem_cons, List.not_mem_nil, or_false] at hp ⊢
      rcases hp with rfl | rfl | rfl | rfl | rfl <;> simp
end
/- E8 -/
section
variable {w : World} {dp un : Nat} {fr : Option (List Env)} {gd : Option (List Code)} {s : Shared} {Q E : Value → Shared → Prop}
theorem anewE8 : True := by
  w_top off
  trivial
local macro_rules | `(tactic| walk_at "s9") => `(tactic| ((fail_if_success (with_reducible refine gd20 ?_)); (fail_if_success (with_reducible refine gd21 ?_)); (fail_if_success (with_reducible refine gd22 ?_)); walk_at "s1"))
local macro_rules | `(tactic| walk_at "steps9") => `(tactic| repeat' (walk_at "s9"))
theorem c_names (a : RdA) (told : Str) (dirs : List Str) (mem : List (Str × Nat)) (file name : Str) (tf tn : Tok) (B : Heap) (g : G w B) (hB : Kp B s.heap) (hsz : B.objs.size ≤ s.heap.objs.size) (hfr : ∀ b ∈ a.all, B.get? b = none)
   (R : Rd w s.heap a told dirs mem) (hl1 : told.length ≤ 1000) (hl2 : file.length ≤ 1000) (hl3 : name.length ≤ 1000) (hl4 : ∀ d ∈ dirs, d.length ≤ 1000) (hl5 : mem.length ≤ 1000) (hdp : dp < recursionLimit)
   (h : ∀ t' h' tk, (∀ b o, b ≠ a.ig → s.heap.get? b = some o → h'.get? b = some o) → Rd w h' a told dirs (askM told dirs mem file name) → Q (.int ((askR told dirs mem file name : Nat) : Int) t') {s with heap := h', toks := tk}) :
   wpAny (model PG w) (AA dp un fr gd) (call (.ref 209) [.ref a.x, .str file tf, .str name tn]) Q E s := by
  obtain ⟨tt, u1, u2, u3, dvs, dn, oi, kvs, hrd, hdv, hik, him⟩ := R.open
  have nm := R.nomod
  obtain ⟨od1, od2, od3, od4⟩ := R.ord
  have gB : Kp B (hideAll s.heap a.all) := fun b o e => hideAll_get _ (hB b o e) fun hm => by rw [hfr b hm] at e; cases e
  have fin : ∀ (r : Nat) (t : Tok) (o' : Obj) (h' : Heap) (tk : Nat), lkS mem name = none → ansS told dirs file name = r → Kp (hideAll s.heap a.all) h' → (∀ p ∈ rdNews w a told tt u1 u2 u3 dvs dn o', h'.get? p.1 = some p.2) →
      o'.IsDictOf (PySem.strKind PG w) (stored kvs name (.int (r : Int) t)) → ∀ t', Q (.int (r : Int) t') { s with heap := h', toks := tk } := by
    intro r t o' h' tk hlk hr hk' hn' hd' t'
    rw [stored_absent (mem_none him hlk)] at hd'
    have e1 : askR told dirs mem file name = r := by simp [askR, hlk, hr]
    have e2 : askM told dirs mem file name = mem ++ [(name, r)] := by simp [askM, hlk, hr]
    have := h t' h' tk (rd_keep hrd hk' hn') (by rw [e2]; exact Rd.make hn' hdv hd' him.snoc nm ⟨od1, od2, od3, od4⟩)
    rw [e1] at this; exact this
  refine enterB (B := hideAll s.heap a.all) (ms := rdNews w a told tt u1 u2 u3 dvs dn oi) (binds := [(Str.ofString "self", .ref a.x), (Str.ofString "filename", .str file tf), (Str.ofString "modulename", .str name tn)]) (g.keeps gB) (fun b o e => of_hideAll _ e) (by rw [hideAll_size]; exact Nat.le_refl _) (fun p hp => ⟨hrd p hp, hideAll_none _ (rd_addr hp)⟩) hdp (by k_is) (by k_is) (BindsTo.of_eq rfl) (locs rfl) ?_ rfl rfl rfl (by decide)
  intro L h₁ tk mean mg mb hL F N K₁ fL X T
  have him5 : kvs.length ≤ 1000 := by rw [him.1]; exact hl5
  generalize hBB : hideAll s.heap a.all = BB at *
  simp only [rdNews] at N
  (try k_fold)
  walk_at "steps9"
  cases hlk : lkS mem name with
  | some r =>
    obtain ⟨tr, hv⟩ := mem_some him hlk
    refine kda_in N (by k_mem) hik nm (strKind_is _ _ _ _) true (by rw [hv]; rfl) ?_
    (try dsimp only)
    walk_at "steps9"
    rename Fr _ _ _ _ => F₂
    rename News _ _ _ _ => N₂
    have e1 : askR told dirs mem file name = r := by simp [askR, hlk]
    have e2 : askM told dirs mem file name = mem := by simp [askM, hlk]
    have hn' : ∀ p ∈ rdNews w a told tt u1 u2 u3 dvs dn oi, Heap.get? _ p.1 = some p.2 := fun p hp => (N₂ p hp).1
    simp only [e1, e2] at h
    refine wpAny_getItem_of (knd := strKind PG w) (k := name) (strKind_is _ _ _ _) (kda_dict N₂ (List.Mem.tail _ (List.Mem.tail _ (List.Mem.tail _ (List.Mem.tail _ (List.Mem.head _))))) hik).mapOf hv ?_
    exact h _ _ _ (rd_keep hrd (hBB.symm ▸ F₂.keep) hn') (Rd.make hn' hdv hik him nm ⟨od1, od2, od3, od4⟩)
  | none =>
    have hv := mem_none him hlk
    refine kda_in N (by k_mem) hik nm (strKind_is _ _ _ _) false (by rw [hv]; rfl) ?_
    (try dsimp only)
    walk_at "steps9"
    refine wpAny_inSet_of (knd := strKind PG w) (k := name) (strKind_is _ _ _ _) rfl (set1_of (N.get (by k_mem))) ?_
    by_cases hnt : name = told
    · rw [decide_eq_true hnt]
      (try dsimp only)
      walk_at "steps9"
      rename Fr _ _ _ _ => F₅
      rename News _ _ _ _ => N₅
      refine kda_set F₅ N₅ (by k_updF) hik (strKind_is _ _ _ _) (by rw [sizeLine_eq]; omega) ?_
      intro h₆ o₆ F₆ N₆ D₆
      (try dsimp only at N₆)
      (try dsimp only)
      walk_at "steps9"
      exact fin 1 _ o₆ _ _ hlk (by simp [ansS, hnt]) F₆.keep (fun p hp => (N₆ p hp).1) D₆ _
    · rw [decide_eq_false hnt]
      (try dsimp only)
      walk_at "steps9"
      refine wpAny_For ?_
      walk_at "steps9"
      rename Fr _ _ _ _ => F₂
      rename News _ _ _ _ => N₂
      refine for_iter (fun i m news => m (Str.ofString "self") = some (.ref a.x) ∧ m (Str.ofString "filename") = some (.str file tf) ∧ m (Str.ofString "modulename") = some (.str name tn) ∧ news = rdNews w a told tt u1 u2 u3 dvs dn oi ∧ (i = 1 → Txt.startswith name (told ++ Str.ofString ".") = false))
        (iters_set1 rfl (N₂.get (by k_mem))) F₂ N₂ ?_ ?_ ?_ ?_
      · exact ⟨rfl, rfl, rfl, rfl, fun e => by cases e⟩
      · intro b hb; rw [List.mem_singleton] at hb; subst hb; exact .inr ⟨_, fun i m news hJ => by obtain ⟨_, _, _, rfl, _⟩ := hJ; exact List.Mem.tail _ (List.Mem.tail _ (List.Mem.tail _ (List.Mem.head _)))⟩
      · have hno := NoIt.old N₂ (fun _ h => h)
        clear F₂ N₂
        rintro i v m₂ news₂ its h₉ tk₉ E₃ hi rfl ⟨hm1, hm2, hm3, rfl, _⟩ F₁₀ N₁₀ Off
        have hoff : OwnOff its [a.ig] := fun q hq b hb => by rw [List.mem_singleton] at hb; rw [hb]; exact Off q hq (a.ig, oi) (List.Mem.tail _ (List.Mem.tail _ (List.Mem.tail _ (List.Mem.tail _ (List.Mem.head _)))))
        clear Off
        simp only [rdNews, List.cons_append, List.nil_append] at N₁₀
        (try k_fold)
        walk_at "steps9"
        · rename (Txt.startswith _ _ = true) => hsw
          rename Fr _ _ _ _ => F₅
          rename News _ _ _ _ => N₅
          refine kda_set F₅ N₅ (by k_updF) hik (strKind_is _ _ _ _) (by rw [sizeLine_eq]; omega) ?_
          intro h₆ o₆ F₆ N₆ D₆
          (try dsimp only at N₆)
          (try dsimp only)
          walk_at "steps9"
          refine ForPost.rt ?_
          (try dsimp only)
          walk_at "steps9"
          exact fin 1 _ o₆ _ _ hlk (by simp [ansS, hnt, hsw]) F₆.keep (fun p hp => (N₆ p (List.mem_append_left its hp)).1) D₆ _
        · rename (Txt.startswith _ _ = false) => hsw
          rename Fr _ _ _ _ => F₅
          rename News _ _ _ _ => N₅
          refine ForPost.nx ⟨_, _, _, rdNews w a told tt u1 u2 u3 dvs dn oi, rfl, F₅, N₅, hno, ?_, ?_, ?_, rfl, fun _ => hsw⟩
          · (repeat (refine lk_ne ?hne ?_; (case hne => decide))); assumption
          · (repeat (refine lk_ne ?hne ?_; (case hne => decide))); assumption
          · (repeat (refine lk_ne ?hne ?_; (case hne => decide))); assumption
      · clear F₂ N₂
        rintro m₂ news₂ h₉ tk₉ E₃ ⟨hm1, hm2, hm3, rfl, hns⟩ F₁₀ N₁₀
        replace hns := hns rfl
        simp only [rdNews] at N₁₀
        (try k_fold)
        walk_at "steps9"
        refine wpAny_For ?_
        walk_at "steps9"
        rename Fr _ _ _ _ => F₂
        rename News _ _ _ _ => N₂
        refine for_iter (fun i m news => m (Str.ofString "self") = some (.ref a.x) ∧ m (Str.ofString "filename") = some (.str file tf) ∧ m (Str.ofString "modulename") = some (.str name tn) ∧ news = rdNews w a told tt u1 u2 u3 dvs dn oi ∧ (dirs.take i).any (fun d => Txt.startswith file (d ++ Str.ofString "/")) = false)
          (iters_strs rfl ⟨_, N₂.get (List.Mem.head _), rfl, _, rfl⟩ hdv) F₂ N₂ ?_ ?_ ?_ ?_
        · exact ⟨hm1, hm2, hm3, rfl, rfl⟩
        · intro b hb; rw [List.mem_singleton] at hb; subst hb; exact .inr ⟨_, fun i m news hJ => by obtain ⟨_, _, _, rfl, _⟩ := hJ; exact List.Mem.head _⟩
        · have hno := NoIt.old N₂ (fun _ h => h)
          clear F₂ N₂ hm1 hm2 hm3
          rintro i v m₃ news₃ its h₁₁ tk₁₁ E₄ hi ⟨d, td, hd, rfl⟩ ⟨hm1, hm2, hm3, rfl, hany⟩ F₁₂ N₁₂ Off
          have hoff : OwnOff its [a.ig] := fun q hq b hb => by rw [List.mem_singleton] at hb; rw [hb]; exact Off q hq (a.ig, oi) (List.Mem.tail _ (List.Mem.tail _ (List.Mem.tail _ (List.Mem.tail _ (List.Mem.head _)))))
          have hdl : d.length ≤ 1000 := hl4 d (List.mem_of_getElem? hd)
          clear Off
          simp only [rdNews, List.cons_append, List.nil_append] at N₁₂
          (try k_fold)
          walk_at "steps9"
          · rename (Txt.startswith _ _ = true) => hsw
            rename Fr _ _ _ _ => F₅
            rename News _ _ _ _ => N₅
            refine kda_set F₅ N₅ (by k_updF) hik (strKind_is _ _ _ _) (by rw [sizeLine_eq]; omega) ?_
            intro h₆ o₆ F₆ N₆ D₆
            (try dsimp only at N₆)
            (try dsimp only)
            walk_at "steps9"
            refine ForPost.rt ?_
            (try dsimp only)
            walk_at "steps9"
            have han : dirs.any (fun d => Txt.startswith file (d ++ Str.ofString "/")) = true := List.any_eq_true.mpr ⟨d, List.mem_of_getElem? hd, hsw⟩
            exact fin 1 _ o₆ _ _ hlk (by simp only [ansS, if_neg hnt, hns, han]; rfl) F₆.keep (fun p hp => (N₆ p (List.mem_append_left its hp)).1) D₆ _
          · rename (Txt.startswith file _ = false) => hsw
            rename Fr _ _ _ _ => F₅
            rename News _ _ _ _ => N₅
            refine ForPost.nx ⟨_, _, _, rdNews w a told tt u1 u2 u3 dvs dn oi, rfl, F₅, N₅, hno, ?_, ?_, ?_, rfl, ?_⟩
            · (repeat (refine lk_ne ?hne ?_; (case hne => decide))); assumption
            · (repeat (refine lk_ne ?hne ?_; (case hne => decide))); assumption
            · (repeat (refine lk_ne ?hne ?_; (case hne => decide))); assumption
            · rw [List.take_add_one, hd, List.any_append, hany]; simp [hsw]
        · clear F₂ N₂ hm1 hm2 hm3
          rintro m₃ news₃ h₁₁ tk₁₁ E₄ ⟨hm1, hm2, hm3, rfl, hany⟩ F₁₂ N₁₂
          rw [List.take_of_length_le (Nat.le_refl _)] at hany
          simp only [rdNews] at N₁₂
          (try k_fold)
          walk_at "steps9"
          rename Fr _ _ _ _ => F₅
          rename News _ _ _ _ => N₅
          refine kda_set F₅ N₅ (by k_updF) hik (strKind_is _ _ _ _) (by rw [sizeLine_eq]; omega) ?_
          intro h₆ o₆ F₆ N₆ D₆
          (try dsimp only at N₆)
          (try dsimp only)
          walk_at "steps9"
          exact fin 0 _ o₆ _ _ hlk (by simp only [ansS, if_neg hnt, hns, hany]; rfl) F₆.keep (fun p hp => (N₆ p hp).1) D₆ _
end
/- E9 -/
section
variable {w : World} {dp un : Nat} {fr : Option (List Env)} {gd : Option (List Code)} {s : Shared} {Q E : Value → Shared → Prop}
theorem anewE9 : True := by
  w_top off
  trivial
theorem c_first (l : Addr) (nm : List (List Str)) (i k : Nat) (told : Str) (ti tk' tt : Tok) (g : G w s.heap) (hdp : dp < recursionLimit) (hl : LL s.heap l nm) (h7 : nm.length = 7) (h8 : ∀ xs ∈ nm, xs.length = 8) (hi : i < 7) (hk : k < 8)
   (h : ∀ t h' tk, Kp s.heap h' → Q (.int ((firstS nm i k told : Nat) : Int) t) {s with heap := h', toks := tk}) :
   wpAny (model PG w) (AA dp un fr gd) (call (.ref 267) [.ref l, .int (i : Int) ti, .int (k : Int) tk', .str told tt]) Q E s := by
  refine enterC (binds := [(Str.ofString "names", .ref l), (Str.ofString "i", .int (i : Int) ti), (Str.ofString "k", .int (k : Int) tk'), (Str.ofString "told", .str told tt)]) g hdp (by k_is) (by k_is) (BindsTo.of_eq rfl) rfl (by decide +kernel) ?_ rfl rfl rfl
  intro L h₁ tk cells mean mg mb F N Y X T
  k_cells Y
  rename_i o1 d1
  change Fr s.heap L h₁ (fun y => if y = Str.ofString "told" then some (.str told tt) else if y = Str.ofString "i" then some (.int (i : Int) ti) else if y = Str.ofString "names" then some (.ref l) else none) at F
  replace d1 : o1.data = .cell (some (.int (k : Int) tk')) := d1
  obtain ⟨vs, pl, e0, hit⟩ := id hl
  have row : ∀ j, j < 7 → ∃ a us t, vs[j]? = some (Value.ref a) ∧ s.heap.IsList a (List.toArray us) ∧ us[k]? = some (Value.str (nmAt nm j k) t) := by
    intro j hj
    have hj' : j < nm.length := by omega
    obtain ⟨a, e, us, q, hu⟩ := hit j nm[j] (by simp [hj'])
    have ej : nm.getD j [] = nm[j] := by rw [List.getD, List.getElem?_eq_getElem hj']; rfl
    have hk' : k < nm[j].length := by rw [h8 _ (List.getElem_mem hj')]; exact hk
    obtain ⟨t, et⟩ := hu.2 k nm[j][k] (by simp [hk'])
    exact ⟨a, us, t, e, q.isList, by rw [et, nmAt, ej, List.getD, List.getElem?_eq_getElem hk']; rfl⟩
  have e1 := pl.isList
  obtain ⟨a, us, t, e3, e4, e5⟩ := row i hi
  (try k_fold)
  walk_at "steps"
  · have e : firstS nm i k told = 7 := by rw [firstS, if_pos (.inl (eq_of_beq (by assumption)))]
    rw [e] at h; exact h _ _ _ F.keep
  · have e : firstS nm i k told = 7 := by rw [firstS, if_pos (.inr (eq_of_beq (by assumption)))]
    rw [e] at h; exact h _ _ _ F.keep
  · rename ((told == Str.ofString _) = false) => hq2
    rename ((told == nmAt nm i k) = false) => hq1
    have e : firstS nm i k told = fstS nm i k := by
      rw [firstS, if_neg]
      rintro (e | e)
      · rw [e] at hq1; simp at hq1
      · have e' : told = Str.ofString (toString (k : Int)) := e
        rw [e'] at hq2; simp at hq2
    rw [e] at h
    have hc : Heap.IsCell _ (L + 1) _ := ⟨_, N.get (List.Mem.head _), d1⟩
    refine comp_eval 7 (fun j v => vs[j]? = some v) (fun j y o => o = [] ∧ ∃ x t, (colS nm k)[j]? = some x ∧ y = .str x t)
      (cl := [(Str.ofString "k", L + 1)]) rfl (.inl ⟨by decide, by decide⟩) rfl (by decide) (by decide) ?_ ?_ ?_
    · walk_at "steps"
      exact ⟨⟨_, _, rfl, Kp.rfl'⟩, _, (iters_list rfl (e1.at fun o e => F.keep _ o e)).imp (by simp [e0, h7]) fun j v _ hv => by simpa using hv⟩
    · rintro j v B h₅ tk₅ C E' hv hj hB hBC ⟨m₅, hn, hvv⟩ hk₅
      obtain ⟨a', us', t', f3, f4, f5⟩ := row j hj
      rw [hv] at f3; cases f3
      have hv' : m₅ (Str.ofString "row") = some (.ref a') := by
        rcases hvv with ⟨_, e⟩ | ⟨e, _⟩
        · exact e
        · cases e
      have F' : Fr B C h₅ m₅ := ⟨hn, hk₅, hBC⟩
      have N' : News B C h₅ [] := News.nil
      have X' := X.keeps (Kp.tr F.keep hB)
      have T' := T.keeps (Kp.tr F.keep hB)
      have hc' := Heap.IsCell.keeps hc hB
      have f4' : B.IsList a' us'.toArray := f4.at fun o e => hB _ _ (F.keep _ _ e)
      clear F N X T hvv hn hc f4
      walk_at "steps"
      exact ⟨_, _, [], rfl, Kp.rfl', ⟨rfl, _, _, col_at (by omega), rfl⟩, Lie.nil, Fresh.nil⟩
    · intro h₅ tk₅ D₅ ys os hM hk₅
      obtain ⟨kv, kvp, hkv⟩ := strsL_made2 (xs := colS nm k) (by simp [colS, h7]) hM
      obtain ⟨kn, kve⟩ := id kvp
      have N₅ := News.addO F N hk₅ hM.fresh kve
      have F₅ := F.keeps hk₅
      clear F N hM
      (try dsimp only)
      walk_at "steps"
      have hi7 : i < nm.length := by omega
      have hcl : (colS nm k).length = 7 := by simp [colS, h7]
      have hce : ∀ j (hj : j < (colS nm k).length), (colS nm k)[j] = nmAt nm j k := fun j hj => by
        have := col_at (nm := nm) (k := k) (i := j) (by omega)
        rw [List.getElem?_eq_getElem hj] at this; exact Option.some.inj this
      refine indexL (j := fstS nm i k) kvp hkv (fst_lt hi7).1 (by omega) (by rw [hce]; exact fst_eq hi7) (fun m hm => by rw [hce]; exact fst_ne hi7 hm) ?_
      intro t₆ tk₆
      exact h _ _ _ F₅.keep
end
/- E10 -/
section
variable {w : World} {dp un : Nat} {fr : Option (List Env)} {gd : Option (List Code)} {s : Shared} {Q E : Value → Shared → Prop}
theorem anewE10 : True := by
  w_top off
  trivial
local macro_rules | `(tactic| walk_at "s9") => `(tactic| ((fail_if_success (with_reducible refine gd16 ?_)); walk_at "s1"))
local macro_rules | `(tactic| walk_at "steps9") => `(tactic| repeat' (walk_at "s9"))
local macro_rules | `(tactic| walk_at "newTuple") => `(tactic| (walk_at "nt0"))
inductive cmI1 (l ld : Addr) (nm du : List (List Str)) (b : Nat) (tb : Tok) (i : Nat) (m : Str → Option Value) (news : List (Addr × Obj)) : Prop
  | mk (h1 : m (Str.ofString "names") = some (.ref l)) (h2 : m (Str.ofString "due") = some (.ref ld)) (h3 : m (Str.ofString "b") = some (.int (b : Int) tb))
    (pM pm : Addr) (vs us : List Value) (n n' : Nat) (tups : List (Addr × Obj)) (h4 : m (Str.ofString "memory") = some (.ref pM)) (h5 : m (Str.ofString "met") = some (.ref pm))
    (h6 : news = (pM, W.listOf (List.toArray vs) n) :: (pm, W.listOf (List.toArray us) n') :: tups) (h7 : TupL vs (mall nm du b i).1 tups) (h8 : StrsL us (mall nm du b i).2) (h9 : @Ne Nat pM pm)
    (h10 : ∀ p ∈ tups, @Ne Nat p.1 pM ∧ @Ne Nat p.1 pm ∧ isIt p.2 = false) : cmI1 l ld nm du b tb i m news
inductive cmI2 (l ld : Addr) (nm du : List (List Str)) (b : Nat) (tb : Tok) (i : Nat) (ti : Tok) (pM pm : Addr) (its : List (Addr × Obj)) (k : Nat) (m : Str → Option Value) (news : List (Addr × Obj)) : Prop
  | mk (h1 : m (Str.ofString "names") = some (.ref l)) (h2 : m (Str.ofString "due") = some (.ref ld)) (h3 : m (Str.ofString "b") = some (.int (b : Int) tb)) (h4 : m (Str.ofString "i") = some (.int (i : Int) ti))
    (h5 : m (Str.ofString "memory") = some (.ref pM)) (h6 : m (Str.ofString "met") = some (.ref pm)) (vs us : List Value) (n n' : Nat) (tups : List (Addr × Obj))
    (h7 : news = (pM, W.listOf (List.toArray vs) n) :: (pm, W.listOf (List.toArray us) n') :: (tups ++ its)) (h8 : TupL vs (mrow nm du b i (mall nm du b i) k).1 tups) (h9 : StrsL us (mrow nm du b i (mall nm du b i) k).2)
    (h10 : ∀ p ∈ tups, @Ne Nat p.1 pM ∧ @Ne Nat p.1 pm ∧ isIt p.2 = false) : cmI2 l ld nm du b tb i ti pM pm its k m news
theorem c_memory (l ld : Addr) (nm du : List (List Str)) (b : Nat) (tb : Tok) (g : G w s.heap) (hdp : dp < recursionLimit) (hl : LL s.heap l nm) (hld : LL s.heap ld du) (h7 : nm.length = 7) (h8 : ∀ xs ∈ nm, xs.length = 8) (d7 : du.length = 7) (d8 : ∀ xs ∈ du, xs.length = 8)
   (d3 : ∀ i k, i < 7 → k < 8 → (nmAt du i k).cps.size = 3) (hb : b < 3)
   (h : ∀ D h' tk, Kp s.heap h' → PairsAt h' D (mall nm du b 7).1 → Q (.ref D) {s with heap := h', toks := tk}) :
   wpAny (model PG w) (AA dp un fr gd) (call (.ref 274) [.ref l, .ref ld, .int (b : Int) tb]) Q E s := by
  refine enter (binds := [(Str.ofString "names", .ref l), (Str.ofString "due", .ref ld), (Str.ofString "b", .int (b : Int) tb)]) g hdp (by k_is) (by k_is) (BindsTo.of_eq rfl) (locs rfl) ?_ rfl rfl rfl (by decide)
  intro L h₁ tk mean mg mb F N X T
  obtain ⟨vn, en, ln, rn⟩ := hl.rows h8
  obtain ⟨vd, ed, lnd, rd⟩ := hld.rows d8
  (try k_fold)
  walk_at "steps9"
  refine wpAny_For ?_
  walk_at "steps9"
  rename Fr _ _ _ _ => F₂
  rename News _ _ _ _ => N₂
  rename IsRange _ _ _ _ _ _ _ _ => a4
  have N₃ := News.cons (N₂ _ (.tail _ (.tail _ (.head _)))) (News.cons (N₂ _ (.tail _ (.head _))) (News.sub (news := [_]) N₂ (fun q hq => .tail _ (.tail _ (.tail _ hq)))))
  clear N₂
  refine for_iter (cmI1 l ld nm du b tb)
    (iters_range (n := 7) rfl a4 (by decide)) F₂ N₃ ?_ ?_ ?_ ?_
  · refine ⟨rfl, rfl, rfl, _, _, [_], [], _, _, _, rfl, rfl, rfl, ?_, ?_, ?_, ?_⟩
    · rw [mall_zero]; exact TupL.snoc (ps := []) (vs := []) ⟨rfl, fun i k v hi => by simp at hi⟩ (List.Mem.head _)
    · rw [mall_zero]; exact StrsL.nil
    · omega
    · intro p hp; rw [List.mem_singleton] at hp; subst hp
      refine ⟨?_, ?_, rfl⟩ <;> (dsimp only; omega)
  · intro b hb; cases hb
  · clear F₂ N₃
    rintro i v m₁ news₁ its h₃ tk₃ E₂ hi ⟨ti, rfl⟩ ⟨hm1, hm2, hm3, pM, pm, vs, us, n, n', tups, hm4, hm5, rfl, hvs, hus, hne, htp⟩ F₃ N₃ Off
    (try k_fold)
    walk_at "steps9"
    refine wpAny_For ?_
    walk_at "steps9"
    rename Fr _ _ _ _ => F₄
    rename News _ _ _ _ => N₄
    rename IsRange _ _ _ _ _ _ _ _ => a5
    have hno := NoIt.old N₄ (fun _ h => h)
    refine for_iter (cmI2 l ld nm du b tb i ti pM pm its)
      (iters_range (n := 8) rfl a5 (by decide)) F₄ N₄ ?_ ?_ ?_ ?_
    · refine ⟨?_, ?_, ?_, ?_, ?_, ?_, vs, us, n, n', tups, rfl, (by rw [mrow_zero]; exact hvs), (by rw [mrow_zero]; exact hus), htp⟩
      rotate_left 3
      · exact if_pos rfl
      all_goals (repeat (first | (with_reducible assumption) | (refine lk_ne ?hne ?_; (case hne => decide))))
    · intro b hb; cases hb
    · have hnoI : NoIt _ its := fun q hq => hno q (List.mem_append_right _ hq)
      clear F₄ N₄ hno hvs hus hm1 hm2 hm3 hm4 hm5 htp
      rintro k v m₂ news₂ its₂ h₅ tk₅ E₃ hk ⟨tk', rfl⟩ ⟨hm1, hm2, hm3, hm6, hm4, hm5, vs, us, n, n', tups, rfl, hvs, hus, htp⟩ F₅ N₅ Off₂
      obtain ⟨a1, u1, q1, f1, f2, f3⟩ := rn i k (by omega) hk
      obtain ⟨a2, u2, q2, f4, f5, f6⟩ := rd i k (by omega) hk
      have hb3 : b < (nmAt du i k).cps.size := by rw [d3 i k hi hk]; exact hb
      have hl1 := mall_len nm du b i
      have hl2 := mrow_len nm du b i (mall nm du b i) k
      have hvl : vs.length ≤ 100 := by rw [hvs.1]; omega
      have hul : us.length ≤ 100 := by rw [hus.1]; omega
      have hoff : OwnOff (tups ++ its ++ its₂) [pM, pm] := by
        intro q hq c hc
        simp only [List.mem_cons, List.not_mem_nil, or_false] at hc
        rcases List.mem_append.mp hq with hq | hq
        · rcases List.mem_append.mp hq with hq | hq
          · rcases hc with rfl | rfl
            · exact (htp q hq).1
            · exact (htp q hq).2.1
          · rcases hc with rfl | rfl
            · exact Off q hq _ (List.Mem.head _)
            · exact Off q hq _ (List.Mem.tail _ (List.Mem.head _))
        · rcases hc with rfl | rfl
          · exact Off₂ q hq _ (List.Mem.head _)
          · exact Off₂ q hq _ (List.Mem.tail _ (List.Mem.head _))
      simp only [List.cons_append] at N₅
      have hms := mrow_succ nm du b i (mall nm du b i) k
      generalize hTL : tups ++ its ++ its₂ = TL at *
      (try k_fold)
      walk_at "steps9"
      rename Fr _ _ _ _ => F₆
      rename News _ _ _ _ => N₆
      refine notin_list_strs ⟨_, N₆.get (List.Mem.tail _ (List.Mem.head _)), rfl, _, rfl⟩ (strsL_are hus) ?_
      cases hin : ((mrow nm du b i (mall nm du b i) k).2.any (· == nmAt nm i k))
      · (try dsimp only [Bool.not_false])
        walk_at "steps9"
        rename Fr _ _ _ _ => F₇
        rename News _ _ _ _ => N₇
        simp only [List.push_toArray] at N₇
        subst hTL
        rw [mstep, hin, if_neg Bool.false_ne_true] at hms
        rename Addr => T9
        obtain ⟨t9, N₈⟩ : ∃ t9, News s.heap L _ ((T9, tupO [Value.str (nmAt nm i k) q1, Value.str (chrOf (nmAt du i k) b) t9]) :: _) := ⟨_, N₇⟩
        rename (@LT.lt Nat _ pM T9 ∧ _) => lT
        refine ForPost.nx ⟨_, _, _, (pM, W.listOf (vs ++ [Value.ref T9]).toArray (n + 1)) :: (pm, W.listOf (us ++ [Value.str (nmAt nm i k) q1]).toArray (n' + 1)) :: (((T9, tupO [Value.str (nmAt nm i k) q1, Value.str (chrOf (nmAt du i k) b) t9]) :: tups) ++ its), rfl, F₇, News.sub N₈ ?_, ?_, ?_, ?_, ?_, ?_, ?_, ?_, vs ++ [Value.ref T9], us ++ [Value.str (nmAt nm i k) q1], n + 1, n' + 1, _, rfl, (by rw [hms]; exact TupL.snoc (hvs.mono fun p hp => List.Mem.tail _ hp) (List.Mem.head _)), (by rw [hms]; exact StrsL.snoc hus ⟨_, rfl⟩), ?_⟩
        · intro q hq
          simp only [List.cons_append, List.mem_cons, List.mem_append] at hq ⊢
          rcases hq with rfl | rfl | rfl | (hq | hq) | hq
          · exact .inr (.inl rfl)
          · exact .inr (.inr (.inl rfl))
          · exact .inl rfl
          · exact .inr (.inr (.inr (.inl (.inl hq))))
          · exact .inr (.inr (.inr (.inl (.inr hq))))
          · exact .inr (.inr (.inr (.inr hq)))
        · exact NoIt.cons rfl (NoIt.cons rfl (NoIt.cons rfl (NoIt.append (fun q hq => .inr (htp q hq).2.2) hnoI)))
        rotate_right 1
        · intro p hp
          rcases List.mem_cons.mp hp with rfl | hp
          · refine ⟨?_, ?_, rfl⟩ <;> (dsimp only; omega)
          · exact htp p hp
        all_goals (repeat (first | (with_reducible assumption) | (refine lk_ne ?hne ?_; (case hne => decide))))
      · (try dsimp only [Bool.not_true])
        walk_at "steps9"
        rename Fr _ _ _ _ => F₇
        rename News _ _ _ _ => N₇
        subst hTL
        rw [mstep, hin, if_pos rfl] at hms
        refine ForPost.nx ⟨_, _, _, (pM, W.listOf vs.toArray n) :: (pm, W.listOf us.toArray n') :: (tups ++ its), rfl, F₇, N₇, ?_, ?_, ?_, ?_, ?_, ?_, ?_, vs, us, n, n', tups, rfl, (by rw [hms]; exact hvs), (by rw [hms]; exact hus), htp⟩
        · exact NoIt.cons rfl (NoIt.cons rfl (NoIt.append (fun q hq => .inr (htp q hq).2.2) hnoI))
        all_goals (repeat (first | (with_reducible assumption) | (refine lk_ne ?hne ?_; (case hne => decide))))
    · clear F₄ N₄ hno hvs hus hm1 hm2 hm3 hm4 hm5 htp
      rintro m₂ news₂ h₅ tk₅ E₃ ⟨hm1, hm2, hm3, hm6, hm4, hm5, vs, us, n, n', tups, rfl, hvs, hus, htp⟩ F₅ N₅
      (try k_fold)
      walk_at "steps9"
      refine ForPost.nx ⟨_, _, _, (pM, W.listOf vs.toArray n) :: (pm, W.listOf us.toArray n') :: tups, rfl, F₅, N₅, NoIt.cons rfl (NoIt.cons rfl fun q hq => .inr (htp q hq).2.2), hm1, hm2, hm3, pM, pm, vs, us, n, n', tups, hm4, hm5, rfl, ?_, ?_, hne, htp⟩
      · rw [mall_succ]; exact hvs
      · rw [mall_succ]; exact hus
  · clear F₂ N₃
    rintro m₁ news₁ h₃ tk₃ E₂ ⟨hm1, hm2, hm3, pM, pm, vs, us, n, n', tups, hm4, hm5, rfl, hvs, hus, hne, htp⟩ F₃ N₃
    (try k_fold)
    walk_at "steps9"
    refine h pM _ _ F₃.keep ⟨vs, ⟨n, N₃.get (List.Mem.head _)⟩, hvs.1, fun i k v hi => ?_⟩
    obtain ⟨T, t, t', e, f⟩ := hvs.2 i k v hi
    exact ⟨T, t, t', e, N₃.get (List.Mem.tail _ (List.Mem.tail _ f))⟩
end
local macro_rules | `(tactic| walk_at "newTuple") => `(tactic| (walk_at "nt0"))
local macro_rules | `(tactic| walk_at "s6") => `(tactic| ((fail_if_success (with_reducible refine gd13 ?_)); walk_at "s3"))
local macro_rules | `(tactic| walk_at "binaryOp Sub int int") => `(tactic| ((with_reducible refine sub_nat ?hz ?_; (case hz => omega)); intro t' tk'; (try dsimp only [Int.reduceToNat])))
/- F1 -/
section
variable {w : World} {dp un : Nat} {fr : Option (List Env)} {gd : Option (List Code)} {s : Shared} {Q E : Value → Shared → Prop}
theorem anewF1 : True := by
  w_top off
  trivial
local macro_rules | `(tactic| walk_at "s9") => `(tactic| ((fail_if_success (with_reducible refine gd23 ?_)); walk_at "s1"))
local macro_rules | `(tactic| walk_at "steps9") => `(tactic| repeat' (walk_at "s9"))
theorem st012 (f : Addr) (cdv : Value) (L a : Addr) (vs : List Value) (ns : List Int) (h₀ : Heap) (hl : h₀.IsList a vs.toArray) (hns : IntsAre vs ns) (hlen : ns.length ≤ 63)
    (S : LS h₀ L s.heap (fun y => if y = Str.ofString "script" then some (.ref a) else none) none none none none none)
    {mean : ExcName → Option Value} {mg mb : Str → Option Value} (X : (hd.heap_39 w.params).In h₀) (T : Top hd.view_39 LO mean mg mb h₀)
    {oc : Value} {od : Option Addr} {params : Arguments} {dV kV doc pm cdv0 ct : Value} {an : Option Addr} {osl : Array (Option Value)} {body : List Stmt} {scope : Scope}
    (ho : (hd.heap_39 w.params).lookup 279 = some ⟨oc, od, .func (fnOf (Str.ofString "law") (Str.ofString "law") params body scope dV kV doc pm an cdv0 ct), osl⟩)
    {Q : Flow → Shared → Prop} (h : ∀ h' tk m' t1 t2 t3, LS h₀ L h' m' (some (.int ((otS ns : Nat) : Int) t1)) none none none none → m' (Str.ofString "script") = some (.ref a) → m' (Str.ofString "first") = some (.int (fstN ns) t2) →
      m' (Str.ofString "slash") = some (.int ((slS ns : Nat) : Int) t3) → Q .next { s with heap := h', toks := tk }) :
    wpAny (model PG w) (AA dp un fr gd) (execs (body.take 3) (envOfC (Str.ofString "law") scope L f cdv)) Q noE s := by
  refine lit_of (f := 279) (fun body scope => wpAny (model PG w) (AA dp un fr gd) (execs (body.take 3) (envOfC (Str.ofString "law") scope L f cdv)) Q noE s) ho (by k_is) ?_
  (try k_fold)
  repeat (conv in (List.take _ _) => whnf)
  have hn0 := S.n
  obtain ⟨o1, o2, o3, o4, o5, N, d1, d2, d3, d4, d5⟩ := S.open
  have F := S.F
  clear S
  walk_at "s1"
  refine wpAny_mono (Q := StP h₀ L s fun h' m' news' => m' (Str.ofString "script") = some (.ref a) ∧ (∃ t, m' (Str.ofString "first") = some (.int (fstN ns) t)) ∧ news' = [(L + 1 + 1 + 1 + 1 + 1, o5), (L + 1 + 1 + 1 + 1, o4), (L + 1 + 1 + 1, o3), (L + 1 + 1, o2), (L + 1, o1)]) ?_ ?_ (fun _ _ e => e)
  · cases hns with
    | nil =>
      walk_at "steps"
      rename Fr _ _ _ _ => F₂
      rename News _ _ _ _ => N₂
      exact StP.mk F₂ (News.sub N₂ fun q hq => List.Mem.tail _ hq) ⟨rfl, ⟨_, rfl⟩, rfl⟩
    | cons n t r =>
      walk_at "steps9"
      have hL' := hl.at fun o e => F.keep _ o e
      have hvl : (Value.int n t :: _).length ≤ 63 := (IntsAre.length (.cons n t r)) ▸ hlen
      refine truthyL hL' (by omega) fun tk' => ?_
      (try dsimp only)
      walk_at "steps9"
      rename Fr _ _ _ _ => F₂
      rename News _ _ _ _ => N₂
      exact StP.mk F₂ N₂ ⟨rfl, ⟨_, rfl⟩, rfl⟩
  · rintro _ _ ⟨rfl, h₂, tk₂, m₂, _, rfl, F₂, N₂, hms, ⟨tf, hmf⟩, rfl⟩
    clear F N
    (try dsimp only)
    repeat' (walk_at "s6")
    refine wpAny_mono (Q := StP h₀ L s fun h' m' news' => m' (Str.ofString "script") = some (.ref a) ∧ (∃ t, m' (Str.ofString "first") = some (.int (fstN ns) t)) ∧ (∃ t, m' (Str.ofString "slash") = some (.int ((slS ns : Nat) : Int) t)) ∧
        ∃ c1 t, news' = [(L + 1 + 1 + 1 + 1 + 1, o5), (L + 1 + 1 + 1 + 1, o4), (L + 1 + 1 + 1, o3), (L + 1 + 1, o2), (L + 1, c1)] ∧ c1.data = .cell (some (.int ((otS ns : Nat) : Int) t))) ?_ ?_ (fun _ _ e => e)
    · walk_at "steps3"
      all_goals (rename Fr _ _ _ _ => F₃)
      all_goals (rename News _ _ _ _ => N₃)
      · have e : otS ns = 125 - (63 - (fstN ns % 2).toNat) := by unfold otS slS; rw [if_pos (by omega)]
        refine StP.mk F₃ (News.sub N₃ fun q hq => List.Mem.tail _ hq) ⟨?_, ⟨tf, ?_⟩, ⟨_, if_pos rfl⟩, _, _, rfl, by rw [e]; assumption⟩
        all_goals (repeat (first | (with_reducible assumption) | (refine lk_ne ?hne ?_; (case hne => decide))))
      · have e : otS ns = (fstN ns / 2 % 63).toNat := by unfold otS; rw [if_neg (by omega)]
        refine StP.mk F₃ (News.sub N₃ fun q hq => List.Mem.tail _ hq) ⟨?_, ⟨tf, ?_⟩, ⟨_, if_pos rfl⟩, _, _, rfl, by rw [e]; assumption⟩
        all_goals (repeat (first | (with_reducible assumption) | (refine lk_ne ?hne ?_; (case hne => decide))))
    · rintro _ _ ⟨rfl, h₃, tk₃, m₃, _, rfl, F₃, N₃, hms3, ⟨tf3, hmf3⟩, ⟨tsl, hmsl⟩, c1, tc1, rfl, dc1⟩
      clear hms hmf
      (try dsimp only)
      walk_at "steps3"
      refine h h₃ tk₃ m₃ _ _ _ ⟨F₃, ⟨_, N₃.get (by simp), dc1⟩, ⟨_, N₃.get (show (L + 1 + 1, o2) ∈ _ by simp), d2⟩, ⟨_, N₃.get (show (L + 1 + 1 + 1, o3) ∈ _ by simp), d3⟩, ⟨_, N₃.get (show (L + 1 + 1 + 1 + 1, o4) ∈ _ by simp), d4⟩, ⟨_, N₃.get (show (L + 1 + 1 + 1 + 1 + 1, o5) ∈ _ by simp), d5⟩, hn0⟩ hms3 hmf3 hmsl
end
/- F2 -/
section
variable {w : World} {dp un : Nat} {fr : Option (List Env)} {gd : Option (List Code)} {s : Shared} {Q E : Value → Shared → Prop}
theorem anewF2 : True := by
  w_top off
  trivial
theorem LL.madeOff {h₀ h : Heap} {D : Addr} {n : Nat} {ys : List Value} {os : List (List (Addr × Obj))} {xss : List (List Str)} {bad : List Addr} (hx : xss.length = n)
    (M : Made h₀ h D n (fun i y o => ∃ a us k xs, y = Value.ref a ∧ o = [(a, W.listOf (List.toArray us) k)] ∧ xss[i]? = some xs ∧ StrsL us xs) ys os) (hb : ∀ b, h₀.get? b = none → b ∉ bad) : Off bad (fun h => LL h D xss) h := fun h' k => by
  refine LL.made (h₀ := h₀) hx { M with list := ?_, lie := ?_ }
  · obtain ⟨n, e⟩ := M.list
    exact ⟨n, k _ _ (hb _ M.fresh) e⟩
  · exact fun o ho p hp => k _ _ (hb _ (M.new o ho p hp)) (M.lie o ho p hp)
theorem itx_len' (n : Nat) (hn : n < 1000000) : (itx n).length ≤ 200 := by
  have e := int_text_length_le10 (a := (n : Int)) (k := 6) (by decide) (by show n < 10 ^ 6; exact hn)
  unfold itx
  rw [PySem.ofString_length]; omega
theorem view_len' (x : Nat) (hx : x < 131072) : ∀ y ∈ viewS x, y.length ≤ 200 := by
  intro y hy
  simp only [viewS, List.mem_append, List.mem_cons, List.not_mem_nil, or_false] at hy
  rcases hy with (rfl | hy) | (rfl | rfl | rfl)
  · exact Nat.le_trans (cat_len _ (parts_len20 x)) (by simp [partsS])
  · exact Nat.le_trans (parts_len20 x y hy) (by decide)
  · exact itx_len' _ (by omega)
  · exact itx_len' _ (by omega)
  · refine Nat.le_trans (cat_len _ ?_) (by simp)
    intro y hy
    rw [List.mem_map] at hy
    obtain ⟨o, _, rfl⟩ := hy
    split <;> decide +kernel
theorem seen_len8 (x : Nat) : (seenS x).length = 8 := by simp [seenS, viewS, partsS]
theorem seen_at {x i : Nat} {y : Str} (hy : (seenS x)[i]? = some y) : ∃ z, (viewS x)[i]? = some z ∧ y = itx i ++ Str.ofString "." ++ z ∧ i < 8 := by
  have hi : i < 8 := by
    have := (List.getElem?_eq_some_iff.mp hy).1; rw [seen_len8] at this; exact this
  rw [seenS, List.getElem?_mapIdx] at hy
  obtain ⟨z, hz, e⟩ := Option.map_eq_some_iff.mp hy
  exact ⟨z, hz, e.symm, hi⟩
theorem seen_len (x : Nat) (hx : x < 131072) : ∀ y ∈ seenS x, y.length ≤ 500 := by
  intro y hy
  obtain ⟨i, hy⟩ := List.getElem?_of_mem hy
  obtain ⟨z, hz, rfl, hi⟩ := seen_at hy
  have h1 := view_len' x hx z (List.mem_of_getElem? hz)
  have h2 := itx_len' i (by omega)
  rw [len_app, len_app]
  have h3 : (Str.ofString ".").length = 1 := by decide +kernel
  omega
theorem nm_len7 (ns : List Int) : (nmS ns).length = 7 := by simp [nmS, row_len]
theorem nm_len8 (ns : List Int) : ∀ xs ∈ nmS ns, xs.length = 8 := by
  intro xs h
  obtain ⟨x, _, rfl⟩ := List.mem_map.mp h
  exact seen_len8 x
theorem nm_lens (ns : List Int) : ∀ xs ∈ nmS ns, ∀ x ∈ xs, x.length ≤ 500 := by
  intro xs h
  obtain ⟨x, hx, rfl⟩ := List.mem_map.mp h
  exact seen_len x (row_lt ns x hx)
theorem st3 (f : Addr) (cdv : Value) (L : Addr) (ns : List Int) (h₀ : Heap) (hdp : dp + 4 < recursionLimit) {m : Str → Option Value} {c1 c2 c3 c4 c5 : Option Value}
    (S : LS h₀ L s.heap m c1 c2 c3 c4 c5) (g : G w h₀) (a : Addr) (vs : List Value) (hl : h₀.IsList a vs.toArray) (hns : IntsAre vs ns) (hlen : ns.length ≤ 63) (hm : m (Str.ofString "script") = some (.ref a))
    {oc : Value} {od : Option Addr} {params : Arguments} {dV kV doc pm cdv0 ct : Value} {an : Option Addr} {osl : Array (Option Value)} {body : List Stmt} {scope : Scope}
    (ho : (hd.heap_39 w.params).lookup 279 = some ⟨oc, od, .func (fnOf (Str.ofString "law") (Str.ofString "law") params body scope dV kV doc pm an cdv0 ct), osl⟩)
    {Q : Flow → Shared → Prop} (h : ∀ D h' tk, LS h₀ L h' (fun x => if x = Str.ofString "row" then some (.ref D) else m x) c1 c2 c3 c4 c5 → KB (badL L) s.heap h' → Off (badL L) (fun h => IntsNAt h D (rowS ns)) h' → Q .next { s with heap := h', toks := tk }) :
    wpAny (model PG w) (AA dp un fr gd) (exec (nthS body 3) (envOfC (Str.ofString "law") scope L f cdv)) Q noE s := by
  refine lit_of (f := 279) (fun body scope => wpAny (model PG w) (AA dp un fr gd) (exec (nthS body 3) (envOfC (Str.ofString "law") scope L f cdv)) Q noE s) ho (by k_is) ?_
  conv in (nthS _ _) => whnf
  (try k_fold)
  obtain ⟨X, mean, mg, mb, T⟩ := g
  obtain ⟨o1, o2, o3, o4, o5, N, d1, d2, d3, d4, d5⟩ := S.open
  have F := S.F
  walk_at "steps3"
  refine c_row a vs ns (G.of F X T) (by omega) (hl.at fun o e => F.keep _ o e) hns hlen ?_
  intro D h₁ tk₁ K₁ f₁ R₁
  (try dsimp only)
  refine LS.st (S.kp K₁) ?_ rfl rfl
  intro h₂ tk₂ S₂ k₂
  exact h D h₂ _ S₂ (KB.tr (KB.of K₁) k₂) ((IntsNAt.off R₁ (S.off f₁)).kb k₂)
theorem st4 (f : Addr) (cdv : Value) (L : Addr) (ns : List Int) (h₀ : Heap) (hdp : dp + 4 < recursionLimit) {m : Str → Option Value} {c1 c2 c3 c4 c5 : Option Value}
    (S : LS h₀ L s.heap m c1 c2 c3 c4 c5) (g : G w h₀) (rD : Addr) (hm : m (Str.ofString "row") = some (.ref rD)) (hr : IntsNAt s.heap rD (rowS ns))
    {oc : Value} {od : Option Addr} {params : Arguments} {dV kV doc pm cdv0 ct : Value} {an : Option Addr} {osl : Array (Option Value)} {body : List Stmt} {scope : Scope}
    (ho : (hd.heap_39 w.params).lookup 279 = some ⟨oc, od, .func (fnOf (Str.ofString "law") (Str.ofString "law") params body scope dV kV doc pm an cdv0 ct), osl⟩)
    {Q : Flow → Shared → Prop} (h : ∀ D h' tk, LS h₀ L h' m c1 (some (.ref D)) c3 c4 c5 → KB (badL L) s.heap h' → Off (badL L) (fun h => LL h D (nmS ns)) h' → Q .next { s with heap := h', toks := tk }) :
    wpAny (model PG w) (AA dp un fr gd) (exec (nthS body 4) (envOfC (Str.ofString "law") scope L f cdv)) Q noE s := by
  refine lit_of (f := 279) (fun body scope => wpAny (model PG w) (AA dp un fr gd) (exec (nthS body 4) (envOfC (Str.ofString "law") scope L f cdv)) Q noE s) ho (by k_is) ?_
  conv in (nthS _ _) => whnf
  (try k_fold)
  obtain ⟨X, mean, mg, mb, T⟩ := g
  obtain ⟨o1, o2, o3, o4, o5, N, d1, d2, d3, d4, d5⟩ := S.open
  have F := S.F
  refine wpAny_Assign_Name ?_
  obtain ⟨rv, rp, hrv⟩ := hr
  refine comp_eval 7 (fun i v => ∃ z tz, (rowS ns)[i]? = some z ∧ v = .int ((z : Nat) : Int) tz)
    (fun i y o => ∃ a us k xs, y = Value.ref a ∧ o = [(a, W.listOf (List.toArray us) k)] ∧ (nmS ns)[i]? = some xs ∧ StrsL us xs)
    (cl := []) rfl (.inl ⟨by decide, by decide⟩) rfl (by decide) (by decide) ?_ ?_ ?_
  · walk_at "steps3"
    exact ⟨⟨_, _, rfl, Kp.rfl'⟩, _, (iters_ints rfl rp.isList hrv).imp (row_len ns) fun j v _ hv => hv⟩
  · rintro i v B h₅ tk₅ C E' ⟨z, tz, hz, rfl⟩ hi hB hBC ⟨m₅, hn, hv⟩ hk
    have hv' : m₅ (Str.ofString "mode") = some (.int (z : Int) tz) := by
      rcases hv with ⟨_, e⟩ | ⟨e, _⟩
      · exact e
      · cases e
    have F' : Fr B C h₅ m₅ := ⟨hn, hk, hBC⟩
    have N' : News B C h₅ [] := News.nil
    have X' := X.keeps (Kp.tr F.keep hB)
    have T' := T.keeps (Kp.tr F.keep hB)
    clear F N X T hv hn
    walk_at "steps3"
    refine c_seen z tz (G.of F' X' T') (by omega) (row_lt ns z (List.mem_of_getElem? hz)) ?_
    intro D h₆ tk₆ k₆ f₆ ⟨us, ⟨k, e₆⟩, hus⟩
    refine ⟨h₆, tk₆, [(D, W.listOf us.toArray k)], rfl, k₆, ⟨D, us, k, seenS z, rfl, rfl, ?_, hus⟩, ?_, ?_⟩
    · rw [nmS, List.getElem?_map, hz]; rfl
    · intro p hp; rw [List.mem_singleton.mp hp]; exact e₆
    · intro p hp; rw [List.mem_singleton.mp hp]; exact f₆
  · intro h₅ tk₅ D ys os hM hk₅
    (try dsimp only)
    have off := LL.madeOff (bad := badL L) (xss := nmS ns) (by simp [nmS, row_len]) hM (fun b hb => S.off hb)
    refine LS.sc2 (S.kp hk₅) ?_ rfl rfl rfl
    intro h₂ tk₂ S₂ k₂
    exact h D h₂ _ S₂ (KB.tr (KB.of hk₅) k₂) (off.kb k₂)
theorem st5 (f : Addr) (cdv : Value) (L : Addr) (ns : List Int) (h₀ : Heap) (hdp : dp + 4 < recursionLimit) {m : Str → Option Value} {c1 c3 c4 c5 : Option Value} {nD : Addr}
    (S : LS h₀ L s.heap m c1 (some (.ref nD)) c3 c4 c5) (g : G w h₀) (t : Tok) (hm : m (Str.ofString "first") = some (.int (fstN ns) t)) (hr : LL s.heap nD (nmS ns))
    {oc : Value} {od : Option Addr} {params : Arguments} {dV kV doc pm cdv0 ct : Value} {an : Option Addr} {osl : Array (Option Value)} {body : List Stmt} {scope : Scope}
    (ho : (hd.heap_39 w.params).lookup 279 = some ⟨oc, od, .func (fnOf (Str.ofString "law") (Str.ofString "law") params body scope dV kV doc pm an cdv0 ct), osl⟩)
    {Q : Flow → Shared → Prop} (h : ∀ h' tk t, LS h₀ L h' m c1 (some (.ref nD)) (some (.str (toldS (fstN ns) (nmS ns)) t)) c4 c5 → KB (badL L) s.heap h' → Q .next { s with heap := h', toks := tk }) :
    wpAny (model PG w) (AA dp un fr gd) (exec (nthS body 5) (envOfC (Str.ofString "law") scope L f cdv)) Q noE s := by
  refine lit_of (f := 279) (fun body scope => wpAny (model PG w) (AA dp un fr gd) (exec (nthS body 5) (envOfC (Str.ofString "law") scope L f cdv)) Q noE s) ho (by k_is) ?_
  conv in (nthS _ _) => whnf
  (try k_fold)
  obtain ⟨X, mean, mg, mb, T⟩ := g
  obtain ⟨o1, o2, o3, o4, o5, N, d1, d2, d3, d4, d5⟩ := S.open
  have F := S.F
  walk_at "steps3"
  refine c_named _ _ _ _ (G.of F X T) (by omega) hr (by simp [nmS, row_len]) (nm_len8 ns) (fun xs hx x hxx => Nat.le_trans (nm_lens ns xs hx x hxx) (by decide)) ?_
  intro t₁ h₁ tk₁ K₁
  (try dsimp only)
  refine LS.sc3 (S.kp K₁) ?_ rfl rfl rfl
  intro h₂ tk₂ S₂ k₂
  exact h h₂ _ _ S₂ (KB.tr (KB.of K₁) k₂)
end
/- F3 -/
section
local macro_rules | `(tactic| walk_at "none such") => `(tactic| skip)
variable {w : World} {dp un : Nat} {fr : Option (List Env)} {gd : Option (List Code)} {s : Shared} {Q E : Value → Shared → Prop}
theorem anewF3 : True := by
  w_top off
  trivial
noncomputable def tS (ns : List Int) : Str := toldS (fstN ns) (nmS ns)
noncomputable def plS (ns : List Int) : List (List Nat) := (List.range 7).map fun i => (List.range 8).map fun k => firstS (nmS ns) i k (tS ns)
noncomputable def LLI (h : Heap) (D : Addr) (xss : List (List Nat)) : Prop := ∃ vs : List Value, h.PlainList D vs.toArray ∧ vs.length = xss.length ∧ ∀ (i : Nat) (xs : List Nat), xss[i]? = some xs → ∃ a, vs[i]? = some (Value.ref a) ∧ IntsNAt h a xs
theorem LLI.keeps {h h' : Heap} {D : Addr} {xss : List (List Nat)} (x : LLI h D xss) (k : Kp h h') : LLI h' D xss := by
  obtain ⟨vs, a, b, c⟩ := x
  exact ⟨vs, a.at fun o e => k _ o e, b, fun i xs hi => let ⟨q, e, f⟩ := c i xs hi; ⟨q, e, f.keeps k⟩⟩
theorem LLI.made {h₀ h : Heap} {D : Addr} {n : Nat} {ys : List Value} {os : List (List (Addr × Obj))} {xss : List (List Nat)} (hx : xss.length = n)
    (M : Made h₀ h D n (fun i y o => ∃ a us k xs, y = Value.ref a ∧ o = [(a, W.listOf (List.toArray us) k)] ∧ xss[i]? = some xs ∧ IntsN us xs) ys os) : LLI h D xss := by
  refine ⟨ys, M.list, by rw [M.len, hx], fun i xs hi => ?_⟩
  have hlt : i < n := by
    rcases Nat.lt_or_ge i xss.length with h | h
    · omega
    · rw [List.getElem?_eq_none h] at hi; cases hi
  have hy : ys[i]? = some (ys[i]'(by rw [M.len]; exact hlt)) := by simp [M.len, hlt]
  have ho : os[i]? = some (os[i]'(by rw [M.lens]; exact hlt)) := by simp [M.lens, hlt]
  obtain ⟨a, us, k, xs', e1, e2, e3, e4⟩ := M.each i _ _ hy ho
  rw [hi] at e3; cases e3
  have hl := M.lie _ (List.mem_of_getElem? ho) (a, W.listOf us.toArray k) (by rw [e2]; exact List.Mem.head _)
  exact ⟨a, by rw [hy, e1], us, ⟨k, hl⟩, e4⟩
theorem LLI.madeOff {h₀ h : Heap} {D : Addr} {n : Nat} {ys : List Value} {os : List (List (Addr × Obj))} {xss : List (List Nat)} {bad : List Addr} (hx : xss.length = n)
    (M : Made h₀ h D n (fun i y o => ∃ a us k xs, y = Value.ref a ∧ o = [(a, W.listOf (List.toArray us) k)] ∧ xss[i]? = some xs ∧ IntsN us xs) ys os) (hb : ∀ b, h₀.get? b = none → b ∉ bad) : Off bad (fun h => LLI h D xss) h := fun h' k => by
  refine LLI.made (h₀ := h₀) hx { M with list := ?_, lie := ?_ }
  · obtain ⟨n, e⟩ := M.list
    exact ⟨n, k _ _ (hb _ M.fresh) e⟩
  · exact fun o ho p hp => k _ _ (hb _ (M.new o ho p hp)) (M.lie o ho p hp)
theorem intsN_made {h₀ h : Heap} {D : Addr} {n : Nat} {ys : List Value} {os : List (List (Addr × Obj))} {zs : List Nat} (hx : zs.length = n)
    (M : Made h₀ h D n (fun i y o => o = [] ∧ ∃ z t, zs[i]? = some z ∧ y = Value.int ((z : Nat) : Int) t) ys os) : h.PlainList D ys.toArray ∧ IntsN ys zs := by
  refine ⟨M.list, by rw [M.len, hx], fun i z hi => ?_⟩
  have hlt : i < n := by
    rcases Nat.lt_or_ge i zs.length with h | h
    · omega
    · rw [List.getElem?_eq_none h] at hi; cases hi
  have hy : ys[i]? = some (ys[i]'(by rw [M.len]; exact hlt)) := by simp [M.len, hlt]
  have ho : os[i]? = some (os[i]'(by rw [M.lens]; exact hlt)) := by simp [M.lens, hlt]
  obtain ⟨_, z', t, h1, h2⟩ := M.each i _ _ hy ho
  rw [hi] at h1; cases h1
  exact ⟨t, by rw [hy, h2]⟩
theorem LS.asg {h₀ h h' : Heap} {L : Addr} {m m' : Str → Option Value} {c1 c2 c3 c4 c5 : Option Value} (S : LS h₀ L h m c1 c2 c3 c4 c5) (hn : h'.Ns L m') (k : ∀ b o, b ≠ L → h.get? b = some o → h'.get? b = some o) : LS h₀ L h' m' c1 c2 c3 c4 c5 := by
  have ne : ∀ i : Nat, 0 < i → @Ne Nat (L + i) L := fun i hi => lp_ne hi
  refine ⟨Fr.but S.F hn k, ?_, ?_, ?_, ?_, ?_, S.n⟩
  · exact let ⟨o, a, b⟩ := S.e1; ⟨o, k _ o (ne 1 (by decide)) a, b⟩
  · exact let ⟨o, a, b⟩ := S.e2; ⟨o, k _ o (ne 2 (by decide)) a, b⟩
  · exact let ⟨o, a, b⟩ := S.e3; ⟨o, k _ o (ne 3 (by decide)) a, b⟩
  · exact let ⟨o, a, b⟩ := S.e4; ⟨o, k _ o (ne 4 (by decide)) a, b⟩
  · exact let ⟨o, a, b⟩ := S.e5; ⟨o, k _ o (ne 5 (by decide)) a, b⟩
theorem KB.but {L : Addr} {h h' : Heap} (k : ∀ b o, b ≠ L → h.get? b = some o → h'.get? b = some o) : KB (badL L) h h' := fun b o hb e => k b o (fun e => hb (by rw [e]; exact List.Mem.head _)) e
theorem pl_at {ns : List Int} {i : Nat} (hi : i < 7) : (plS ns)[i]? = some ((List.range 8).map fun k => firstS (nmS ns) i k (tS ns)) := by
  rw [plS, List.getElem?_map, List.getElem?_range hi]; rfl
theorem st6 (f : Addr) (cdv : Value) (L : Addr) (ns : List Int) (h₀ : Heap) (hdp : dp + 4 < recursionLimit) {m : Str → Option Value} {c1 c4 c5 : Option Value} {nD : Addr} {tt : Tok}
    (S : LS h₀ L s.heap m c1 (some (.ref nD)) (some (.str (tS ns) tt)) c4 c5) (g : G w h₀) (hr : LL s.heap nD (nmS ns))
    {oc : Value} {od : Option Addr} {params : Arguments} {dV kV doc pm cdv0 ct : Value} {an : Option Addr} {osl : Array (Option Value)} {body : List Stmt} {scope : Scope}
    (ho : (hd.heap_39 w.params).lookup 279 = some ⟨oc, od, .func (fnOf (Str.ofString "law") (Str.ofString "law") params body scope dV kV doc pm an cdv0 ct), osl⟩)
    {Q : Flow → Shared → Prop} (h : ∀ D h' tk, LS h₀ L h' (fun x => if x = Str.ofString "places" then some (.ref D) else m x) c1 (some (.ref nD)) (some (.str (tS ns) tt)) c4 c5 → KB (badL L) s.heap h' → Off (badL L) (fun h => LLI h D (plS ns)) h' → Q .next { s with heap := h', toks := tk }) :
    wpAny (model PG w) (AA dp un fr gd) (exec (nthS body 6) (envOfC (Str.ofString "law") scope L f cdv)) Q noE s := by
  refine lit_of (f := 279) (fun body scope => wpAny (model PG w) (AA dp un fr gd) (exec (nthS body 6) (envOfC (Str.ofString "law") scope L f cdv)) Q noE s) ho (by k_is) ?_
  conv in (nthS _ _) => whnf
  (try k_fold)
  obtain ⟨X, mean, mg, mb, T⟩ := g
  obtain ⟨o1, o2, o3, o4, o5, N, d1, d2, d3, d4, d5⟩ := S.open
  have F := S.F
  refine comp_assign 7 (fun i v => ∃ t, v = .int (i : Int) t) (fun i y o => ∃ a us k xs, y = Value.ref a ∧ o = [(a, W.listOf (List.toArray us) k)] ∧ (plS ns)[i]? = some xs ∧ IntsN us xs)
    (cl := [(Str.ofString "told", L + 3), (Str.ofString "names", L + 2)]) rfl rfl (.inr ⟨fun _ => rfl, fun _ => rfl, rfl⟩) rfl (by decide) (by decide) rfl rfl F.ns ?_ ?_ ?_
  · walk_at "steps3"
    rename IsRange _ _ _ _ _ _ _ _ => a4
    rename Kp _ _ => a1
    exact ⟨⟨_, _, rfl, a1⟩, _, iters_range (n := 7) rfl a4 (by decide)⟩
  · rintro i v B h₅ tk₅ C E' ⟨ti, rfl⟩ hi hB hBC ⟨m₅, hn, hv⟩ hk
    have hv' : h₅.IsCell (C + 1) (some (.int (i : Int) ti)) := by
      rcases hv with ⟨e, _⟩ | ⟨_, _, e⟩
      · cases e
      · exact e
    have SS := S.kp (Kp.tr hB hk)
    have hr₅ := hr.keeps (Kp.tr hB hk)
    have X' := X.keeps (Kp.tr F.keep hB)
    have T' := T.keeps (Kp.tr F.keep hB)
    have F' : Fr B C h₅ m₅ := ⟨hn, hk, hBC⟩
    have N' : News B C h₅ [] := News.nil
    have g₅ : G w h₅ := G.of F' X' T'
    clear F N X T hv
    refine comp_eval 8 (fun i v => ∃ t, v = .int (i : Int) t) (fun k y o => o = [] ∧ ∃ z t, ((List.range 8).map fun k => firstS (nmS ns) i k (tS ns))[k]? = some z ∧ y = .int ((z : Nat) : Int) t)
      (cl := [(Str.ofString "told", L + 3), (Str.ofString "names", L + 2), (Str.ofString "i", C + 1)]) rfl (.inl ⟨by decide, by decide⟩) rfl (by decide) (by decide) ?_ ?_ ?_
    · walk_at "steps3"
      rename IsRange _ _ _ _ _ _ _ _ => a4
      rename Kp h₅ _ => a1
      exact ⟨⟨_, _, rfl, a1⟩, _, iters_range (n := 8) rfl a4 (by decide)⟩
    · rintro k v B₂ h₆ tk₆ C₂ E'' ⟨tk', rfl⟩ hkk hB₂ hBC₂ ⟨m₆, hn₆, hv₆⟩ hk₆
      have hv'' : m₆ (Str.ofString "k") = some (.int (k : Int) tk') := by
        rcases hv₆ with ⟨_, e⟩ | ⟨e, _⟩
        · exact e
        · cases e
      have F'' : Fr B₂ C₂ h₆ m₆ := ⟨hn₆, hk₆, hBC₂⟩
      have N'' : News B₂ C₂ h₆ [] := News.nil
      obtain ⟨X'', _, _, _, T''⟩ := g₅.keeps hB₂
      have q1 := Heap.IsCell.keeps hv' hB₂
      have q2 := Heap.IsCell.keeps SS.e2 hB₂
      have q3 := Heap.IsCell.keeps SS.e3 hB₂
      clear F' N' X' T' S hr hn hn₆ hv₆ hv'
      walk_at "steps3"
      refine c_first nD (nmS ns) i k (tS ns) ti tk' tt (G.of F'' X'' T'') (by omega) (hr₅.keeps (Kp.tr hB₂ hk₆)) (nm_len7 ns) (nm_len8 ns) hi hkk ?_
      intro t₇ h₇ tk₇ k₇
      refine ⟨_, _, [], rfl, k₇, ⟨rfl, _, _, ?_, rfl⟩, Lie.nil, Fresh.nil⟩
      rw [List.getElem?_map, List.getElem?_range hkk]; rfl
    · intro h₆ tk₆ D ys os hM hk₆
      obtain ⟨⟨kn, e₆⟩, hys⟩ := intsN_made (zs := (List.range 8).map fun k => firstS (nmS ns) i k (tS ns)) (by simp) hM
      refine ⟨h₆, tk₆, [(D, W.listOf ys.toArray kn)], rfl, hk₆, ⟨D, ys, kn, _, rfl, rfl, pl_at hi, hys⟩, ?_, ?_⟩
      · intro p hp; rw [List.mem_singleton.mp hp]; exact e₆
      · intro p hp; rw [List.mem_singleton.mp hp]; exact hM.fresh
  · intro h₅ tk₅ D ys os hM hn₅ hk₅
    have off := LLI.madeOff (bad := badL L) (xss := plS ns) (by simp [plS]) hM (fun b hb => S.off hb)
    exact h D h₅ _ (S.asg hn₅ hk₅) (KB.but hk₅) off
end
/- F4 -/
section
variable {w : World} {dp un : Nat} {fr : Option (List Env)} {gd : Option (List Code)} {s : Shared} {Q E : Value → Shared → Prop}
theorem anewF4 : True := by
  w_top off
  trivial
noncomputable def dgS (p : Nat) : Str := catS [itx (p / 4 % 2), itx (p / 2 % 2), itx (p / 1 % 2)]
noncomputable def dueS (ns : List Int) : List (List Str) := (plS ns).map fun l => l.map dgS
theorem first_le {ns : List Int} {i k : Nat} {t : Str} (hi : i < 7) : firstS (nmS ns) i k t ≤ 7 := by
  unfold firstS
  split
  · exact Nat.le_refl _
  · have := (fst_lt (nm := nmS ns) (k := k) (i := i) (by rw [nm_len7]; exact hi)).2
    omega
theorem pl_le {ns : List Int} {i j p : Nat} {l : List Nat} (h : (plS ns)[i]? = some l) (hp : l[j]? = some p) : p ≤ 7 ∧ l.length = 8 := by
  have hi : i < 7 := by
    have := (List.getElem?_eq_some_iff.mp h).1; simpa [plS] using this
  rw [pl_at hi] at h
  cases h
  refine ⟨?_, by simp⟩
  rw [List.getElem?_map] at hp
  obtain ⟨k, _, rfl⟩ := Option.map_eq_some_iff.mp hp
  exact first_le hi
theorem pl_len (ns : List Int) : (plS ns).length = 7 := by simp [plS]
theorem pl_len8 {ns : List Int} {i : Nat} {l : List Nat} (h : (plS ns)[i]? = some l) : l.length = 8 := by
  have hi : i < 7 := by
    have := (List.getElem?_eq_some_iff.mp h).1; simpa [plS] using this
  rw [pl_at hi] at h
  cases h
  simp
theorem st7 (f : Addr) (cdv : Value) (L : Addr) (ns : List Int) (h₀ : Heap) (hdp : dp + 4 < recursionLimit) {m : Str → Option Value} {c1 c2 c3 c4 c5 : Option Value}
    (S : LS h₀ L s.heap m c1 c2 c3 c4 c5) (g : G w h₀) (pD : Addr) (hm : m (Str.ofString "places") = some (.ref pD)) (hr : LLI s.heap pD (plS ns))
    {oc : Value} {od : Option Addr} {params : Arguments} {dV kV doc pm cdv0 ct : Value} {an : Option Addr} {osl : Array (Option Value)} {body : List Stmt} {scope : Scope}
    (ho : (hd.heap_39 w.params).lookup 279 = some ⟨oc, od, .func (fnOf (Str.ofString "law") (Str.ofString "law") params body scope dV kV doc pm an cdv0 ct), osl⟩)
    {Q : Flow → Shared → Prop} (h : ∀ D h' tk, LS h₀ L h' (fun x => if x = Str.ofString "due" then some (.ref D) else m x) c1 c2 c3 c4 c5 → KB (badL L) s.heap h' → Off (badL L) (fun h => LL h D (dueS ns)) h' → Q .next { s with heap := h', toks := tk }) :
    wpAny (model PG w) (AA dp un fr gd) (exec (nthS body 7) (envOfC (Str.ofString "law") scope L f cdv)) Q noE s := by
  refine lit_of (f := 279) (fun body scope => wpAny (model PG w) (AA dp un fr gd) (exec (nthS body 7) (envOfC (Str.ofString "law") scope L f cdv)) Q noE s) ho (by k_is) ?_
  conv in (nthS _ _) => whnf
  (try k_fold)
  obtain ⟨X, mean, mg, mb, T⟩ := g
  obtain ⟨o1, o2, o3, o4, o5, N, d1, d2, d3, d4, d5⟩ := S.open
  have F := S.F
  obtain ⟨pv, pp, hpl, hpa⟩ := hr
  refine comp_assign 7 (fun i v => ∃ l a, (plS ns)[i]? = some l ∧ v = .ref a ∧ IntsNAt s.heap a l) (fun i y o => ∃ a us k xs, y = Value.ref a ∧ o = [(a, W.listOf (List.toArray us) k)] ∧ (dueS ns)[i]? = some xs ∧ StrsL us xs)
    (cl := []) rfl rfl (.inl ⟨by decide, by decide⟩) rfl (by decide) (by decide) rfl rfl F.ns ?_ ?_ ?_
  · walk_at "steps3"
    refine ⟨⟨_, _, rfl, Kp.rfl'⟩, _, (iters_list rfl pp.isList).imp (by simp [hpl, pl_len]) fun j v hj hv => ?_⟩
    have hj7 : j < 7 := by simpa [hpl, pl_len] using hj
    obtain ⟨a, e1, e2⟩ := hpa j _ (pl_at hj7)
    have hv' : pv[j]? = some v := by simpa using hv
    rw [e1] at hv'
    exact ⟨_, a, pl_at hj7, (Option.some.inj hv').symm, e2⟩
  · rintro i v B h₅ tk₅ C E' ⟨l, a, hla, rfl, hal⟩ hi hB hBC ⟨m₅, hn, hv⟩ hk
    have hv' : m₅ (Str.ofString "line") = some (.ref a) := by
      rcases hv with ⟨_, e⟩ | ⟨e, _⟩
      · exact e
      · cases e
    have hl8 := pl_len8 hla
    obtain ⟨av, ap, hav⟩ := hal.keeps (Kp.tr hB hk)
    have X' := X.keeps (Kp.tr F.keep hB)
    have T' := T.keeps (Kp.tr F.keep hB)
    have F' : Fr B C h₅ m₅ := ⟨hn, hk, hBC⟩
    have N' : News B C h₅ [] := News.nil
    have g₅ : G w h₅ := G.of F' X' T'
    clear F N X T hv
    refine comp_eval 8 (fun j v => ∃ z tz, l[j]? = some z ∧ v = .int ((z : Nat) : Int) tz) (fun k y o => o = [] ∧ ∃ x t, (l.map dgS)[k]? = some x ∧ y = .str x t)
      (cl := []) rfl (.inr ⟨fun _ => rfl, fun _ => rfl, rfl⟩) rfl (by decide) (by decide) ?_ ?_ ?_
    · walk_at "steps3"
      exact ⟨⟨_, _, rfl, Kp.rfl'⟩, _, (iters_ints rfl ap.isList hav).imp hl8 fun j v _ hv => hv⟩
    · rintro k v B₂ h₆ tk₆ C₂ E'' ⟨p, tp, hp, rfl⟩ hkk hB₂ hBC₂ ⟨m₆, hn₆, hv₆⟩ hk₆
      have hv'' : h₆.IsCell (C₂ + 1) (some (.int (p : Int) tp)) := by
        rcases hv₆ with ⟨e, _⟩ | ⟨_, _, e⟩
        · cases e
        · exact e
      have hp7 := (pl_le hla hp).1
      have F'' : Fr B₂ C₂ h₆ m₆ := ⟨hn₆, hk₆, hBC₂⟩
      have N'' : News B₂ C₂ h₆ [] := News.nil
      obtain ⟨X'', _, _, _, T''⟩ := g₅.keeps hB₂
      have g₆ : G w h₆ := G.of F'' X'' T''
      clear F' N' X' T' hn hn₆ hv₆
      walk_at "steps3"
      refine cw1 ?_
      refine comp_eval 3 (fun j v => ∃ z tz, [4, 2, 1][j]? = some z ∧ v = .int ((z : Nat) : Int) tz) (fun j y o => o = [] ∧ ∃ x t, ([itx (p / 4 % 2), itx (p / 2 % 2), itx (p / 1 % 2)] : List Str)[j]? = some x ∧ y = .str x t)
        (cl := [(Str.ofString "place", C₂ + 1)]) rfl (.inl ⟨by decide, by decide⟩) rfl (by decide) (by decide) ?_ ?_ ?_
      · walk_at "steps3"
        rename News _ _ _ _ => N₅
        rename Kp h₆ _ => k₅
        refine ⟨⟨_, _, rfl, k₅⟩, _, (iters_tuple rfl ⟨_, N₅.get (List.Mem.head _), rfl, _, rfl⟩).imp rfl fun j v hj hv => ?_⟩
        have hj3 : j < 3 := hj
        obtain rfl | rfl | rfl : j = 0 ∨ j = 1 ∨ j = 2 := by omega
        · simp at hv; exact ⟨4, _, rfl, hv.symm⟩
        · simp at hv; exact ⟨2, _, rfl, hv.symm⟩
        · simp at hv; exact ⟨1, _, rfl, hv.symm⟩
      · rintro j v B₃ h₇ tk₇ C₃ E₃ ⟨z, tz, hz, rfl⟩ hj hB₃ hBC₃ ⟨m₇, hn₇, hv₇⟩ hk₇
        have hv3 : m₇ (Str.ofString "w") = some (.int (z : Int) tz) := by
          rcases hv₇ with ⟨_, e⟩ | ⟨e, _⟩
          · exact e
          · cases e
        have F₇ : Fr B₃ C₃ h₇ m₇ := ⟨hn₇, hk₇, hBC₃⟩
        have N₇ : News B₃ C₃ h₇ [] := News.nil
        obtain ⟨X₇, _, _, _, T₇⟩ := g₆.keeps hB₃
        have q1 := Heap.IsCell.keeps hv'' hB₃
        have hz0 : 0 < z ∧ z ≤ 4 := by
          have hm := List.mem_of_getElem? hz
          simp only [List.mem_cons, List.not_mem_nil, or_false] at hm
          omega
        have hzx : ([itx (p / 4 % 2), itx (p / 2 % 2), itx (p / 1 % 2)] : List Str)[j]? = some (itx (p / z % 2)) := by
          obtain rfl | rfl | rfl : j = 0 ∨ j = 1 ∨ j = 2 := by omega
          all_goals (cases hz; rfl)
        obtain ⟨hz0, hz4⟩ := hz0
        have hpz : p / z ≤ 7 := Nat.le_trans (Nat.div_le_self _ _) hp7
        clear F'' N'' X'' T'' hn₇ hv₇ hv''
        walk_at "steps3"
        exact ⟨_, _, [], rfl, Kp.rfl', ⟨rfl, _, _, hzx, rfl⟩, Lie.nil, Fresh.nil⟩
      · intro h₇ tk₇ D₇ ys os hM hk₇
        obtain ⟨kv, ⟨ek, e₇⟩, hkv⟩ := strsL_made2 (xs := ([itx (p / 4 % 2), itx (p / 2 % 2), itx (p / 1 % 2)] : List Str)) rfl hM
        (try dsimp only)
        refine joinE ⟨_, e₇, rfl, _, rfl⟩ hkv (fun y hy => ?_) (by simp) fun t₈ tk₈ => ?_
        · simp only [List.mem_cons, List.not_mem_nil, or_false] at hy
          rcases hy with rfl | rfl | rfl <;> exact itx_len _ (by omega)
        refine ⟨_, _, [], rfl, hk₇, ⟨rfl, dgS p, _, ?_, rfl⟩, Lie.nil, Fresh.nil⟩
        rw [List.getElem?_map, hp]; rfl
    · intro h₆ tk₆ D ys os hM hk₆
      obtain ⟨kv, ⟨kn, e₆⟩, hkv⟩ := strsL_made2 (xs := l.map dgS) (by simp [hl8]) hM
      refine ⟨h₆, tk₆, [(D, W.listOf kv.toArray kn)], rfl, hk₆, ⟨D, kv, kn, _, rfl, rfl, by rw [dueS, List.getElem?_map, hla]; rfl, hkv⟩, ?_, ?_⟩
      · intro p hp; rw [List.mem_singleton.mp hp]; exact e₆
      · intro p hp; rw [List.mem_singleton.mp hp]; exact hM.fresh
  · intro h₅ tk₅ D ys os hM hn₅ hk₅
    have off := LL.madeOff (bad := badL L) (xss := dueS ns) (by simp [dueS, pl_len]) hM (fun b hb => S.off hb)
    exact h D h₅ _ (S.asg hn₅ hk₅) (KB.but hk₅) off
end
/- F5 -/
section
variable {w : World} {dp un : Nat} {fr : Option (List Env)} {gd : Option (List Code)} {s : Shared} {Q E : Value → Shared → Prop}
theorem anewF5 : True := by
  w_top off
  trivial
local macro_rules | `(tactic| walk_at "s7") => `(tactic| ((fail_if_success (with_reducible refine gd24 ?_)); (fail_if_success (with_reducible refine gd25 ?_)); (fail_if_success (with_reducible refine gd26 ?_)); walk_at "s3"))
local macro_rules | `(tactic| walk_at "steps7") => `(tactic| repeat' (walk_at "s7"))
theorem Off.more {bad fr : List Addr} {P : Heap → Prop} {h h' : Heap} (x : Off bad P h) (k : KB bad h h') (hf : ∀ b ∈ fr, h.get? b = none) : Off (bad ++ fr) P h' := fun h'' k' => x _ fun b o hb e =>
  k' b o (fun hm => (List.mem_append.mp hm).elim hb fun hm => by rw [hf b hm] at e; cases e) (k b o hb e)
/-- three readers -/
structure Rds (w : World) (h : Heap) (r : Nat → RdA) (told : Str) (dirs : Nat → List Str) (mem : Nat → List (Str × Nat)) : Prop where
  rd : ∀ j, j < 3 → Rd w h (r j) told (dirs j) (mem j)
structure Apart (h : Heap) (r : Nat → RdA) (rD : Addr) : Prop where
  new : ∀ j, j < 3 → ∀ b ∈ (r j).all, h.get? b = none
  apart : ∀ i j, i < 3 → j < 3 → i ≠ j → ∀ b ∈ (r i).all, ∀ c ∈ (r j).all, b ≠ c
  off : ∀ j, j < 3 → ∀ b ∈ (r j).all, b ≠ rD
  newD : h.get? rD = none
theorem len3 {α : Type} : ∀ {l : List α}, l.length = 3 → ∃ a b c, l = [a, b, c]
  | [a, b, c], _ => ⟨a, b, c, rfl⟩
theorem rds_made {w : World} {h₀ h : Heap} {D : Addr} {ys : List Value} {os : List (List (Addr × Obj))} {told : Str} {dirs : Nat → List Str} {mem : List (Str × Nat)}
    (M : Made h₀ h D 3 (fun j y o => ∃ a tt t1 t2 t3 vs n ob kvs, y = Value.ref a.x ∧ o = rdNews w a told tt t1 t2 t3 vs n ob ∧ StrsL vs (dirs j) ∧ ob.IsDictOf (PySem.strKind PG w) kvs ∧ MemL kvs mem ∧ (a.ig == sysModules) = false ∧
      (@LT.lt Nat _ a.dx a.x ∧ @LT.lt Nat _ a.x a.ms ∧ @LT.lt Nat _ a.ms a.ds ∧ @LT.lt Nat _ a.ds a.ig)) ys os) :
    ∃ r : Nat → RdA, Rds w h r told dirs (fun _ => mem) ∧ Apart h₀ r D ∧ ys = [.ref (r 0).x, .ref (r 1).x, .ref (r 2).x] := by
  have hl := M.len
  have hl' := M.lens
  obtain ⟨y0, y1, y2, rfl⟩ := len3 hl
  obtain ⟨p0, p1, p2, rfl⟩ := len3 hl'
  have key : ∀ j y o, [y0, y1, y2][j]? = some y → [p0, p1, p2][j]? = some o → ∃ a : RdA, y = Value.ref a.x ∧ Rd w h a told (dirs j) mem ∧ (∀ b ∈ a.all, h₀.get? b = none) ∧ (∀ b ∈ a.all, b ≠ D) ∧ ∀ b ∈ a.all, ∃ q, (b, q) ∈ o := by
    intro j y o hy ho
    obtain ⟨a, tt, t1, t2, t3, vs, n, ob, kvs, e1, e2, e3, e4, e5, e6, e7⟩ := M.each j y o hy ho
    have hmem := List.mem_of_getElem? ho
    have hall : ∀ b ∈ a.all, ∃ q, (b, q) ∈ o := by
      intro b hb
      rw [e2]
      simp only [RdA.all, List.mem_cons, List.not_mem_nil, or_false] at hb
      simp only [rdNews, List.mem_cons, List.not_mem_nil, or_false, Prod.mk.injEq]
      rcases hb with rfl | rfl | rfl | rfl | rfl
      · exact ⟨_, .inr (.inl ⟨rfl, rfl⟩)⟩
      · exact ⟨_, .inr (.inr (.inl ⟨rfl, rfl⟩))⟩
      · exact ⟨_, .inr (.inr (.inr (.inl ⟨rfl, rfl⟩)))⟩
      · exact ⟨_, .inl ⟨rfl, rfl⟩⟩
      · exact ⟨_, .inr (.inr (.inr (.inr ⟨rfl, rfl⟩)))⟩
    refine ⟨a, e1, Rd.make (fun p hp => M.lie o hmem p (by rw [e2]; exact hp)) e3 e4 e5 e6 e7, fun b hb => ?_, fun b hb => ?_, hall⟩
    · obtain ⟨q, hq⟩ := hall b hb; exact M.new o hmem _ hq
    · obtain ⟨q, hq⟩ := hall b hb; exact M.off o hmem _ hq
  obtain ⟨a0, x0, r0, n0, f0, q0⟩ := key 0 y0 p0 rfl rfl
  obtain ⟨a1, x1, r1, n1, f1, q1⟩ := key 1 y1 p1 rfl rfl
  obtain ⟨a2, x2, r2, n2, f2, q2⟩ := key 2 y2 p2 rfl rfl
  have ap := M.apart
  simp only [List.pairwise_cons, List.mem_cons, List.not_mem_nil, or_false, forall_eq_or_imp, forall_eq, List.Pairwise.nil, and_true, false_imp_iff, implies_true] at ap
  obtain ⟨⟨ap01, ap02⟩, ap12⟩ := ap
  have d : ∀ {a b : RdA} {p q : List (Addr × Obj)}, (∀ c ∈ a.all, ∃ x, (c, x) ∈ p) → (∀ c ∈ b.all, ∃ x, (c, x) ∈ q) → (∀ u ∈ p, ∀ v ∈ q, u.1 ≠ v.1) → ∀ c ∈ a.all, ∀ e ∈ b.all, c ≠ e := fun h1 h2 h3 c hc e he => by
    obtain ⟨x, hx⟩ := h1 c hc
    obtain ⟨y, hy⟩ := h2 e he
    exact h3 _ hx _ hy
  refine ⟨fun j => if j = 0 then a0 else if j = 1 then a1 else a2, ⟨fun j hj => ?_⟩, ⟨fun j hj => ?_, fun i j hi hj hij => ?_, fun j hj => ?_, M.fresh⟩, by rw [x0, x1, x2]; rfl⟩
  · obtain rfl | rfl | rfl : j = 0 ∨ j = 1 ∨ j = 2 := by omega
    · exact r0
    · exact r1
    · exact r2
  · obtain rfl | rfl | rfl : j = 0 ∨ j = 1 ∨ j = 2 := by omega
    · exact n0
    · exact n1
    · exact n2
  · obtain rfl | rfl | rfl : i = 0 ∨ i = 1 ∨ i = 2 := by omega
    · obtain rfl | rfl : j = 1 ∨ j = 2 := by omega
      · exact d q0 q1 ap01
      · exact d q0 q2 ap02
    · obtain rfl | rfl : j = 0 ∨ j = 2 := by omega
      · exact fun c hc e he h => d q0 q1 ap01 e he c hc h.symm
      · exact d q1 q2 ap12
    · obtain rfl | rfl : j = 0 ∨ j = 1 := by omega
      · exact fun c hc e he h => d q0 q2 ap02 e he c hc h.symm
      · exact fun c hc e he h => d q1 q2 ap12 e he c hc h.symm
  · obtain rfl | rfl | rfl : j = 0 ∨ j = 1 ∨ j = 2 := by omega
    · exact f0
    · exact f1
    · exact f2
theorem Rds.kb {w : World} {h h' h₁ : Heap} {r : Nat → RdA} {rD : Addr} {told : Str} {dirs : Nat → List Str} {mem : Nat → List (Str × Nat)} {bad : List Addr} (R : Rds w h r told dirs mem) (A : Apart h₁ r rD) (k : KB bad h h') (hb : ∀ b ∈ bad, ∃ o, h₁.get? b = some o) : Rds w h' r told dirs mem :=
  ⟨fun j hj => (R.rd j hj).at fun b hm o e => k b o (fun hx => by obtain ⟨o', e'⟩ := hb b hx; rw [A.new j hj b hm] at e'; cases e') e⟩
theorem Rds.kp {w : World} {h h' : Heap} {r : Nat → RdA} {told : Str} {dirs : Nat → List Str} {mem : Nat → List (Str × Nat)} (R : Rds w h r told dirs mem) (k : Kp h h') : Rds w h' r told dirs mem :=
  ⟨fun j hj => (R.rd j hj).at fun b hm o e => k b o e⟩
theorem Rd.live {w : World} {h : Heap} {a : RdA} {told : Str} {dirs : List Str} {mem : List (Str × Nat)} (r : Rd w h a told dirs mem) : ∀ b ∈ a.all, ∃ o, h.get? b = some o := by
  obtain ⟨i, ⟨t1, t2, t3, d⟩, ⟨tt, s⟩, ⟨vs, n, l, hl⟩, ⟨o, kvs, g, hg⟩, nm, od⟩ := r
  intro b hb
  simp only [RdA.all, List.mem_cons, List.not_mem_nil, or_false] at hb
  rcases hb with rfl | rfl | rfl | rfl | rfl
  · exact ⟨_, i⟩
  · exact ⟨_, d⟩
  · exact ⟨_, s⟩
  · exact ⟨_, l⟩
  · exact ⟨_, g⟩
theorem gd_mem {α : Type} {xs : List α} {i : Nat} {d : α} (h : i < xs.length) : xs.getD i d ∈ xs := by
  rw [List.getD, List.getElem?_eq_getElem h]; exact List.getElem_mem h
theorem told_len (ns : List Int) : (tS ns).length ≤ 500 := by
  have h0 : (0 : Nat) ≤ 500 := by decide
  have e0 : (Str.empty).length = 0 := rfl
  have hx : ((nmS ns).getD (fstN ns / 3024 % 7).toNat []).getD ((fstN ns / 126 % 24).toNat % 8) Str.empty ∈ (nmS ns).getD (fstN ns / 3024 % 7).toNat [] := by
    have h7 : (fstN ns / 3024 % 7).toNat < (nmS ns).length := by rw [nm_len7]; omega
    refine getD_mem ?_
    rw [nm_len8 ns _ (gd_mem h7)]
    exact Nat.mod_lt _ (by decide)
  have hl : (((nmS ns).getD (fstN ns / 3024 % 7).toNat []).getD ((fstN ns / 126 % 24).toNat % 8) Str.empty).length ≤ 500 := by
    have h7 : (fstN ns / 3024 % 7).toNat < (nmS ns).length := by rw [nm_len7]; omega
    exact nm_lens ns _ (gd_mem h7) _ hx
  have h3 : (fstN ns / 126 % 24).toNat / 8 < 3 := by omega
  unfold tS toldS
  generalize ((nmS ns).getD (fstN ns / 3024 % 7).toNat []).getD ((fstN ns / 126 % 24).toNat % 8) Str.empty = x at *
  generalize (fstN ns / 126 % 24).toNat / 8 = q at *
  obtain rfl | rfl | rfl : q = 0 ∨ q = 1 ∨ q = 2 := by omega
  · exact Nat.le_trans (Txt.slice_le x _ _) hl
  · exact hl
  · exact Nat.le_trans (Txt.slice_le x _ _) hl
theorem st8 (f : Addr) (cdv : Value) (L : Addr) (ns : List Int) (h₀ : Heap) (hdp : dp + 4 < recursionLimit) {m : Str → Option Value} {c2 c4 c5 : Option Value} {to tt : Tok}
    (S : LS h₀ L s.heap m (some (.int ((otS ns : Nat) : Int) to)) c2 (some (.str (tS ns) tt)) c4 c5) (g : G w h₀) 
    {oc : Value} {od : Option Addr} {params : Arguments} {dV kV doc pm cdv0 ct : Value} {an : Option Addr} {osl : Array (Option Value)} {body : List Stmt} {scope : Scope}
    (ho : (hd.heap_39 w.params).lookup 279 = some ⟨oc, od, .func (fnOf (Str.ofString "law") (Str.ofString "law") params body scope dV kV doc pm an cdv0 ct), osl⟩)
    {Q : Flow → Shared → Prop} (h : ∀ rD fD r h' tk, LS h₀ L h' (fun x => if x = Str.ofString "found" then some (.ref fD) else m x) (some (.int ((otS ns : Nat) : Int) to)) c2 (some (.str (tS ns) tt)) (some (.ref rD)) c5 → KB (badL L) s.heap h' →
      Rds w h' r (tS ns) (headsS (chrOf alphaS (otS ns))) (fun _ => [(Str.ofString "<string>", 1)]) → Apart s.heap r rD → s.heap.get? fD = none → (∀ j, j < 3 → ∀ b ∈ (r j).all, b ≠ fD) → rD ≠ fD →
      h'.PlainList rD [Value.ref (r 0).x, Value.ref (r 1).x, Value.ref (r 2).x].toArray → h'.PlainList fD ([] : List Value).toArray → Q .next { s with heap := h', toks := tk }) :
    wpAny (model PG w) (AA dp un fr gd) (exec (nthS body 8) (envOfC (Str.ofString "law") scope L f cdv)) Q noE s := by
  refine lit_of (f := 279) (fun body scope => wpAny (model PG w) (AA dp un fr gd) (exec (nthS body 8) (envOfC (Str.ofString "law") scope L f cdv)) Q noE s) ho (by k_is) ?_
  conv in (nthS _ _) => whnf
  (try k_fold)
  obtain ⟨X, mean, mg, mb, T⟩ := g
  obtain ⟨o1, o2, o3, o4, o5, N, d1, d2, d3, d4, d5⟩ := S.open
  have F := S.F
  walk_at "steps7"
  refine comp_eval 3 (fun i v => ∃ t, v = .int (i : Int) t) (fun j y o => ∃ a tt t1 t2 t3 vs n ob kvs, y = Value.ref a.x ∧ o = rdNews w a (tS ns) tt t1 t2 t3 vs n ob ∧ StrsL vs (headsS (chrOf alphaS (otS ns)) j) ∧ ob.IsDictOf (PySem.strKind PG w) kvs ∧ MemL kvs [(Str.ofString "<string>", 1)] ∧ (a.ig == sysModules) = false ∧
      (@LT.lt Nat _ a.dx a.x ∧ @LT.lt Nat _ a.x a.ms ∧ @LT.lt Nat _ a.ms a.ds ∧ @LT.lt Nat _ a.ds a.ig))
    (cl := [(Str.ofString "told", L + 3), (Str.ofString "other", L + 1)]) rfl (.inl ⟨by decide, by decide⟩) rfl (by decide) (by decide) ?_ ?_ ?_
  · walk_at "steps7"
    rename IsRange _ _ _ _ _ _ _ _ => a4
    rename Kp _ _ => a1
    exact ⟨⟨_, _, rfl, a1⟩, _, iters_range (n := 3) rfl a4 (by decide)⟩
  · rintro i v B h₅ tk₅ C E' ⟨ti, rfl⟩ hi hB hBC ⟨m₅, hn, hv⟩ hk
    have hv' : m₅ (Str.ofString "size") = some (.int (i : Int) ti) := by
      rcases hv with ⟨_, e⟩ | ⟨e, _⟩
      · exact e
      · cases e
    have q1 := S.e1.keeps hB
    have q3 := S.e3.keeps hB
    have X' := X.keeps (Kp.tr F.keep hB)
    have T' := T.keeps (Kp.tr F.keep hB)
    have F' : Fr B C h₅ m₅ := ⟨hn, hk, hBC⟩
    have N' : News B C h₅ [] := News.nil
    clear F N X T hv
    walk_at "steps7"
    refine c_made i (otS ns) hi (ot_lt ns) (tS ns) (Nat.le_trans (told_len ns) (by decide)) ti to tt (G.of F' X' T') (by omega) ?_
    intro a h₆ tk₆ k₆ f₆ R₆
    have nm := R₆.nomod
    have od := R₆.ord
    obtain ⟨tt', u1, u2, u3, dvs, dn, oi, kvs, hrd, hdv, hik, him⟩ := R₆.open
    exact ⟨h₆, tk₆, rdNews w a (tS ns) tt' u1 u2 u3 dvs dn oi, rfl, k₆, ⟨a, tt', u1, u2, u3, dvs, dn, oi, kvs, rfl, rfl, hdv, hik, him, nm, od⟩, hrd, fun p hp => f₆ _ (rd_addr hp)⟩
  · intro h₅ tk₅ rD ys os hM hk₅
    obtain ⟨r, R, A, rfl⟩ := rds_made hM
    have pl := hM.list
    clear hM
    have S₅ := S.kp hk₅
    have F₅ := S₅.F
    have N₅ := News.but N (fun b o _ e => hk₅ b o e)
    clear F N
    (try dsimp only)
    walk_at "steps7"
    refine newListF F₅ N₅ ?_
    intro fD h₆ F₆ N₆ _ k₆ f₆
    (try dsimp only)
    walk_at "steps7"
    rename News _ _ _ _ => N₇
    rename Kp _ _ => k₇
    rename Heap => h₇
    refine assign_Tuple_tuple rfl (News.isTup N₇ (.head _)) rfl rfl ?_
    intro h₈ x₈
    have k₈ : Kp h₇ h₈ := fun b o e => x₈ b o (Nat.ne_of_lt (Heap.lt_size e)) e
    have k₅₈ : Kp h₅ h₈ := (Kp.tr k₆ k₇).tr k₈
    have pf : h₈.PlainList fD ([] : List Value).toArray := ⟨0, k₈ _ _ (N₇.get (.tail _ (.head _)))⟩
    have S₈ := S₅.kp k₅₈
    have R₈ := R.kp k₅₈
    have fs : s.heap.get? fD = none := none_back hk₅ f₆
    (try clear F₅ N₅); (try clear F₆ N₆); (try clear N₇)
    refine assignInOrder_cons ?_
    (try dsimp only)
    walk_at "steps7"
    refine LS.sc4 S₈ ?_ rfl rfl rfl
    intro h₉ tk₉ S₉ k₉
    refine assignInOrder_cons ?_
    (try dsimp only)
    walk_at "steps7"
    refine LS.st S₉ ?_ rfl rfl
    intro h₁₀ tk₁₀ S₁₀ k₁₀
    refine assignInOrder_nil ?_
    have kk := KB.tr k₉ k₁₀
    have lv := S.live
    refine h rD fD r h₁₀ _ S₁₀ (KB.tr (KB.of (Kp.tr hk₅ k₅₈)) kk) (R₈.kb A kk lv) A fs ?_ ?_ ?_ ?_
    · intro j hj b hb e
      obtain ⟨o, eo⟩ := (R.rd j hj).live b hb
      rw [e, f₆] at eo; cases eo
    · intro e
      obtain ⟨n, eo⟩ := pl
      rw [e, f₆] at eo; cases eo
    · obtain ⟨n, eo⟩ := pl
      exact ⟨n, kk _ _ (S.off A.newD) (k₅₈ _ _ eo)⟩
    · obtain ⟨n, eo⟩ := pf
      exact ⟨n, kk _ _ (S.off fs) eo⟩
end
/- C23 -/
section
noncomputable def DynAt (w : World) (h : Heap) (ig : Addr) (mem : List (Str × Nat)) : Prop := ∃ o kvs, h.get? ig = some o ∧ o.IsDictOf (PySem.strKind PG w) kvs ∧ MemL kvs mem
theorem Rd.join {w : World} {h h' : Heap} {a : RdA} {told : Str} {dirs : List Str} {mem mem' : List (Str × Nat)} (r : Rd w h a told dirs mem) (k : ∀ b ∈ a.all, b ≠ a.ig → ∀ o, h.get? b = some o → h'.get? b = some o) (d : DynAt w h' a.ig mem') : Rd w h' a told dirs mem' := by
  obtain ⟨o1, o2, o3, o4⟩ := r.ord
  obtain ⟨i, ⟨t1, t2, t3, dd⟩, ⟨tt, s⟩, ⟨vs, n, l, hl⟩, _, nm, od⟩ := r
  have n1 : a.x ≠ a.ig := Nat.ne_of_lt (by omega)
  have n2 : a.dx ≠ a.ig := Nat.ne_of_lt (by omega)
  have n3 : a.ms ≠ a.ig := Nat.ne_of_lt (by omega)
  have n4 : a.ds ≠ a.ig := Nat.ne_of_lt (by omega)
  exact ⟨k _ (by simp [RdA.all]) n1 _ i, ⟨t1, t2, t3, k _ (by simp [RdA.all]) n2 _ dd⟩, ⟨tt, k _ (by simp [RdA.all]) n3 _ s⟩, ⟨vs, n, k _ (by simp [RdA.all]) n4 _ l, hl⟩, d, nm, od⟩
noncomputable def igs (r : Nat → RdA) : List Addr := [(r 0).ig, (r 1).ig, (r 2).ig]
theorem mem_igs {r : Nat → RdA} {b : Addr} (h : b ∈ igs r) : ∃ j, j < 3 ∧ b = (r j).ig := by
  simp only [igs, List.mem_cons, List.not_mem_nil, or_false] at h
  rcases h with h | h | h
  · exact ⟨0, by decide, h⟩
  · exact ⟨1, by decide, h⟩
  · exact ⟨2, by decide, h⟩
theorem igs_mem {r : Nat → RdA} {j : Nat} (hj : j < 3) : (r j).ig ∈ igs r := by
  obtain rfl | rfl | rfl : j = 0 ∨ j = 1 ∨ j = 2 := by omega
  all_goals simp [igs]
theorem ig_all (a : RdA) : a.ig ∈ a.all := by simp [RdA.all]
theorem Apart.not_ig {h : Heap} {r : Nat → RdA} {rD : Addr} (A : Apart h r rD) {j : Nat} (hj : j < 3) {b : Addr} (hb : b ∈ (r j).all) (hne : b ≠ (r j).ig) : b ∉ igs r := fun hm => by
  obtain ⟨i, hi, e⟩ := mem_igs hm
  by_cases hij : i = j
  · subst hij; exact hne e
  · exact A.apart i j hi hj hij _ (ig_all _) _ hb e.symm
theorem Rds.join {w : World} {h h' h₁ : Heap} {r : Nat → RdA} {rD : Addr} {told : Str} {dirs : Nat → List Str} {mem mem' : Nat → List (Str × Nat)} (R : Rds w h r told dirs mem) (A : Apart h₁ r rD) (k : KB (igs r) h h') (d : ∀ j, j < 3 → DynAt w h' (r j).ig (mem' j)) : Rds w h' r told dirs mem' :=
  ⟨fun j hj => (R.rd j hj).join (fun b hb hne o e => k b o (A.not_ig hj hb hne) e) (d j hj)⟩
/-- what the readers keep while the names are asked -/
noncomputable def mK (told : Str) (dirs : List Str) (file : Str) (mem : List (Str × Nat)) (nm : Nat → Str) : Nat → List (Str × Nat)
  | 0 => mem
  | k + 1 => askM told dirs (mK told dirs file mem nm k) file (nm k)
noncomputable def mI (told : Str) (dirs : List Str) (file : Nat → Str) (nm : Nat → Nat → Str) : Nat → List (Str × Nat)
  | 0 => [(Str.ofString "<string>", 1)]
  | i + 1 => mK told dirs (file i) (mI told dirs file nm i) (nm i) 8
noncomputable def fiS (ns : List Int) (i : Nat) : Str := fileS i (slS ns) (otS ns)
noncomputable def dirS (ns : List Int) (j : Nat) : List Str := headsS (chrOf alphaS (otS ns)) j
noncomputable def memI (ns : List Int) (j i : Nat) : List (Str × Nat) := mI (tS ns) (dirS ns j) (fiS ns) (nmAt (nmS ns)) i
noncomputable def memK (ns : List Int) (j i k : Nat) : List (Str × Nat) := mK (tS ns) (dirS ns j) (fiS ns i) (memI ns j i) (nmAt (nmS ns) i) k
noncomputable def ansK (ns : List Int) (j i k : Nat) : Nat := askR (tS ns) (dirS ns j) (memK ns j i k) (fiS ns i) (nmAt (nmS ns) i k)
theorem memK_zero (ns : List Int) (j i : Nat) : memK ns j i 0 = memI ns j i := rfl
theorem memK_succ (ns : List Int) (j i k : Nat) : memK ns j i (k + 1) = askM (tS ns) (dirS ns j) (memK ns j i k) (fiS ns i) (nmAt (nmS ns) i k) := rfl
theorem memI_zero (ns : List Int) (j : Nat) : memI ns j 0 = [(Str.ofString "<string>", 1)] := rfl
theorem memI_succ (ns : List Int) (j i : Nat) : memI ns j (i + 1) = memK ns j i 8 := rfl
noncomputable def fndK (ns : List Int) (i k : Nat) : Str := catS [itx (ansK ns 0 i k), itx (ansK ns 1 i k), itx (ansK ns 2 i k)]
noncomputable def fndR (ns : List Int) (i : Nat) : List Str := (List.range 8).map (fndK ns i)
noncomputable def fndS (ns : List Int) : List (List Str) := (List.range 7).map (fndR ns)
theorem askM_len (told : Str) (dirs : List Str) (mem : List (Str × Nat)) (file name : Str) : (askM told dirs mem file name).length ≤ mem.length + 1 := by
  unfold askM; split <;> simp
theorem memK_len (ns : List Int) (j i : Nat) : ∀ k, (memK ns j i k).length ≤ (memI ns j i).length + k
  | 0 => Nat.le_refl _
  | k + 1 => by rw [memK_succ]; exact Nat.le_trans (askM_len ..) (by have := memK_len ns j i k; omega)
theorem memI_len (ns : List Int) (j : Nat) : ∀ i, (memI ns j i).length ≤ 8 * i + 1
  | 0 => Nat.le_refl _
  | i + 1 => by rw [memI_succ]; have := memK_len ns j i 8; have := memI_len ns j i; omega
/-- found, as far as it is made -/
noncomputable def FL (bad : List Addr) (h : Heap) (D : Addr) (xss : List (List Str)) : Prop := ∃ vs : List Value, h.PlainList D vs.toArray ∧ vs.length = xss.length ∧ ∀ (i : Nat) (xs : List Str), xss[i]? = some xs → ∃ a, vs[i]? = some (Value.ref a) ∧ Off bad (fun h => StrsAt h a xs) h
theorem FL.ll {bad : List Addr} {h : Heap} {D : Addr} {xss : List (List Str)} (x : FL bad h D xss) : LL h D xss := by
  obtain ⟨vs, a, b, c⟩ := x
  exact ⟨vs, a, b, fun i xs hi => let ⟨q, e, f⟩ := c i xs hi; ⟨q, e, f.now⟩⟩
theorem FL.kb {bad bad' : List Addr} {h h' : Heap} {D : Addr} {xss : List (List Str)} (x : FL bad h D xss) (k : KB bad' h h') (hs : ∀ b ∈ bad', b ∈ bad) (hD : D ∉ bad') : FL bad h' D xss := by
  obtain ⟨vs, ⟨n, a⟩, b, c⟩ := x
  exact ⟨vs, ⟨n, k _ _ hD a⟩, b, fun i xs hi => let ⟨q, e, f⟩ := c i xs hi; ⟨q, e, f.kb (k.mono hs)⟩⟩
theorem FL.snoc {bad : List Addr} {h h' : Heap} {D a : Addr} {xss : List (List Str)} {xs : List Str} {vs : List Value} (hl : vs.length = xss.length)
    (hc : ∀ (i : Nat) (xs : List Str), xss[i]? = some xs → ∃ a, vs[i]? = some (Value.ref a) ∧ Off bad (fun h => StrsAt h a xs) h) (ha : Off bad (fun h => StrsAt h a xs) h) (k : KB bad h h') (hp : h'.PlainList D (vs ++ [Value.ref a]).toArray) : FL bad h' D (xss ++ [xs]) := by
  refine ⟨vs ++ [.ref a], hp, by simp [hl], fun i ys hi => ?_⟩
  rcases Nat.lt_trichotomy i xss.length with hlt | rfl | hlt
  · rw [List.getElem?_append_left hlt] at hi
    obtain ⟨q, e, f⟩ := hc i ys hi
    exact ⟨q, by rw [List.getElem?_append_left (by omega)]; exact e, f.kb k⟩
  · rw [List.getElem?_append_right (Nat.le_refl _)] at hi
    simp at hi; subst hi
    exact ⟨a, by rw [← hl, List.getElem?_append_right (Nat.le_refl _)]; simp, ha.kb k⟩
  · rw [List.getElem?_append_right (by omega)] at hi
    have : i - xss.length ≠ 0 := by omega
    simp [this] at hi
end
/- F6 -/
section
local macro_rules | `(tactic| walk_at "none such") => `(tactic| skip)
variable {w : World} {dp un : Nat} {fr : Option (List Env)} {gd : Option (List Code)} {s : Shared} {Q E : Value → Shared → Prop}
theorem anewF6 : True := by
  w_top off
  trivial
local macro_rules | `(tactic| walk_at "s7") => `(tactic| ((fail_if_success (with_reducible refine gd24 ?_)); (fail_if_success (with_reducible refine gd25 ?_)); (fail_if_success (with_reducible refine gd26 ?_)); (fail_if_success (with_reducible refine gd27 ?_)); (fail_if_success (with_reducible refine gd15 ?_)); walk_at "s3"))
local macro_rules | `(tactic| walk_at "steps7") => `(tactic| repeat' (walk_at "s7"))
noncomputable def badR (L : Addr) (r : Nat → RdA) (fD : Addr) (wr : List Addr) : List Addr := badL L ++ (igs r ++ [fD]) ++ wr
/-- the state at the head of a turn -/
structure T9 (w : World) (h₀ : Heap) (L : Addr) (ns : List Int) (m₀ : Str → Option Value) (c1 c2 c3 c4 : Option Value) (r : Nat → RdA) (fD : Addr) (hs : Heap) (wr : List Addr) (i : Nat) (h : Heap) : Prop where
  kb : KB (badR L r fD wr) hs h
  ls : ∃ m c5, LS h₀ L h m c1 c2 c3 c4 c5 ∧ ∀ x, x ≠ Str.ofString "i" → m x = m₀ x
  rds : Rds w h r (tS ns) (dirS ns) (fun j => memI ns j i)
  fl : FL (badR L r fD wr) h fD ((fndS ns).take i)
theorem nm_at {ns : List Int} {i k : Nat} {x : Str} (hi : i < (rowS ns).length) (hx : (seenS (rowS ns)[i])[k]? = some x) : nmAt (nmS ns) i k = x := by
  have e : (nmS ns).getD i [] = seenS (rowS ns)[i] := by rw [nmS, List.getD, List.getElem?_map, List.getElem?_eq_getElem hi]; rfl
  rw [nmAt, e, List.getD, hx]; rfl
theorem get_names {A : Around} {a : RdA} {told : Str} {dirs : List Str} {mem : List (Str × Nat)} {pl : Sem Bool} {Q : Value × List Value → Shared → Prop} (g : G w s.heap) (R : Rd w s.heap a told dirs mem) (h : Q (.ref 209, [.ref a.x]) s) :
    wpAny (model PG w) A (getMethod (.ref a.x) (Str.ofString "names") pl) Q E s := by
  obtain ⟨t1, t2, t3, hdx⟩ := R.dict
  have I : InstAt s.heap a.x (instObj 212 a.dx) 212 (some (dictOf (rdEs w a.ms a.ds a.ig t1 t2 t3) 3)) := ⟨R.inst, rfl, rfl, hdx⟩
  have hg : plainGet (hd.heap_39 w.params) 212 (Str.ofString "names") = true := by k_is
  have hf : findIn (hd.heap_39 w.params) (.ref 212) (Str.ofString "names") = some (some (.ref 209)) := by k_is
  have ht : isFn (hd.heap_39 w.params) (.ref 209) = true := by k_is
  have hl : getL (Str.ofString "names") (rdEs w a.ms a.ds a.ig t1 t2 t3) = some none := by unfold rdEs; k_get
  exact method_fn g.k I (plainGet_of hg).1 (plainGet_of hg).2 hf (beq_iff_eq.mp ht) (by unfold shadowIn; dsimp only; rw [lookIn_dict, hl]; rfl) h
theorem file_len (i sl ot : Nat) : (fileS i sl ot).length ≤ 1000 := by
  show (fileS i sl ot).cps.size ≤ 1000
  simp [fileS]
theorem dir_len (ns : List Int) (j : Nat) (hj : j < 3) : ∀ d ∈ dirS ns j, d.length ≤ 1000 := fun d hd => by
  rw [heads_len _ rfl j d hd]; omega
theorem nm_le {ns : List Int} {i k : Nat} (hi : i < 7) (hk : k < 8) : (nmAt (nmS ns) i k).length ≤ 1000 := by
  have h7 : i < (nmS ns).length := by rw [nm_len7]; exact hi
  have h8 : k < ((nmS ns).getD i []).length := by rw [nm_len8 ns _ (gd_mem h7)]; exact hk
  exact Nat.le_trans (nm_lens ns _ (gd_mem h7) _ (gd_mem h8)) (by decide)
theorem cell_not_dyn {h : Heap} {c ig : Addr} {ov : Option Value} {mem : List (Str × Nat)} (x : h.IsCell c ov) (d : DynAt w h ig mem) : c ≠ ig := by
  rintro rfl
  obtain ⟨o, e, hd⟩ := x
  obtain ⟨o', kvs, e', ⟨es, ep, _, hd', _⟩, _⟩ := d
  rw [e] at e'; cases e'
  rw [hd] at hd'; cases hd'
theorem lk_le {mem : List (Str × Nat)} (h : ∀ p ∈ mem, p.2 ≤ 1) {name : Str} {v : Nat} (hv : lkS mem name = some v) : v ≤ 1 := by
  unfold lkS at hv
  obtain ⟨p, hp, rfl⟩ := Option.map_eq_some_iff.mp hv
  exact h p (List.mem_of_find?_eq_some hp)
theorem ans_le (told : Str) (dirs : List Str) (file name : Str) : ansS told dirs file name ≤ 1 := by
  unfold ansS; repeat' split
  all_goals decide
theorem askM_le {told : Str} {dirs : List Str} {mem : List (Str × Nat)} {file name : Str} (h : ∀ p ∈ mem, p.2 ≤ 1) : ∀ p ∈ askM told dirs mem file name, p.2 ≤ 1 := by
  intro p hp
  unfold askM at hp
  split at hp
  · exact h p hp
  · rcases List.mem_append.mp hp with hp | hp
    · exact h p hp
    · rw [List.mem_singleton] at hp; subst hp; exact ans_le ..
theorem memK_le {ns : List Int} {j i : Nat} (h : ∀ p ∈ memI ns j i, p.2 ≤ 1) : ∀ k, ∀ p ∈ memK ns j i k, p.2 ≤ 1
  | 0 => h
  | k + 1 => by rw [memK_succ]; exact askM_le (memK_le h k)
theorem memI_le (ns : List Int) (j : Nat) : ∀ i, ∀ p ∈ memI ns j i, p.2 ≤ 1
  | 0 => by intro p hp; rw [memI_zero, List.mem_singleton] at hp; subst hp; exact Nat.le_refl _
  | i + 1 => by rw [memI_succ]; exact memK_le (memI_le ns j i) 8
theorem ansK_le (ns : List Int) (j i k : Nat) : ansK ns j i k ≤ 1 := by
  unfold ansK askR
  cases e : lkS (memK ns j i k) (nmAt (nmS ns) i k) with
  | none => exact ans_le ..
  | some v => exact lk_le (memK_le (memI_le ns j i) k) e
theorem ans_len (ns : List Int) (j i k : Nat) : (itx (ansK ns j i k)).length ≤ 1000 := itx_len _ (Nat.lt_of_le_of_lt (ansK_le ns j i k) (by decide))
theorem fnd_take {ns : List Int} {i k : Nat} (hk : k < 8) : (fndR ns i).take (k + 1) = (fndR ns i).take k ++ [fndK ns i k] := by
  rw [List.take_add_one]
  congr 1
  rw [fndR, List.getElem?_map, List.getElem?_range hk]; rfl
theorem fndS_take {ns : List Int} {i : Nat} (hi : i < 7) : (fndS ns).take (i + 1) = (fndS ns).take i ++ [fndR ns i] := by
  rw [List.take_add_one]
  congr 1
  rw [fndS, List.getElem?_map, List.getElem?_range hi]; rfl
theorem st9 (f : Addr) (cdv : Value) (L : Addr) (ns : List Int) (h₀ : Heap) (hdp : dp + 4 < recursionLimit) {m : Str → Option Value} {c2 c5 : Option Value} {to tt ts : Tok} {rD : Addr}
    (S : LS h₀ L s.heap m (some (.int ((otS ns : Nat) : Int) to)) c2 (some (.str (tS ns) tt)) (some (.ref rD)) c5) (g : G w h₀) (rwD fD : Addr) (r : Nat → RdA) (h₁ : Heap) (hm1 : m (Str.ofString "slash") = some (.int ((slS ns : Nat) : Int) ts)) (hm2 : m (Str.ofString "row") = some (.ref rwD)) (hm3 : m (Str.ofString "found") = some (.ref fD))
    (hrow : Off (badR L r fD []) (fun h => IntsNAt h rwD (rowS ns)) s.heap) (R : Rds w s.heap r (tS ns) (dirS ns) (fun _ => [(Str.ofString "<string>", 1)])) (A : Apart h₁ r rD) (hlv : ∀ b ∈ badL L, ∃ o, h₁.get? b = some o) (hf1 : h₁.get? fD = none) (hf2 : ∀ j, j < 3 → ∀ b ∈ (r j).all, b ≠ fD) (hf3 : rD ≠ fD)
    (hk0 : Kp h₀ h₁) (pr : s.heap.PlainList rD [Value.ref (r 0).x, Value.ref (r 1).x, Value.ref (r 2).x].toArray) (pf : s.heap.PlainList fD ([] : List Value).toArray)
    {oc : Value} {od : Option Addr} {params : Arguments} {dV kV doc pm cdv0 ct : Value} {an : Option Addr} {osl : Array (Option Value)} {body : List Stmt} {scope : Scope}
    (ho : (hd.heap_39 w.params).lookup 279 = some ⟨oc, od, .func (fnOf (Str.ofString "law") (Str.ofString "law") params body scope dV kV doc pm an cdv0 ct), osl⟩)
    {Q : Flow → Shared → Prop} (h : ∀ h' tk m' c5, LS h₀ L h' m' (some (.int ((otS ns : Nat) : Int) to)) c2 (some (.str (tS ns) tt)) (some (.ref rD)) c5 → (∀ x, x ≠ Str.ofString "i" → m' x = m x) → KB (badR L r fD []) s.heap h' →
      Rds w h' r (tS ns) (dirS ns) (fun j => memI ns j 7) → LL h' fD (fndS ns) → Q .next { s with heap := h', toks := tk }) :
    wpAny (model PG w) (AA dp un fr gd) (exec (nthS body 9) (envOfC (Str.ofString "law") scope L f cdv)) Q noE s := by
  refine lit_of (f := 279) (fun body scope => wpAny (model PG w) (AA dp un fr gd) (exec (nthS body 9) (envOfC (Str.ofString "law") scope L f cdv)) Q noE s) ho (by k_is) ?_
  conv in (nthS _ _) => whnf
  (try k_fold)
  obtain ⟨X, mean, mg, mb, T⟩ := g
  obtain ⟨o1, o2, o3, o4, o5, N, d1, d2, d3, d4, d5⟩ := S.open
  have F := S.F
  have g₀ : G w h₀ := ⟨X, mean, mg, mb, T⟩
  have alive : ∀ b ∈ badR L r fD [], ∃ o, s.heap.get? b = some o := by
    intro b hb
    simp only [badR, List.append_nil, List.mem_append, List.mem_singleton] at hb
    rcases hb with hb | hb | rfl
    · exact S.live b hb
    · obtain ⟨j, hj, rfl⟩ := mem_igs hb
      exact (R.rd j hj).live _ (ig_all _)
    · obtain ⟨n, e⟩ := pf; exact ⟨_, e⟩
  have old : ∀ b ∈ badR L r fD [], h₀.get? b = none := by
    intro b hb
    simp only [badR, List.append_nil, List.mem_append, List.mem_singleton] at hb
    rcases hb with hb | hb | rfl
    · exact S.n b hb
    · obtain ⟨j, hj, rfl⟩ := mem_igs hb
      exact none_back hk0 (A.new j hj _ (ig_all _))
    · exact none_back hk0 hf1
  have offw : ∀ wr : List Addr, (∀ b ∈ wr, s.heap.get? b = none) → ∀ b ∈ badR L r fD [], b ∉ wr := fun wr hw b hb hm => by
    obtain ⟨o, e⟩ := alive b hb; rw [hw b hm] at e; cases e
  have badw : ∀ (wr : List Addr) (b : Addr), b ∈ badR L r fD wr ↔ b ∈ badR L r fD [] ∨ b ∈ wr := fun wr b => by simp [badR, or_assoc]
  have hfD : fD ∈ badR L r fD [] := by simp [badR]
  have hig : ∀ b ∈ igs r, b ∈ badR L r fD [] := fun b hb => by simp [badR, hb]
  have hLb : ∀ b ∈ badL L, b ∈ badR L r fD [] := fun b hb => by simp [badR, hb]
  refine wpAny_For ?_
  walk_at "steps7"
  rename IsRange _ _ _ _ _ _ _ _ => a4
  rename Kp _ _ => a1
  (try clear F N); clear X T
  refine for_heap (fun wr i h => T9 w h₀ L ns m (some (.int ((otS ns : Nat) : Int) to)) c2 (some (.str (tS ns) tt)) (some (.ref rD)) r fD s.heap wr i h) (iters_range (n := 7) rfl a4 (by decide)) ?_ ?_ ?_ ?_
  · intro wr h hw k
    have kk : Kp s.heap h := Kp.tr a1 k
    have S' := S.kp kk
    refine ⟨KB.of kk, ⟨m, c5, S', fun _ _ => rfl⟩, R.kp kk, ⟨[], pf.at fun o e => kk _ o e, rfl, fun i xs hi => by simp at hi⟩⟩
  · rintro wr i h h' hw ⟨t1, ⟨m', c5', S', hm'⟩, t3, t4⟩ k
    have hw' : ∀ b ∈ wr, s.heap.get? b = none := fun b hb => none_back a1 (hw b hb)
    have ow := offw wr hw'
    have ow0 : ∀ b ∈ wr, h₀.get? b = none := fun b hb => none_back S.F.keep (hw' b hb)
    refine ⟨KB.tr t1 (k.mono fun b hb => (badw wr b).mpr (.inr hb)), ⟨m', c5', S'.kb k (fun b hb => ow b (hLb b hb)) ow0, hm'⟩, ⟨fun j hj => (t3.rd j hj).at fun b hb o e => k b o (fun hm => ?_) e⟩, t4.kb k (fun b hb => (badw wr b).mpr (.inr hb)) (ow _ hfD)⟩
    obtain ⟨o', e'⟩ := (R.rd j hj).live b hb
    rw [hw' b hm] at e'; cases e'
  · rintro i v wr h tk E₂ hi ⟨ti, rfl⟩ ⟨t1, ⟨m₁, c5', S₁, hm₁⟩, t3, t4⟩ hw hal
    have hw' : ∀ b ∈ wr, s.heap.get? b = none := fun b hb => none_back a1 (hw b hb)
    have ow := offw wr hw'
    have ow0 : ∀ b ∈ wr, h₀.get? b = none := fun b hb => none_back S.F.keep (hw' b hb)
    (try k_fold)
    walk_at "steps7"
    refine LS.st S₁ ?_ rfl rfl
    intro h₂ tk₂ S₂ k₂
    change LS h₀ L h₂ _ _ _ _ _ _ at S₂
    change KB (badL L) _ _ at k₂
    have e1 : (fun x => if x = Str.ofString "i" then some (Value.int (i : Int) ti) else m₁ x) (Str.ofString "slash") = some (.int ((slS ns : Nat) : Int) ts) := by
      rw [← hm1, ← hm₁ _ (by decide)]; exact if_neg (by decide)
    have e2 : (fun x => if x = Str.ofString "i" then some (Value.int (i : Int) ti) else m₁ x) (Str.ofString "row") = some (.ref rwD) := by
      rw [← hm2, ← hm₁ _ (by decide)]; exact if_neg (by decide)
    have e3 : (fun x => if x = Str.ofString "i" then some (Value.int (i : Int) ti) else m₁ x) (Str.ofString "found") = some (.ref fD) := by
      rw [← hm3, ← hm₁ _ (by decide)]; exact if_neg (by decide)
    have e4 : (fun x => if x = Str.ofString "i" then some (Value.int (i : Int) ti) else m₁ x) (Str.ofString "i") = some (.int (i : Int) ti) := if_pos rfl
    have e5 : ∀ x, x ≠ Str.ofString "i" → (fun x => if x = Str.ofString "i" then some (Value.int (i : Int) ti) else m₁ x) x = m x := fun x hx => by rw [← hm₁ x hx]; exact if_neg hx
    generalize (fun x => if x = Str.ofString "i" then some (Value.int (i : Int) ti) else m₁ x) = m₂ at *
    clear hm₁ S₁
    obtain ⟨p1, p2, p3, p4, p5, N₂, d1, d2, d3, d4, d5⟩ := S₂.open
    have F₂ := S₂.F
    obtain ⟨X, _, _, _, T⟩ := g₀
    walk_at "steps7"
    refine c_file i (slS ns) (otS ns) hi (sl_is ns) (ot_lt ns) _ _ _ (G.of F₂ X T) (by omega) ?_
    intro tf h₃ tk₃ k₃
    (try dsimp only)
    refine LS.sc5 (S₂.kp k₃) ?_ rfl rfl rfl
    intro h₄ tk₄ S₄ k₄
    clear F₂ N₂ d1 d2 d3 d4 d5
    obtain ⟨p1, p2, p3, p4, p5, N₄, d1, d2, d3, d4, d5⟩ := S₄.open
    have F₄ := S₄.F
    (try dsimp only)
    walk_at "steps7"
    have k₁₄ : KB (badL L) h h₄ := KB.tr k₂ (KB.tr (KB.of k₃) k₄)
    have fdL : fD ∉ badL L := fun hm => by obtain ⟨o, e⟩ := hlv _ hm; rw [hf1] at e; cases e
    have allL : ∀ j, j < 3 → ∀ b ∈ (r j).all, b ∉ badL L := fun j hj b hb hm => by obtain ⟨o, e⟩ := hlv _ hm; rw [A.new j hj b hb] at e; cases e
    have R₄ : Rds w h₄ r (tS ns) (dirS ns) (fun j => memI ns j i) := ⟨fun j hj => (t3.rd j hj).at fun b hb o e => k₁₄ b o (allL j hj b hb) e⟩
    have fl₄ := t4.kb k₁₄ (fun b hb => (badw wr b).mpr (.inl (hLb b hb))) fdL
    have kb₄ : KB (badR L r fD wr) s.heap h₄ := KB.tr t1 (k₁₄.mono fun b hb => (badw wr b).mpr (.inl (hLb b hb)))
    have row₄ : IntsNAt h₄ rwD (rowS ns) := hrow h₄ fun b o hb e => kb₄ b o (fun hm => ((badw wr b).mp hm).elim hb fun hm => by rw [hw' b hm] at e; cases e) e
    have pr₄ : h₄.PlainList rD [Value.ref (r 0).x, Value.ref (r 1).x, Value.ref (r 2).x].toArray := by
      obtain ⟨n, e⟩ := pr
      refine ⟨n, kb₄ _ _ (fun hm => ?_) e⟩
      rcases (badw wr rD).mp hm with hm | hm
      · simp only [badR, List.append_nil, List.mem_append, List.mem_singleton] at hm
        rcases hm with hm | hm | hm
        · obtain ⟨o, e⟩ := hlv _ hm; rw [A.newD] at e; cases e
        · obtain ⟨j, hj, e⟩ := mem_igs hm; exact A.off j hj _ (ig_all _) e.symm
        · exact hf3 hm
      · rw [hw' rD hm] at e; cases e
    have al₄ : ∀ b ∈ wr, ∃ o, h₄.get? b = some o := fun b hb => by
      obtain ⟨o, e⟩ := hal b hb; exact ⟨o, k₁₄ b o (fun hm => ow b (hLb b hm) hb) e⟩
    obtain ⟨fv, ⟨fn, fe⟩, fl1, fl2⟩ := id fl₄
    refine getMethod_list_append fe rfl rfl ?_
    (try dsimp only)
    walk_at "steps7"
    refine comp_evalM 8 (fun k v => ∃ t, v = .str (nmAt (nmS ns) i k) t) (igs r) (fun k ys h => StrsL ys ((fndR ns i).take k) ∧ ∀ j, j < 3 → DynAt w h (r j).ig (memK ns j i k))
      (cl := [(Str.ofString "readers", L + 4), (Str.ofString "file", L + 5)]) rfl (.inr ⟨fun _ => rfl, fun _ => rfl, rfl⟩) rfl (by decide) (by decide) ?_ ?_ ?_ ?_ ?_ ?_
    · intro a ha
      obtain ⟨j, hj, rfl⟩ := mem_igs ha
      exact (R₄.rd j hj).live _ (ig_all _)
    · exact ⟨StrsL.nil, fun j hj => (R₄.rd j hj).ign⟩
    · rintro k ys ha hb ⟨j1, j2⟩ hkk
      refine ⟨j1, fun j hj => ?_⟩
      obtain ⟨o, kvs, e, e'⟩ := j2 j hj
      exact ⟨o, kvs, hkk _ (igs_mem hj) _ e, e'⟩
    · walk_at "steps7"
      obtain ⟨rv, rp, hrv⟩ := row₄
      have hrl : i < (rowS ns).length := by rw [row_len]; exact hi
      obtain ⟨tx, htx⟩ := hrv.2 i (rowS ns)[i] (by simp [hrl])
      refine itmH rp.isList htx (by omega) ?_ (by with_unfolding_all rfl)
      (try dsimp only)
      walk_at "steps7"
      refine c_asked _ _ (G.of F₄ X T) (by omega) (row_lt ns _ (List.getElem_mem hrl)) ?_
      intro D h₅ tk₅ k₅ f₅ ⟨us, up, hus⟩
      refine ⟨⟨_, _, rfl, k₅⟩, [D], ?_, (iters_strs rfl up.isList hus).imp (seen_len8 _) fun j v hj hv => ?_⟩
      · intro b hb hm
        rw [List.mem_singleton] at hb; subst hb
        obtain ⟨j, hj, e⟩ := mem_igs hm
        obtain ⟨o, e'⟩ := (R₄.rd j hj).live _ (ig_all _)
        rw [← e] at e'
        have f₅' : h₄.get? b = none := f₅
        rw [f₅'] at e'; cases e'
      · obtain ⟨x, t, hx, rfl⟩ := hv
        exact ⟨t, by rw [nm_at hrl hx]⟩
    · rintro k v ys B h₅ tk₅ C E' ⟨tn, rfl⟩ hk hys hkB hBn hBC hC5 ⟨m₅, hn₅, hv₅⟩ hk₅ ⟨J1, J2⟩ hal₅
      have hv' : h₅.IsCell (C + 1) (some (.str (nmAt (nmS ns) i k) tn)) := by
        rcases hv₅ with ⟨e, _⟩ | ⟨_, _, e⟩
        · cases e
        · exact e
      have kb₅ : KB (igs r) h₄ h₅ := fun b o hb e => hk₅ b o (hkB b o (hideAll_get _ e hb))
      have cig : ∀ c ov, h₄.IsCell c ov → c ∉ igs r := fun c ov x hm => by
        obtain ⟨j, hj, e⟩ := mem_igs hm
        exact cell_not_dyn x (R₄.rd j hj).ign e
      have kcB : ∀ c ov, h₄.IsCell c ov → B.IsCell c ov := fun c ov x => by
        have hm := cig c ov x
        obtain ⟨o, e, hd⟩ := x
        exact ⟨o, hkB _ _ (hideAll_get _ e hm), hd⟩
      have k0B : Kp h₀ B := fun b o e => hkB b o (hideAll_get _ (S₄.F.keep b o e) fun hm => by rw [old b (hig b hm)] at e; cases e)
      have R₅ : Rds w h₅ r (tS ns) (dirS ns) (fun j => memK ns j i k) := R₄.join A kb₅ J2
      have q4 := kcB _ _ S₄.e4
      have q5 := kcB _ _ S₄.e5
      have F₅ : Fr B C h₅ m₅ := ⟨hn₅, hk₅, hBC⟩
      have N₅ : News B C h₅ [] := News.nil
      have X₅ := X.keeps k0B
      have T₅ := T.keeps k0B
      clear hn₅ hv₅
      walk_at "steps7"
      refine cw1 ?_
      refine comp_evalM 3 (fun j v => v = .ref (r j).x) (igs r) (fun j zs h => StrsL zs (([itx (ansK ns 0 i k), itx (ansK ns 1 i k), itx (ansK ns 2 i k)] : List Str).take j) ∧ ∀ j', j' < 3 → DynAt w h (r j').ig (if j' < j then memK ns j' i (k + 1) else memK ns j' i k))
        (cl := [(Str.ofString "name", C + 1), (Str.ofString "file", L + 5)]) rfl (.inl ⟨by decide, by decide⟩) rfl (by decide) (by decide) hal₅ ?_ ?_ ?_ ?_ ?_
      · exact ⟨StrsL.nil, fun j hj => by rw [if_neg (by omega)]; exact J2 j hj⟩
      · rintro j zs ha hb ⟨j1, j2⟩ hkk
        refine ⟨j1, fun j hj => ?_⟩
        obtain ⟨o, kvs, e, e'⟩ := j2 j hj
        exact ⟨o, kvs, hkk _ (igs_mem hj) _ e, e'⟩
      · walk_at "s7"
        have rdi : rD ∉ igs r := fun hm => by
          obtain ⟨j, hj, e⟩ := mem_igs hm; exact A.off j hj _ (ig_all _) e.symm
        have pr₅ : h₅.PlainList rD [Value.ref (r 0).x, Value.ref (r 1).x, Value.ref (r 2).x].toArray := by
          obtain ⟨n, e⟩ := pr₄; exact ⟨n, kb₅ _ _ rdi e⟩
        refine ⟨⟨_, _, rfl, Kp.rfl'⟩, [rD], (fun b hb hm => rdi (by rw [List.mem_singleton] at hb; exact hb ▸ hm)), (iters_list rfl pr₅.isList).imp rfl fun j v hj hv => ?_⟩
        have hj3 : j < 3 := hj
        obtain rfl | rfl | rfl : j = 0 ∨ j = 1 ∨ j = 2 := by omega
        all_goals (simp at hv; exact hv.symm)
      · rintro j v zs B₂ h₆ tk₆ C₂ E'' rfl hj hzs hkB₂ hBn₂ hBC₂ hC6 ⟨m₆, hn₆, hv₆⟩ hk₆ ⟨I1, I2⟩ hal₆
        have hv'' : m₆ (Str.ofString "reader") = some (.ref (r j).x) := by
          rcases hv₆ with ⟨_, e⟩ | ⟨e, _⟩
          · exact e
          · cases e
        have kb₆ : KB (igs r) h₅ h₆ := fun b o hb e => hk₆ b o (hkB₂ b o (hideAll_get _ e hb))
        have kcB₂ : ∀ c ov, h₅.IsCell c ov → B₂.IsCell c ov := fun c ov x => by
          have hm : c ∉ igs r := fun hm => by
            obtain ⟨j, hj, e⟩ := mem_igs hm
            exact cell_not_dyn x (R₅.rd j hj).ign e
          obtain ⟨o, e, hd⟩ := x
          exact ⟨o, hkB₂ _ _ (hideAll_get _ e hm), hd⟩
        have k0B₂ : Kp h₀ B₂ := fun b o e => hkB₂ b o (hideAll_get _ (hk₅ b o (k0B b o e)) fun hm => by rw [old b (hig b hm)] at e; cases e)
        have R₆ : Rds w h₆ r (tS ns) (dirS ns) (fun j' => if j' < j then memK ns j' i (k + 1) else memK ns j' i k) := R₅.join A kb₆ I2
        have q1 := kcB₂ _ _ hv'
        have q2 := kcB₂ _ _ (q5.keeps hk₅)
        have F₆ : Fr B₂ C₂ h₆ m₆ := ⟨hn₆, hk₆, hBC₂⟩
        have N₆ : News B₂ C₂ h₆ [] := News.nil
        have X₆ := X.keeps k0B₂
        have T₆ := T.keeps k0B₂
        have Rj : Rd w h₆ (r j) (tS ns) (dirS ns j) (memK ns j i k) := by have := R₆.rd j hj; rwa [if_neg (Nat.lt_irrefl _)] at this
        have g₆ : G w h₆ := G.of F₆ X₆ T₆
        clear hn₆ hv₆ F₅ N₅ X₅ T₅
        walk_at "steps7"
        refine get_names g₆ Rj ?_
        (try dsimp only)
        walk_at "steps7"
        have ml : (memK ns j i k).length ≤ 1000 := by have := memK_len ns j i k; have := memI_len ns j i; omega
        refine c_names (r j) (tS ns) (dirS ns j) (memK ns j i k) (fiS ns i) (nmAt (nmS ns) i k) _ _ h₀ ⟨X, _, _, _, T⟩ (Kp.tr k0B₂ hk₆) ?_ ?_ Rj (Nat.le_trans (told_len ns) (by decide)) (file_len _ _ _) (nm_le hi hk) (dir_len ns j hj) ml (by omega) ?_
        · have h1 : h₀.objs.size ≤ L := S.F.above
          obtain ⟨o, e⟩ := S₄.live L (by simp [badL])
          have h2 : L ∉ igs r := fun hm => by
            have := old L (hLb L (by simp [badL]))
            obtain ⟨j', hj', e'⟩ := mem_igs hm
            exact allL j' hj' _ (ig_all _) (by rw [← e']; simp [badL])
          have h3 : @LT.lt Nat _ L h₆.objs.size := Heap.lt_size (kb₆ _ _ h2 (kb₅ _ _ h2 e))
          exact Nat.le_trans h1 (Nat.le_of_lt h3)
        · exact fun b hb => none_back hk0 (A.new j hj b hb)
        intro t₇ h₇ tk₇ kk₇ R₇
        (try dsimp only)
        (try clear F₆ N₆)
        walk_at "s7"
        have hb : askR (tS ns) (dirS ns j) (memK ns j i k) (fiS ns i) (nmAt (nmS ns) i k) ≤ 1 := ansK_le ns j i k
        refine P.str_of_int (shown (N := 2 ^ 1920) (by omega) (by omega) (Int.le_refl _)) ?_
        refine ⟨h₇, _, rfl, ⟨?_, fun j' hj' => ?_⟩, fun b o hb e => kk₇ b o (fun e' => hb (e' ▸ igs_mem hj)) e, fun a ha => ?_⟩
        · have e : (([itx (ansK ns 0 i k), itx (ansK ns 1 i k), itx (ansK ns 2 i k)] : List Str).take (j + 1)) = ([itx (ansK ns 0 i k), itx (ansK ns 1 i k), itx (ansK ns 2 i k)] : List Str).take j ++ [itx (ansK ns j i k)] := by
            obtain rfl | rfl | rfl : j = 0 ∨ j = 1 ∨ j = 2 := by omega
            all_goals rfl
          rw [e]
          exact I1.snoc ⟨_, rfl⟩
        · by_cases ej : j' = j
          · subst ej
            rw [if_pos (Nat.lt_succ_self _), memK_succ]
            exact R₇.ign
          · have e : (if j' < j + 1 then memK ns j' i (k + 1) else memK ns j' i k) = if j' < j then memK ns j' i (k + 1) else memK ns j' i k := by
              by_cases h1 : j' < j
              · rw [if_pos h1, if_pos (by omega)]
              · rw [if_neg h1, if_neg (by omega)]
            rw [e]
            obtain ⟨o, kvs, e1, e2⟩ := I2 j' hj'
            exact ⟨o, kvs, kk₇ _ _ (fun e' => A.apart j' j hj' hj ej _ (ig_all _) _ (ig_all _) e') e1, e2⟩
        · obtain ⟨j', hj', rfl⟩ := mem_igs ha
          by_cases ej : j' = j
          · subst ej
            obtain ⟨o, _, e, _⟩ := R₇.ign
            exact ⟨o, e⟩
          · obtain ⟨o, e1⟩ := hal₆ _ ha
            exact ⟨o, kk₇ _ _ (fun e' => A.apart j' j hj' hj ej _ (ig_all _) _ (ig_all _) e') e1⟩
      · intro h₆ tk₆ D zs pD nD' hzl ⟨I1, I2⟩ kD al₆
        (try dsimp only)
        refine joinE pD.isList I1 (fun y hy => ?_) (by simp) fun t₈ tk₈ => ?_
        · simp only [List.take, List.mem_cons, List.not_mem_nil, or_false] at hy
          rcases hy with rfl | rfl | rfl <;> exact ans_len _ _ _ _
        refine ⟨h₆, _, rfl, ⟨?_, fun j' hj' => ?_⟩, kD, al₆⟩
        · have e : (fndR ns i).take (k + 1) = (fndR ns i).take k ++ [fndK ns i k] := fnd_take hk
          rw [e]
          exact J1.snoc ⟨_, rfl⟩
        · have := I2 j' hj'
          rwa [if_pos hj'] at this
    · intro h₅ tk₅ D ys pD nD' hyl ⟨J1, J2⟩ kD al₅
      (try dsimp only)
      have e8 : (fndR ns i).take 8 = fndR ns i := List.take_of_length_le (by simp [fndR])
      rw [e8] at J1
      have fdI : fD ∉ igs r := fun hm => by obtain ⟨j, hj, e⟩ := mem_igs hm; exact hf2 j hj _ (ig_all _) e.symm
      have pf₅ : h₅.PlainList fD fv.toArray := ⟨fn, kD _ _ fdI fe⟩
      have hDb : D ∉ badR L r fD wr := fun hm => by
        have hd4 : h₄.get? D = none := nD'
        rcases (badw wr D).mp hm with hm | hm
        · simp only [badR, List.append_nil, List.mem_append, List.mem_singleton] at hm
          rcases hm with hm | hm | hm
          · obtain ⟨o, e⟩ := S₄.live D hm; rw [hd4] at e; cases e
          · obtain ⟨j, hj, e⟩ := mem_igs hm
            obtain ⟨o, e'⟩ := (R₄.rd j hj).live _ (ig_all _)
            rw [← e, hd4] at e'; cases e'
          · rw [← hm, hd4] at fe; cases fe
        · obtain ⟨o, e⟩ := al₄ D hm; rw [hd4] at e; cases e
      walk_at "steps7"
      have fvl : fv.length ≤ 7 := by rw [fl1, List.length_take]; omega
      refine wpAny_list_append_plain pf₅ ?_ (by rw [List.size_toArray]; exact Nat.le_trans fvl (by decide))
      intro h₆ pf₆ hs₆
      refine wpAny_execs_nil ?_
      have kf₆ : KB [fD] h₅ h₆ := KB.same hs₆ (by simp)
      have k₄₆ : KB (badR L r fD wr) h₄ h₆ := KB.tr (KB.mono (bad := igs r) (fun b o hb e => kD b o hb e) fun b hb => (badw wr b).mpr (.inl (hig b hb))) (kf₆.mono fun b hb => by rw [List.mem_singleton] at hb; subst hb; exact (badw wr b).mpr (.inl hfD))
      have cig : ∀ b ∈ badL L, b ∉ igs r ++ [fD] := fun b hb hm => by
        rcases List.mem_append.mp hm with hm | hm
        · obtain ⟨j, hj, e⟩ := mem_igs hm; exact allL j hj _ (ig_all _) (e ▸ hb)
        · rw [List.mem_singleton] at hm; subst hm; exact fdL hb
      have kif : KB (igs r ++ [fD]) h₄ h₆ := KB.tr (KB.mono (bad := igs r) (fun b o hb e => kD b o hb e) fun b hb => List.mem_append_left _ hb) (kf₆.mono fun b hb => List.mem_append_right _ hb)
      refine ⟨h₆, _, rfl, ⟨KB.tr kb₄ k₄₆, ⟨m₂, _, S₄.kb kif cig (fun b hb => ?_), e5⟩, ?_, ?_⟩, ?_⟩
      · rcases List.mem_append.mp hb with hb | hb
        · exact old b (hig b hb)
        · rw [List.mem_singleton] at hb; subst hb; exact old b hfD
      · have R₅ : Rds w h₅ r (tS ns) (dirS ns) (fun j => memK ns j i 8) := R₄.join A (fun b o hb e => kD b o hb e) J2
        exact ⟨fun j hj => (R₅.rd j hj).at fun b hb o e => kf₆ b o (fun hm => hf2 j hj b hb (List.mem_singleton.mp hm)) e⟩
      · rw [fndS_take hi]
        have k₄₅ : KB (badR L r fD wr) h₄ h₅ := KB.mono (bad := igs r) (fun b o hb e => kD b o hb e) fun b hb => (badw wr b).mpr (.inl (hig b hb))
        have k₅₆ : KB (badR L r fD wr) h₅ h₆ := kf₆.mono fun b hb => by rw [List.mem_singleton] at hb; subst hb; exact (badw wr b).mpr (.inl hfD)
        refine FL.snoc (h := h₅) (vs := fv) (a := D) fl1 (fun q xs hq => let ⟨a, e, f⟩ := fl2 q xs hq; ⟨a, e, f.kb k₄₅⟩) ?_ k₅₆ ?_
        · intro h' k'
          obtain ⟨n, e⟩ := pD
          exact ⟨ys, ⟨n, k' _ _ hDb e⟩, J1⟩
        · have e : (fv ++ [Value.ref D]).toArray = fv.toArray.push (.ref D) := by simp
          rw [e]; exact pf₆
      · intro b hb o e
        rw [List.append_nil] at hb
        have e4 := k₁₄ b o (fun hm => ow b (hLb b hm) hb) e
        exact kif b o (fun hm => ow b (by rcases List.mem_append.mp hm with hm | hm; exact hig b hm; exact (List.mem_singleton.mp hm) ▸ hfD) hb) e4
  · intro wr hh tk E₂ hw t
    obtain ⟨t1, ⟨m', c5', S', hm'⟩, t3, t4⟩ := t
    refine wpAny_execs_nil ?_
    have hw' : ∀ b ∈ wr, s.heap.get? b = none := fun b hb => none_back a1 (hw b hb)
    refine h hh _ m' c5' S' hm' (fun b o hb e => t1 b o (fun hm => ?_) e) t3 ?_
    · rcases (badw wr b).mp hm with hm | hm
      · exact hb hm
      · rw [hw' b hm] at e; cases e
    · have := t4.ll
      rw [List.take_of_length_le (by simp [fndS])] at this
      exact this
end
/- C24 -/
section
noncomputable def dStr (x : Str) : PyData := .str x
noncomputable def dL (xs : List Str) : PyData := .list (xs.map PyData.str)
noncomputable def dLL (xss : List (List Str)) : PyData := .list (xss.map dL)
noncomputable def dP (p : Str × Str) : PyData := .tuple [.str p.1, .str p.2]
noncomputable def dPs (ps : List (Str × Str)) : PyData := .list (ps.map dP)
theorem eqv_strs : ∀ xs : List Str, PyData.eqvAll (xs.map PyData.str) (xs.map PyData.str) = true
  | [] => by simp [PyData.eqvAll]
  | x :: r => by simp [PyData.eqvAll, PyData.eqv, eqv_strs r]
theorem eqv_LL : ∀ xss : List (List Str), PyData.eqvAll (xss.map dL) (xss.map dL) = true
  | [] => by simp [PyData.eqvAll]
  | x :: r => by simp [PyData.eqvAll, dL, PyData.eqv, eqv_strs x]; exact eqv_LL r
theorem eqv_Ps : ∀ ps : List (Str × Str), PyData.eqvAll (ps.map dP) (ps.map dP) = true
  | [] => by simp [PyData.eqvAll]
  | x :: r => by simp [PyData.eqvAll, dP, PyData.eqv]; exact eqv_Ps r
theorem readsAll_strs {h : Heap} : ∀ {vs : List Value} {xs : List Str}, StrsL vs xs → ReadsAll h vs (xs.map PyData.str) []
  | [], [], _ => .nil
  | [], _ :: _, h => by have := h.1; simp at this
  | _ :: _, [], h => by have := h.1; simp at this
  | v :: vs, x :: xs, h => by
    obtain ⟨t, e⟩ := h.2 0 x rfl
    have e' : v = .str x t := by simpa using e
    subst e'
    exact ReadsAll.cons (as := []) (Reads.str x t) (readsAll_strs ⟨by simpa using h.1, fun i y hy => by obtain ⟨t', e'⟩ := h.2 (i + 1) y (by simpa using hy); exact ⟨t', by simpa using e'⟩⟩)
theorem readsAll_ptw {α : Type} {h : Heap} (d : α → PyData) : ∀ (vs : List Value) (xs : List α), vs.length = xs.length → (∀ (i : Nat) (x : α), xs[i]? = some x → ∃ v as, vs[i]? = some v ∧ Reads h v (d x) as) → ∃ as, ReadsAll h vs (xs.map d) as
  | [], [], _, _ => ⟨_, .nil⟩
  | [], _ :: _, hl, _ => by simp at hl
  | _ :: _, [], hl, _ => by simp at hl
  | v :: vs, x :: xs, hl, hh => by
    obtain ⟨v', as, e, r⟩ := hh 0 x rfl
    have e' : v = v' := by simpa using e
    subst e'
    obtain ⟨bs, r'⟩ := readsAll_ptw d vs xs (by simpa using hl) fun i y hy => by obtain ⟨v', as, e, r⟩ := hh (i + 1) y (by simpa using hy); exact ⟨v', as, by simpa using e, r⟩
    exact ⟨_, .cons r r'⟩
theorem LL.reads {h : Heap} {D : Addr} {xss : List (List Str)} (x : LL h D xss) : ∃ as, Reads h (.ref D) (dLL xss) as := by
  obtain ⟨vs, ⟨n, e⟩, hl, hh⟩ := x
  obtain ⟨as, r⟩ := readsAll_ptw (h := h) dL vs xss hl fun i xs hi => by
    obtain ⟨a, e1, us, ⟨k, e2⟩, hu⟩ := hh i xs hi
    exact ⟨_, _, e1, reads_list_at e2 rfl rfl (readsAll_strs hu)⟩
  exact ⟨_, reads_list_at e rfl rfl r⟩
theorem PairsAt.reads {h : Heap} {D : Addr} {ps : List (Str × Str)} (x : PairsAt h D ps) : ∃ as, Reads h (.ref D) (dPs ps) as := by
  obtain ⟨vs, ⟨n, e⟩, hl, hh⟩ := x
  obtain ⟨as, r⟩ := readsAll_ptw (h := h) dP vs ps hl fun i p hi => by
    obtain ⟨T, t, t', e1, e2⟩ := hh i p.1 p.2 hi
    exact ⟨_, _, e1, reads_tuple_at e2 rfl rfl (ReadsAll.cons (as := []) (Reads.str p.1 t) (ReadsAll.cons (as := []) (Reads.str p.2 t') .nil))⟩
  exact ⟨_, reads_list_at e rfl rfl r⟩
end
/- F7 -/
section
variable {w : World} {dp un : Nat} {fr : Option (List Env)} {gd : Option (List Code)} {s : Shared} {Q E : Value → Shared → Prop}
theorem anewF7 : True := by
  w_top off
  trivial
theorem ne_false {A : Around} {s : Shared} {a b : Value} {d : PyData} {Q : Value → Shared → Prop} {E : Value → Shared → Prop} (ra : ∃ as, Reads s.heap a d as) (rb : ∃ bs, Reads s.heap b d bs) (hd : SeqAt.shaped d = true) (he : PyData.eqv d d = true) (hu : A.units + 64 < cLine) (h : Q (.bool false) s) :
    wpAny (model PG w) A (compareOp .NotEq a b) Q E s := by
  obtain ⟨as, ra⟩ := ra
  obtain ⟨bs, rb⟩ := rb
  refine ne_dataH ra rb hd hd hu ?_
  rw [he]; exact h
theorem st10 (f : Addr) (cdv : Value) (L : Addr) (ns : List Int) (h₀ : Heap) (hdp : dp + 4 < recursionLimit) {m : Str → Option Value} {c1 c2 c3 c4 c5 : Option Value}
    (S : LS h₀ L s.heap m c1 c2 c3 c4 c5) (g : G w h₀) (fD dD : Addr) (xss : List (List Str)) (hm1 : m (Str.ofString "found") = some (.ref fD)) (hm2 : m (Str.ofString "due") = some (.ref dD)) (hf : LL s.heap fD xss) (hdue : LL s.heap dD xss) (hs : SeqAt.shaped (dLL xss) = true) (hun : un + 64 < cLine)
    {oc : Value} {od : Option Addr} {params : Arguments} {dV kV doc pm cdv0 ct : Value} {an : Option Addr} {osl : Array (Option Value)} {body : List Stmt} {scope : Scope}
    (ho : (hd.heap_39 w.params).lookup 279 = some ⟨oc, od, .func (fnOf (Str.ofString "law") (Str.ofString "law") params body scope dV kV doc pm an cdv0 ct), osl⟩)
    {Q : Flow → Shared → Prop} (h : ∀ tk, Q .next { s with toks := tk }) :
    wpAny (model PG w) (AA dp un fr gd) (exec (nthS body 10) (envOfC (Str.ofString "law") scope L f cdv)) Q noE s := by
  refine lit_of (f := 279) (fun body scope => wpAny (model PG w) (AA dp un fr gd) (exec (nthS body 10) (envOfC (Str.ofString "law") scope L f cdv)) Q noE s) ho (by k_is) ?_
  conv in (nthS _ _) => whnf
  (try k_fold)
  obtain ⟨X, mean, mg, mb, T⟩ := g
  obtain ⟨o1, o2, o3, o4, o5, N, d1, d2, d3, d4, d5⟩ := S.open
  have F := S.F
  refine wpAny_If ?_
  walk_at "steps3"
  refine ne_false (LL.reads hf) (LL.reads hdue) hs (by show PyData.eqv (.list _) (.list _) = true; rw [PyData.eqv]; exact eqv_LL xss) hun ?_
  (try dsimp only)
  walk_at "s3"
  (try dsimp only)
  simp only [Bool.false_eq_true, if_false]
  refine wpAny_execs_nil ?_
  exact h _
end
/- P2 -/
section
theorem lk_none {mem : List (Str × Nat)} {x : Str} (h : lkS mem x = none) : ∀ p ∈ mem, p.1 ≠ x := by
  intro p hp e
  unfold lkS at h
  rw [Option.map_eq_none_iff, List.find?_eq_none] at h
  exact h p hp (by simp [e])
theorem lk_some {mem : List (Str × Nat)} {x : Str} {v : Nat} (h : lkS mem x = some v) : (x, v) ∈ mem := by
  unfold lkS at h
  obtain ⟨p, hp, rfl⟩ := Option.map_eq_some_iff.mp h
  have h1 := List.find?_some hp
  have h2 := List.mem_of_find?_eq_some hp
  have e : p.1 = x := of_decide_eq_true h1
  subst e; exact h2
theorem nm_form {ns : List Int} {i k : Nat} (hi : i < 7) (hk : k < 8) : ∃ v, nmAt (nmS ns) i k = itx k ++ Str.ofString "." ++ v ∧ Gd v := by
  have hl : i < (rowS ns).length := by rw [row_len]; exact hi
  have h8 : k < (seenS (rowS ns)[i]).length := by rw [seen_len8]; exact hk
  obtain ⟨z, hz, e, _⟩ := seen_at (List.getElem?_eq_getElem h8)
  exact ⟨z, (nm_at hl (List.getElem?_eq_getElem h8)).trans e, view_gd _ z (List.mem_of_getElem? hz)⟩
theorem nm_head {ns : List Int} {i k : Nat} (hi : i < 7) (hk : k < 8) : (nmAt (nmS ns) i k).cps.toList.head? = some (48 + k) := by
  obtain ⟨v, e, _⟩ := nm_form (ns := ns) hi hk
  rw [e, tl_app, tl_app, itx_tl k hk]; rfl
theorem nm_kind {ns : List Int} {i k i' k' : Nat} (hi : i < 7) (hk : k < 8) (hi' : i' < 7) (hk' : k' < 8) (h : nmAt (nmS ns) i' k' = nmAt (nmS ns) i k) : k' = k := by
  have h1 := nm_head (ns := ns) hi hk
  rw [← h, nm_head hi' hk'] at h1
  have := Option.some.inj h1
  omega
theorem nm_str {ns : List Int} {i k : Nat} (hi : i < 7) (hk : k < 8) : Str.ofString "<string>" ≠ nmAt (nmS ns) i k := by
  intro h
  have h1 := nm_head (ns := ns) hi hk
  rw [← h] at h1
  have e : (Str.ofString "<string>").cps.toList.head? = some 60 := by decide +kernel
  rw [e] at h1
  have := Option.some.inj h1
  omega
/-- the due answer -/
noncomputable def dueT (ns : List Int) (j i k : Nat) : Nat := firstS (nmS ns) i k (tS ns) / 2 ^ (2 - j) % 2
theorem due_cong {ns : List Int} {j i i' k : Nat} (h : nmAt (nmS ns) i' k = nmAt (nmS ns) i k) : dueT ns j i' k = dueT ns j i k := by
  unfold dueT firstS fstS; rw [h]
theorem first_at {ns : List Int} {i k : Nat} (hi : i < 7) (hn : ∀ i', i' < i → nmAt (nmS ns) i' k ≠ nmAt (nmS ns) i k) : fstS (nmS ns) i k = i := by
  have hl : i < (nmS ns).length := by rw [nm_len7]; exact hi
  have hc : i < (colS (nmS ns) k).length := by simpa [colS] using hl
  unfold fstS
  rw [List.findIdx_eq hc]
  have at' : ∀ q, (hq : q < (colS (nmS ns) k).length) → (colS (nmS ns) k)[q] = nmAt (nmS ns) q k := fun q hq => by
    have hq' : q < (nmS ns).length := by simpa [colS] using hq
    have := col_at (k := k) hq'
    rw [List.getElem?_eq_getElem hq] at this; exact Option.some.inj this
  refine ⟨by rw [at']; simp, fun q hq => ?_⟩
  rw [at']
  exact decide_eq_false (hn q hq)
theorem ot_is (ns : List Int) : otS ns = 125 - slS ns ∨ otS ns < 62 := by
  unfold otS; split <;> omega
/-- the answer that is reckoned anew -/
theorem ans_due {ns : List Int} {j i k : Nat} (hj : j < 3) (hi : i < 7) (hk : k < 8) (hn : ∀ i', i' < i → nmAt (nmS ns) i' k ≠ nmAt (nmS ns) i k) :
    ansS (tS ns) (dirS ns j) (fiS ns i) (nmAt (nmS ns) i k) = dueT ns j i k := by
  obtain ⟨v, e, hv⟩ := nm_form (ns := ns) hi hk
  have hs := sw_told hk (told := tS ns) hv.dot
  rw [← e] at hs
  have hd := dirs_any (sl_is ns) (ot_is ns) (i := i) hj
  unfold ansS dueT firstS
  rw [first_at hi hn]
  have h7 : 7 / 2 ^ (2 - j) % 2 = 1 := by
    obtain rfl | rfl | rfl : j = 0 ∨ j = 1 ∨ j = 2 := by omega
    all_goals rfl
  by_cases a : tS ns = nmAt (nmS ns) i k
  · rw [if_pos a.symm, if_pos (.inl a), h7]
  · rw [if_neg (fun q => a q.symm)]
    by_cases b : tS ns = itx k
    · rw [if_pos (hs.mpr b), if_pos (.inr b), h7]
    · rw [if_neg (fun q => b (hs.mp q)), if_neg (show ¬ (tS ns = nmAt (nmS ns) i k ∨ tS ns = itx k) from fun q => q.elim a b)]
      show (if (headsS (chrOf alphaS (otS ns)) j).any (fun d => Txt.startswith (fileS i (slS ns) (otS ns)) (d ++ Str.ofString "/")) then 1 else 0) = _
      rw [hd]
      by_cases c : i / 2 ^ (2 - j) % 2 = 1
      · rw [c]; simp
      · have : i / 2 ^ (2 - j) % 2 = 0 := by omega
        rw [this]; simp
theorem dg_chr {p j : Nat} (hp : p ≤ 7) (hj : j < 3) : chrOf (dgS p) j = itx (p / 2 ^ (2 - j) % 2) := by
  have : ∀ p < 8, ∀ j < 3, chrOf (dgS p) j = itx (p / 2 ^ (2 - j) % 2) := by decide +kernel
  exact this p (by omega) j hj
theorem fst_le7 {ns : List Int} {i k : Nat} (hi : i < 7) : firstS (nmS ns) i k (tS ns) ≤ 7 := by
  unfold firstS; split
  · exact Nat.le_refl _
  · have := (fst_lt (k := k) (show i < (nmS ns).length by rw [nm_len7]; exact hi)).2; omega
theorem due_at {ns : List Int} {i k : Nat} (hi : i < 7) (hk : k < 8) : nmAt (dueS ns) i k = dgS (firstS (nmS ns) i k (tS ns)) := by
  have e : (dueS ns).getD i [] = ((List.range 8).map fun k => firstS (nmS ns) i k (tS ns)).map dgS := by
    unfold dueS plS
    rw [List.getD, List.getElem?_map, List.getElem?_map, List.getElem?_range hi]; rfl
  unfold nmAt
  rw [e, List.getD, List.getElem?_map, List.getElem?_map, List.getElem?_range hk]; rfl
/-- asked before the k-th name of the i-th place -/
noncomputable def Bef (i k i' k' : Nat) : Prop := i' < 7 ∧ k' < 8 ∧ (i' < i ∨ (i' = i ∧ k' < k))
structure Inv (ns : List Int) (j : Nat) (B : Nat → Nat → Prop) (M : List (Str × Nat)) (st : List (Str × Str) × List Str) : Prop where
  same : M.map (fun p => (p.1, itx p.2)) = st.1
  keys : M.map (·.1) = Str.ofString "<string>" :: st.2
  from' : ∀ p ∈ M, p.1 = Str.ofString "<string>" ∨ ∃ i' k', B i' k' ∧ p = (nmAt (nmS ns) i' k', dueT ns j i' k')
  met : ∀ i' k', B i' k' → nmAt (nmS ns) i' k' ∈ st.2
theorem Inv.step {ns : List Int} {j i k : Nat} (hj : j < 3) (hi : i < 7) (hk : k < 8) {M : List (Str × Nat)} {st : List (Str × Str) × List Str} (v : Inv ns j (Bef i k) M st) :
    askR (tS ns) (dirS ns j) M (fiS ns i) (nmAt (nmS ns) i k) = dueT ns j i k ∧
    Inv ns j (Bef i (k + 1)) (askM (tS ns) (dirS ns j) M (fiS ns i) (nmAt (nmS ns) i k)) (mstep (nmS ns) (dueS ns) j i st k) := by
  obtain ⟨v1, v2, v3, v4⟩ := v
  have hstr := nm_str (ns := ns) hi hk
  have bef : ∀ i' k', Bef i k i' k' → Bef i (k + 1) i' k' := fun i' k' ⟨a, b, c⟩ => ⟨a, b, by omega⟩
  have bef' : ∀ i' k', Bef i (k + 1) i' k' → Bef i k i' k' ∨ (i' = i ∧ k' = k) := by
    rintro i' k' ⟨a, b, c⟩
    by_cases h : i' = i ∧ k' = k
    · exact .inr h
    · exact .inl ⟨a, b, by omega⟩
  have isin : nmAt (nmS ns) i k ∈ st.2 ↔ nmAt (nmS ns) i k ∈ M.map (·.1) := by
    rw [v2, List.mem_cons]
    exact ⟨.inr, fun h => h.resolve_left fun e => hstr e.symm⟩
  have hany : st.2.any (· == nmAt (nmS ns) i k) = decide (nmAt (nmS ns) i k ∈ st.2) := by
    by_cases h : nmAt (nmS ns) i k ∈ st.2
    · rw [decide_eq_true h, List.any_eq_true]; exact ⟨_, h, by simp⟩
    · rw [decide_eq_false h, List.any_eq_false]; exact fun y hy e => h (by simp at e; exact e ▸ hy)
  cases e : lkS M (nmAt (nmS ns) i k) with
  | some r =>
    have hm := lk_some e
    have hin : nmAt (nmS ns) i k ∈ st.2 := isin.mpr (List.mem_map.mpr ⟨_, hm, rfl⟩)
    have ea : askM (tS ns) (dirS ns j) M (fiS ns i) (nmAt (nmS ns) i k) = M := by unfold askM; rw [e]; rfl
    have es : mstep (nmS ns) (dueS ns) j i st k = st := by unfold mstep; rw [hany, decide_eq_true hin]; rfl
    refine ⟨?_, ?_⟩
    · unfold askR; rw [e]
      rcases v3 _ hm with h | ⟨i', k', b, h⟩
      · exact absurd h.symm hstr
      · have h1 := congrArg Prod.fst h
        have h2 := congrArg Prod.snd h
        dsimp only at h1 h2
        have ek := nm_kind hi hk b.1 b.2.1 h1.symm
        subst ek
        show r = _
        rw [h2]; exact due_cong h1.symm
    · rw [ea, es]
      refine ⟨v1, v2, fun p hp => (v3 p hp).imp id fun ⟨i', k', b, h⟩ => ⟨i', k', bef _ _ b, h⟩, fun i' k' b => ?_⟩
      rcases bef' _ _ b with b | ⟨rfl, rfl⟩
      · exact v4 _ _ b
      · exact hin
  | none =>
    have hno := lk_none e
    have hnin : nmAt (nmS ns) i k ∉ st.2 := fun h => by
      obtain ⟨p, hp, e'⟩ := List.mem_map.mp (isin.mp h)
      exact hno p hp e'
    have hans := ans_due hj hi hk (fun i' hi' q => hnin (q ▸ v4 i' k ⟨by omega, hk, .inl hi'⟩))
    have ea : askM (tS ns) (dirS ns j) M (fiS ns i) (nmAt (nmS ns) i k) = M ++ [(nmAt (nmS ns) i k, dueT ns j i k)] := by unfold askM; rw [e, hans]; rfl
    have es : mstep (nmS ns) (dueS ns) j i st k = (st.1 ++ [(nmAt (nmS ns) i k, itx (dueT ns j i k))], st.2 ++ [nmAt (nmS ns) i k]) := by
      unfold mstep
      rw [hany, decide_eq_false hnin, due_at hi hk, dg_chr (fst_le7 hi) hj]; rfl
    refine ⟨?_, ?_⟩
    · unfold askR; rw [e]; exact hans
    · rw [ea, es]
      refine ⟨by simp [v1], by simp [v2], fun p hp => ?_, fun i' k' b => ?_⟩
      · rcases List.mem_append.mp hp with hp | hp
        · exact (v3 p hp).imp id fun ⟨i', k', b, h⟩ => ⟨i', k', bef _ _ b, h⟩
        · rw [List.mem_singleton] at hp
          exact .inr ⟨i, k, ⟨hi, hk, by omega⟩, hp⟩
      · rcases bef' _ _ b with b | ⟨rfl, rfl⟩
        · exact List.mem_append_left _ (v4 _ _ b)
        · exact List.mem_append_right _ (List.mem_singleton.mpr rfl)
theorem inv_row {ns : List Int} {j i : Nat} (hj : j < 3) (hi : i < 7) (v : Inv ns j (Bef i 0) (memI ns j i) (mall (nmS ns) (dueS ns) j i)) :
    ∀ k, k ≤ 8 → Inv ns j (Bef i k) (memK ns j i k) (mrow (nmS ns) (dueS ns) j i (mall (nmS ns) (dueS ns) j i) k)
  | 0, _ => by rw [memK_zero, mrow_zero]; exact v
  | k + 1, hk => by
    rw [memK_succ, mrow_succ]
    exact ((inv_row hj hi v k (by omega)).step hj hi (by omega)).2
theorem inv_all {ns : List Int} {j : Nat} (hj : j < 3) : ∀ i, i ≤ 7 → Inv ns j (Bef i 0) (memI ns j i) (mall (nmS ns) (dueS ns) j i)
  | 0, _ => by
    rw [memI_zero, mall_zero]
    refine ⟨?_, rfl, fun p hp => .inl ?_, fun i' k' ⟨_, _, h⟩ => by omega⟩
    · have e : itx 1 = Str.ofString "1" := by decide +kernel
      show [(_, itx 1)] = _
      rw [e]
    · rw [List.mem_singleton] at hp; rw [hp]
  | i + 1, hi => by
    rw [memI_succ, mall_succ]
    have v := inv_row (ns := ns) hj (by omega) (inv_all hj i (by omega)) 8 (by omega)
    exact ⟨v.same, v.keys, fun p hp => (v.from' p hp).imp id fun ⟨i', k', ⟨a, b, c⟩, h⟩ => ⟨i', k', ⟨a, b, by omega⟩, h⟩, fun i' k' ⟨a, b, c⟩ => v.met i' k' ⟨a, b, by omega⟩⟩
theorem ans_is {ns : List Int} {j i k : Nat} (hj : j < 3) (hi : i < 7) (hk : k < 8) : ansK ns j i k = dueT ns j i k :=
  ((inv_row hj hi (inv_all hj i (by omega)) k (by omega)).step hj hi hk).1
/-- what is found is what is due -/
theorem law_found (ns : List Int) : fndS ns = dueS ns := by
  have e : dueS ns = (List.range 7).map fun i => (List.range 8).map fun k => dgS (firstS (nmS ns) i k (tS ns)) := by
    unfold dueS plS; simp
  rw [e, fndS]
  refine List.map_congr_left fun i hi => ?_
  rw [fndR]
  refine List.map_congr_left fun k hk => ?_
  rw [List.mem_range] at hi hk
  unfold fndK
  rw [ans_is (by decide) hi hk, ans_is (by decide) hi hk, ans_is (by decide) hi hk]
  rfl
/-- what is kept is what the law writes -/
theorem law_kept {ns : List Int} {b : Nat} (hb : b < 3) : (memI ns b 7).map (fun p => (p.1, itx p.2)) = (mall (nmS ns) (dueS ns) b 7).1 := (inv_all hb 7 (by omega)).same
theorem due_len7 (ns : List Int) : (dueS ns).length = 7 := by simp [dueS, plS]
theorem due_len8 (ns : List Int) : ∀ xs ∈ dueS ns, xs.length = 8 := by
  intro xs h
  simp only [dueS, plS, List.mem_map] at h
  obtain ⟨_, ⟨i, _, rfl⟩, rfl⟩ := h
  simp
theorem due_size {ns : List Int} {i k : Nat} (hi : i < 7) (hk : k < 8) : (nmAt (dueS ns) i k).cps.size = 3 := by
  rw [due_at hi hk]
  have : ∀ p < 8, (dgS p).cps.size = 3 := by decide +kernel
  exact this _ (Nat.lt_succ_of_le (fst_le7 hi))
theorem gd_ok {x : Str} (h : ∀ c ∈ x.cps.toList, c < 128) : PyData.strOk x = true := by
  unfold PyData.strOk
  rw [Array.all_eq_true_iff_forall_mem]
  exact fun c hc => decide_eq_true (Nat.lt_trans (h c (Array.mem_toList_iff.mpr hc)) (by decide))
theorem nm_ok {ns : List Int} {i k : Nat} (hi : i < 7) (hk : k < 8) : PyData.strOk (nmAt (nmS ns) i k) = true := by
  obtain ⟨v, e, hv⟩ := nm_form (ns := ns) hi hk
  rw [e]
  refine gd_ok fun c hc => ?_
  rw [tl_app, tl_app, dot_tl] at hc
  rcases List.mem_append.mp hc with hc | hc
  · rcases List.mem_append.mp hc with hc | hc
    · exact (itx_gd k c hc).1
    · rw [List.mem_singleton] at hc; omega
  · exact (hv c hc).1
theorem canLay_strs : ∀ xs : List Str, (∀ x ∈ xs, PyData.strOk x = true) → PyData.canLayAll0 (xs.map PyData.str) = true
  | [], _ => by simp [PyData.canLayAll0]
  | x :: r, h => by simp [PyData.canLayAll0, PyData.canLay0, h x (by simp), canLay_strs r fun y hy => h y (by simp [hy])]
theorem depth_strs : ∀ xs : List Str, PyData.depthAll (xs.map PyData.str) = 0
  | [] => by simp [PyData.depthAll]
  | x :: r => by simp [PyData.depthAll, PyData.depth, depth_strs r]
theorem canLay_LL : ∀ xss : List (List Str), (∀ xs ∈ xss, ∀ x ∈ xs, PyData.strOk x = true) → PyData.canLayAll0 (xss.map dL) = true ∧ PyData.depthAll (xss.map dL) ≤ 1
  | [], _ => by simp [PyData.canLayAll0, PyData.depthAll]
  | x :: r, h => by
    obtain ⟨h1, h2⟩ := canLay_LL r fun y hy => h y (by simp [hy])
    have h3 := canLay_strs x (h x (by simp))
    have h4 := depth_strs x
    refine ⟨by simp [PyData.canLayAll0, dL, PyData.canLay0, h3]; exact h1, ?_⟩
    simp only [List.map_cons, PyData.depthAll, dL, PyData.depth, h4]
    exact Nat.max_le.mpr ⟨Nat.le_refl _, h2⟩
theorem shaped_LL {xss : List (List Str)} (h : ∀ xs ∈ xss, ∀ x ∈ xs, PyData.strOk x = true) : SeqAt.shaped (dLL xss) = true := by
  obtain ⟨h1, h2⟩ := canLay_LL xss h
  unfold SeqAt.shaped dLL
  rw [Bool.and_eq_true, decide_eq_true_iff, PyData.canLay0, PyData.depth]
  exact ⟨h1, by omega⟩
theorem canLay_Ps : ∀ ps : List (Str × Str), (∀ p ∈ ps, PyData.strOk p.1 = true ∧ PyData.strOk p.2 = true) → PyData.canLayAll0 (ps.map dP) = true ∧ PyData.depthAll (ps.map dP) ≤ 1
  | [], _ => by simp [PyData.canLayAll0, PyData.depthAll]
  | p :: r, h => by
    obtain ⟨h1, h2⟩ := canLay_Ps r fun y hy => h y (by simp [hy])
    obtain ⟨h3, h4⟩ := h p (by simp)
    refine ⟨by simp [PyData.canLayAll0, dP, PyData.canLay0, h3, h4]; exact h1, ?_⟩
    simp only [List.map_cons, PyData.depthAll, dP, PyData.depth]
    exact Nat.max_le.mpr ⟨by decide, h2⟩
theorem shaped_Ps {ps : List (Str × Str)} (h : ∀ p ∈ ps, PyData.strOk p.1 = true ∧ PyData.strOk p.2 = true) : SeqAt.shaped (dPs ps) = true := by
  obtain ⟨h1, h2⟩ := canLay_Ps ps h
  unfold SeqAt.shaped dPs
  rw [Bool.and_eq_true, decide_eq_true_iff, PyData.canLay0, PyData.depth]
  exact ⟨h1, by omega⟩
theorem law_shape1 (ns : List Int) : SeqAt.shaped (dLL (dueS ns)) = true := by
  refine shaped_LL fun xs hx x hx' => ?_
  simp only [dueS, plS, List.mem_map, List.mem_range] at hx
  obtain ⟨_, ⟨i, hi, rfl⟩, rfl⟩ := hx
  simp only [List.mem_map, List.mem_range] at hx'
  obtain ⟨_, ⟨k, hk, rfl⟩, rfl⟩ := hx'
  have : ∀ p < 8, PyData.strOk (dgS p) = true := by decide +kernel
  exact this _ (Nat.lt_succ_of_le (fst_le7 hi))
theorem law_shape2 {ns : List Int} {b : Nat} (hb : b < 3) : SeqAt.shaped (dPs (mall (nmS ns) (dueS ns) b 7).1) = true := by
  have v := inv_all (ns := ns) hb 7 (by omega)
  refine shaped_Ps fun q hq => ?_
  rw [← v.same] at hq
  obtain ⟨p, hp, rfl⟩ := List.mem_map.mp hq
  refine ⟨?_, gd_ok fun c hc => (itx_gd _ c hc).1⟩
  rcases v.from' p hp with h | ⟨i', k', ⟨a, b, _⟩, h⟩
  · show PyData.strOk p.1 = true
    rw [h]; decide +kernel
  · rw [h]; exact nm_ok a b
end
/- C25 -/
section
open PyProof.Rows.LCg
section
variable {w : World} {A : Around} {E : Value → Shared → Prop} {s : Shared} {h₀ : Heap} {L : Addr} {m : Str → Option Value}
/-- what the element of a block over pairs gives: a new pair of strs -/
noncomputable def PairP (s : Shared) (h : Heap) (p : Str × Str) (y : Value) (s₄ : Shared) : Prop :=
  ∃ T t1 t2 h' tk', y = .ref T ∧ s₄ = { s with heap := h', toks := tk' } ∧ Kp h h' ∧ h.get? T = none ∧ h'.get? T = some (tupO [.str p.1 t1, .str p.2 t2])
theorem pairs_rest {elt : Expr} {a b : Str} {scope : Scope} {cl : List (Str × Addr)} {env : Env} {ig : Addr} {od : Obj} {base : List (Addr × Obj)} {Q : Value → Shared → Prop} {φ : Str × Value → Str × Str}
    (hmem : (ig, od) ∈ base)
    (hQ : ∀ ys news D h tk, (∀ p ∈ base, p ∈ news) → Fr h₀ L h m → News h₀ L h ((D, lst ys) :: news) → ∀ ps, TupL ys ps news → ps = full → Q (.ref D) { s with heap := h, toks := tk })
    (kvs : List (Str × Value))
    (helt : ∀ p ∈ kvs, ∀ h tk C m₂ t E', h.Ns C m₂ → m₂ a = some (.str p.1 t) → m₂ b = some p.2 → Fr h₀ L h m →
      wpAny (model PG w) A (eval elt (compEnvC scope cl C env)) (PairP s h (φ p)) E' { s with heap := h, toks := tk }) :
    ∀ (ys : List Value) (ps : List (Str × Str)) (news : List (Addr × Obj)), (∀ p ∈ base, p ∈ news) → TupL ys ps news → full = ps ++ kvs.map φ →
      KcpRest PG w A h₀ L m env elt a b scope cl s (KcpAt ig od) (FinE h₀ L m s Q) (kvs.map fun p => (kyVal (.str p.1), p.2)) ys news := by
  induction kvs with
  | nil =>
    intro ys ps news hb ht hf
    refine KcpRest.nil ?_
    intro D h tk F N _
    exact hQ ys news D h tk hb F N ps ht (by simpa using hf.symm)
  | cons p r ih =>
    intro ys ps news hb ht hf
    refine KcpRest.cons ?_
    intro t I oI C oC D m₂ h tk E' hC ha hbv F N off ne
    have zI := (N (I, oI) List.mem_cons_self).1
    have zC := (N (C, oC) (List.mem_cons_of_mem _ List.mem_cons_self)).1
    have zD := (N (D, lst ys) (List.mem_cons_of_mem _ (List.mem_cons_of_mem _ List.mem_cons_self))).1
    refine wpAny_mono (helt p List.mem_cons_self h tk C m₂ t E' (hC.ns zC) ha hbv F) (fun y s₄ h₄ => ?_) fun _ _ e => e
    obtain ⟨T, t1, t2, h', tk', rfl, rfl, kp, fr, hT⟩ := h₄
    have neT : ∀ c o, h.get? c = some o → T ≠ c := fun c o e q => by rw [← q, fr] at e; cases e
    have TL : T ≠ L := fun q => by
      obtain ⟨oL, _, _, e, _⟩ := F.ns
      exact neT L oL e q
    refine ⟨h', tk', (T, tupO [.str (φ p).1 t1, .str (φ p).2 t2]) :: news, rfl, F.keeps kp, fun q hq => ?_, ?_, .inr ⟨od, List.mem_cons_of_mem _ (hb _ hmem), rfl, 0, rfl⟩, ?_⟩
    · have old : ∀ q ∈ (I, oI) :: (C, oC) :: (D, lst ys) :: news, h'.get? q.1 = some q.2 ∧ q.1 ≠ L ∧ h₀.get? q.1 = none := fun q hq => ⟨kp _ _ (N q hq).1, (N q hq).2⟩
      simp only [List.mem_cons] at hq
      rcases hq with rfl | rfl | rfl | rfl | hq
      · exact old _ (by simp)
      · exact old _ (by simp)
      · exact old _ (by simp)
      · exact ⟨hT, TL, none_back F.keep fr⟩
      · exact old _ (by simp [hq])
    · exact ⟨⟨neT I oI zI, neT C oC zC, neT D _ zD⟩, off⟩
    · refine ih (fun q hq => helt q (List.mem_cons_of_mem _ hq)) (ys ++ [.ref T]) (ps ++ [φ p]) _ (fun q hq => List.mem_cons_of_mem _ (hb q hq)) ?_ (by rw [hf]; simp)
      exact (ht.mono fun q hq => List.mem_cons_of_mem _ hq).snoc List.mem_cons_self
/-- a block over a dict's pairs that makes pairs of strs -/
theorem comp_pairs {elt iter : Expr} {a b : Str} {pa pb tp : Pos} {kk : Nat} {scope : Scope} {cl : List (Str × Addr)} {pos : Pos} {Q : Value → Shared → Prop} {env : Env} {ig : Addr} {od : Obj} {kvs : List (Str × Value)} (φ : Str × Value → Str × Str)
    (F : Fr h₀ L s.heap m) (hh : A.handled = none) (hig : s.heap.get? ig = some od) (hd : od.IsDictOf (PySem.strKind PG w) kvs) (h0 : h₀.get? ig = none) (hL : ig ≠ L) (lo : (ig == sysModules) = false) (hsz : kvs.length ≤ sizeLine)
    (hclos : closureFor scope env = pure cl) (hcell : ∀ y ∈ scope.names, y.2 ≠ .cell) (hkind : scope.kind = .function)
    (hnames : ∀ y ∈ scope.names, y.2 = .local → scope.names.lookup y.1 = some .local) (hxa : scope.names.lookup a = some .local) (hxb : scope.names.lookup b = some .local) (hab : ¬ a = b)
    (hiter : ∀ R : Value → Shared → Prop, (∀ tk, wpAny (model PG w) A (call (.builtin "dict.items") [.ref ig]) R E { s with toks := tk }) → wpAny (model PG w) A (eval iter env) R E s)
    (helt : ∀ p ∈ kvs, ∀ h tk C m₂ t E', h.Ns C m₂ → m₂ a = some (.str p.1 t) → m₂ b = some p.2 → Fr h₀ L h m →
      wpAny (model PG w) A (eval elt (compEnvC scope cl C env)) (PairP s h (φ p)) E' { s with heap := h, toks := tk })
    (hQ : ∀ D h' tk, Fr h₀ L h' m → KB [L] s.heap h' → PairsAt h' D (kvs.map φ) → Q (.ref D) { s with heap := h', toks := tk })
    (hs : ∀ x, foldedSetIterable iter env x = pure x := by intro _; rfl) :
    wpAny (model PG w) A (eval (.ListComp elt [⟨.Tuple [.Name a pa, .Name b pb] kk tp, iter, [], 0⟩] scope pos) env) Q E s := by
  have hm : (ig, od) ∈ snapL h₀ s.heap L [] := snap_mem.mpr ⟨hL, by simp, h0, hig⟩
  refine kcp_ListComp (PySem.strKind PG w) F hclos hcell hkind hnames hxa hxb hab (hiter _ fun tk => kta_callItems (s := { s with toks := tk }) F snap_news hm hd lo fun h' hv F' N' => ?_) hs
  refine KcpSrc.intro (enc := PyData.str) hh F' N' hv hm hd hsz (fun _ _ h => Value.isStrOf_shape h) rfl fun g => ?_
  refine pairs_rest (s := { s with heap := g, toks := tk }) (base := snapL h₀ s.heap L []) (full := kvs.map φ) hm ?_ kvs helt [] [] _ (fun _ h => h) ⟨rfl, fun i k v hi => by simp at hi⟩ (by simp)
  rintro ys news D h tk' hb F₅ N₅ ps ht rfl
  have kp : KB [L] s.heap h := fun c o hc e => snap_keep F F₅ (fun p hp => (N₅ p (List.mem_cons_of_mem _ (hb p hp))).1) c o (fun q => hc (by simp [q])) (by simp) e
  refine hQ D h tk' F₅ kp ⟨ys, ⟨_, (N₅ _ List.mem_cons_self).1⟩, ht.1, fun i k v hi => ?_⟩
  obtain ⟨T, t, t', h1, h2⟩ := ht.2 i k v hi
  exact ⟨T, t, t', h1, (N₅ _ (List.mem_cons_of_mem _ h2)).1⟩
end
theorem nm_ns {w : World} {A : Around} {E Q : Value → Shared → Prop} {s : Shared} {env : Env} {x : Str} {pos : Pos} {v : Value} {m : Str → Option Value} (hn : s.heap.Ns env.locals m) (hv : m x = some v) (h : Q v s)
    (hk : env.scope.kind = .function) (hl : env.kindOf x = some .local) (hd : (x == ("__debug__" : Str)) = false) : wpAny (model PG w) A (eval (.Name x pos) env) Q E s := wpAny_Name (wpAny_loadName_local hk hl hn hv h) hd
theorem PairsAt.keeps {h h' : Heap} {D : Addr} {ps : List (Str × Str)} (x : PairsAt h D ps) (k : Kp h h') : PairsAt h' D ps := by
  obtain ⟨vs, ⟨n, e⟩, hl, hh⟩ := x
  exact ⟨vs, ⟨n, k _ _ e⟩, hl, fun i a b hi => let ⟨T, t, t', e1, e2⟩ := hh i a b hi; ⟨T, t, t', e1, k _ _ e2⟩⟩
/-- a pair of a memory, as strs -/
noncomputable def mtx (p : Str × Value) : Str × Str := (p.1, match p.2 with | .int z _ => Str.ofString (toString z) | _ => Str.empty)
theorem mem_txt {kvs : List (Str × Value)} {mem : List (Str × Nat)} (h : MemL kvs mem) : kvs.map mtx = mem.map fun p => (p.1, itx p.2) := by
  refine List.ext_getElem? fun i => ?_
  rw [List.getElem?_map, List.getElem?_map]
  cases e : mem[i]? with
  | none =>
    have : kvs[i]? = none := by rw [List.getElem?_eq_none_iff] at e ⊢; rw [h.1]; exact e
    rw [this]; rfl
  | some p =>
    obtain ⟨k, r⟩ := p
    obtain ⟨t, et⟩ := h.2 i k r e
    rw [et]; rfl
theorem mem_val {kvs : List (Str × Value)} {mem : List (Str × Nat)} (h : MemL kvs mem) {p : Str × Value} (hp : p ∈ kvs) : ∃ k r t, p = (k, .int ((r : Nat) : Int) t) ∧ (k, r) ∈ mem := by
  obtain ⟨i, hi⟩ := List.mem_iff_getElem?.mp hp
  have hl : i < mem.length := by
    have := (List.getElem?_eq_some_iff.mp hi).1
    rw [← h.1]; exact this
  obtain ⟨t, et⟩ := h.2 i mem[i].1 mem[i].2 (by rw [List.getElem?_eq_getElem hl])
  rw [hi] at et
  exact ⟨_, _, t, Option.some.inj et, List.getElem_mem hl⟩
theorem LS.frame {h₀ h h' : Heap} {L : Addr} {m : Str → Option Value} {c1 c2 c3 c4 c5 : Option Value} (S : LS h₀ L h m c1 c2 c3 c4 c5) (F : Fr h₀ L h' m) (k : KB [L] h h') : LS h₀ L h' m c1 c2 c3 c4 c5 := by
  have key : ∀ i : Nat, 0 < i → ∀ ov, h.IsCell (L + i) ov → h'.IsCell (L + i) ov := fun i hi ov ⟨o, e, hd⟩ => ⟨o, k _ _ (fun hm => lp_ne hi (List.mem_singleton.mp hm)) e, hd⟩
  exact ⟨F, key 1 (by decide) _ S.e1, key 2 (by decide) _ S.e2, key 3 (by decide) _ S.e3, key 4 (by decide) _ S.e4, key 5 (by decide) _ S.e5, S.n⟩
end
/- F8 -/
section
variable {w : World} {dp un : Nat} {fr : Option (List Env)} {gd : Option (List Code)} {s : Shared} {Q E : Value → Shared → Prop}
theorem anewF8 : True := by
  w_top off
  trivial
local macro_rules | `(tactic| walk_at "s7") => `(tactic| ((fail_if_success (with_reducible refine gd24 ?_)); (fail_if_success (with_reducible refine gd25 ?_)); (fail_if_success (with_reducible refine gd26 ?_)); (fail_if_success (with_reducible refine gd27 ?_)); (fail_if_success (with_reducible refine gd28 ?_)); (fail_if_success (with_reducible refine gd15 ?_)); (fail_if_success (with_reducible refine gd29 ?_)); (fail_if_success (with_reducible refine gd30 ?_)); walk_at "s3"))
local macro_rules | `(tactic| walk_at "steps7") => `(tactic| repeat' (walk_at "s7"))
theorem get_ign {A : Around} {a : RdA} {told : Str} {dirs : List Str} {mem : List (Str × Nat)} {expr : Bool} {Q : Value → Shared → Prop} (g : G w s.heap) (R : Rd w s.heap a told dirs mem) (h : ∀ tk, Q (.ref a.ig) { s with toks := tk }) :
    wpAny (model PG w) A (getAttr (.ref a.x) (Str.ofString "_ignore") expr) Q E s := by
  obtain ⟨t1, t2, t3, hdx⟩ := R.dict
  have I : InstAt s.heap a.x (instObj 212 a.dx) 212 (some (dictOf (rdEs w a.ms a.ds a.ig t1 t2 t3) 3)) := ⟨R.inst, rfl, rfl, hdx⟩
  have hg : plainGet (hd.heap_39 w.params) 212 (Str.ofString "_ignore") = true := by k_is
  have hh : hasDictIn (hd.heap_39 w.params) 212 = true := by k_is
  have ha : findIn (hd.heap_39 w.params) (.ref 212) (Str.ofString "_ignore") = some none := by k_is
  have hn : noGet (hd.heap_39 w.params) none = true := rfl
  have hl : getL (Str.ofString "_ignore") (rdEs w a.ms a.ds a.ig t1 t2 t3) = some (some (.ref a.ig)) := by unfold rdEs; k_get
  exact get_value g.k I (plainGet_of hg).1 (findObj_own hh ha hn hl) (by k_handed) (h _)
local macro_rules | `(tactic| walk_at "s8") => `(tactic| ((fail_if_success (with_reducible refine gd31 ?_)); (fail_if_success (with_reducible refine gd9 ?_)); walk_at "s7"))
local macro_rules | `(tactic| walk_at "steps8") => `(tactic| repeat' (walk_at "s8"))
theorem st11 (f : Addr) (cdv : Value) (L : Addr) (ns : List Int) (h₀ : Heap) (hdp : dp + 4 < recursionLimit) {m : Str → Option Value} {c1 c3 c5 : Option Value} {rD nD : Addr}
    (S : LS h₀ L s.heap m c1 (some (.ref nD)) c3 (some (.ref rD)) c5) (g : G w h₀) (dD : Addr) (r : Nat → RdA) (h₁ : Heap) (mem : Nat → List (Str × Nat)) (du : List (List Str)) (hm1 : m (Str.ofString "due") = some (.ref dD))
    (hdu : Off (badL L) (fun h => LL h dD du) s.heap) (hnm : Off (badL L) (fun h => LL h nD (nmS ns)) s.heap) (R : Rds w s.heap r (tS ns) (dirS ns) mem) (A : Apart h₁ r rD) (hlv : ∀ b ∈ badL L, ∃ o, h₁.get? b = some o) (hk0 : Kp h₀ h₁)
    (pr : s.heap.PlainList rD [Value.ref (r 0).x, Value.ref (r 1).x, Value.ref (r 2).x].toArray) (hd7 : du.length = 7) (hd8 : ∀ xs ∈ du, xs.length = 8) (hd3 : ∀ i k, i < 7 → k < 8 → (nmAt du i k).cps.size = 3)
    (hpl : ∀ b, b < 3 → (mem b).map (fun p => (p.1, itx p.2)) = (mall (nmS ns) du b 7).1) (hle : ∀ b, b < 3 → ∀ p ∈ mem b, p.2 ≤ 1) (hln : ∀ b, b < 3 → (mem b).length ≤ 1000) (hsh : ∀ b, b < 3 → SeqAt.shaped (dPs (mall (nmS ns) du b 7).1) = true) (hun : un + 64 < cLine)
    {oc : Value} {od : Option Addr} {params : Arguments} {dV kV doc pm cdv0 ct : Value} {an : Option Addr} {osl : Array (Option Value)} {body : List Stmt} {scope : Scope}
    (ho : (hd.heap_39 w.params).lookup 279 = some ⟨oc, od, .func (fnOf (Str.ofString "law") (Str.ofString "law") params body scope dV kV doc pm an cdv0 ct), osl⟩)
    {Q : Flow → Shared → Prop} (h : ∀ h' tk m', LS h₀ L h' m' c1 (some (.ref nD)) c3 (some (.ref rD)) c5 → Q .next { s with heap := h', toks := tk }) :
    wpAny (model PG w) (AA dp un fr gd) (exec (nthS body 11) (envOfC (Str.ofString "law") scope L f cdv)) Q noE s := by
  refine lit_of (f := 279) (fun body scope => wpAny (model PG w) (AA dp un fr gd) (exec (nthS body 11) (envOfC (Str.ofString "law") scope L f cdv)) Q noE s) ho (by k_is) ?_
  conv in (nthS _ _) => whnf
  (try k_fold)
  obtain ⟨X, mean, mg, mb, T⟩ := g
  obtain ⟨o1, o2, o3, o4, o5, N, d1, d2, d3, d4, d5⟩ := S.open
  have F := S.F
  have g₀ : G w h₀ := ⟨X, mean, mg, mb, T⟩
  refine wpAny_For ?_
  walk_at "steps7"
  rename IsRange _ _ _ _ _ _ _ _ => a4
  rename Kp _ _ => a1
  (try clear F N); clear X T
  have offw : ∀ wr : List Addr, (∀ b ∈ wr, s.heap.get? b = none) → ∀ b ∈ badL L, b ∉ wr := fun wr hw b hb hm => by
    obtain ⟨o, e⟩ := S.live b hb; rw [hw b hm] at e; cases e
  have allL : ∀ j, j < 3 → ∀ b ∈ (r j).all, b ∉ badL L := fun j hj b hb hm => by obtain ⟨o, e⟩ := hlv _ hm; rw [A.new j hj b hb] at e; cases e
  refine for_heap (fun wr i h => (∃ m', LS h₀ L h m' c1 (some (.ref nD)) c3 (some (.ref rD)) c5 ∧ ∀ x, x ≠ Str.ofString "b" → m' x = m x) ∧ KB (badL L) s.heap h) (iters_range (n := 3) rfl a4 (by decide)) ?_ ?_ ?_ ?_
  · intro wr h' hw k
    have kk : Kp s.heap h' := Kp.tr a1 k
    exact ⟨⟨m, S.kp kk, fun _ _ => rfl⟩, KB.of kk⟩
  · rintro wr i h' h'' hw ⟨⟨m', S', hm'⟩, t1⟩ k
    have hw' : ∀ b ∈ wr, s.heap.get? b = none := fun b hb => none_back a1 (hw b hb)
    have ow0 : ∀ b ∈ wr, h₀.get? b = none := fun b hb => none_back S.F.keep (hw' b hb)
    exact ⟨⟨m', S'.kb k (offw wr hw') ow0, hm'⟩, fun b o hb e => k b o (fun hm => by rw [hw' b hm] at e; cases e) (t1 b o hb e)⟩
  · rintro b v wr h' tk E₂ hb ⟨tb, rfl⟩ ⟨⟨m', S', hm'⟩, t1⟩ hw hal
    have hw' : ∀ b ∈ wr, s.heap.get? b = none := fun b hb => none_back a1 (hw b hb)
    (try k_fold)
    walk_at "steps7"
    refine LS.st S' ?_ rfl rfl
    intro h₂ tk₂ S₂ k₂
    change LS h₀ L h₂ _ _ _ _ _ _ at S₂
    change KB (badL L) _ _ at k₂
    have e1 : (fun x => if x = Str.ofString "b" then some (Value.int (b : Int) tb) else m' x) (Str.ofString "due") = some (.ref dD) := by
      rw [← hm1, ← hm' _ (by decide)]; exact if_neg (by decide)
    have e4 : (fun x => if x = Str.ofString "b" then some (Value.int (b : Int) tb) else m' x) (Str.ofString "b") = some (.int (b : Int) tb) := if_pos rfl
    have e5 : ∀ x, x ≠ Str.ofString "b" → (fun x => if x = Str.ofString "b" then some (Value.int (b : Int) tb) else m' x) x = m x := fun x hx => by rw [← hm' x hx]; exact if_neg hx
    generalize (fun x => if x = Str.ofString "b" then some (Value.int (b : Int) tb) else m' x) = m₂ at *
    clear hm' S'
    have kb₂ : KB (badL L) s.heap h₂ := KB.tr t1 k₂
    have R₂ : Rd w h₂ (r b) (tS ns) (dirS ns b) (mem b) := (R.rd b hb).at fun a ha o e => kb₂ a o (allL b hb a ha) e
    obtain ⟨od, kvs, hig, hdict, hmem⟩ := R₂.ign
    have rdL : rD ∉ badL L := fun hm => by obtain ⟨o, e⟩ := hlv _ hm; rw [A.newD] at e; cases e
    have pr₂ : h₂.PlainList rD [Value.ref (r 0).x, Value.ref (r 1).x, Value.ref (r 2).x].toArray := by obtain ⟨n, e⟩ := pr; exact ⟨n, kb₂ _ _ rdL e⟩
    have prb : ([Value.ref (r 0).x, Value.ref (r 1).x, Value.ref (r 2).x] : List Value)[b]? = some (.ref (r b).x) := by
      obtain rfl | rfl | rfl : b = 0 ∨ b = 1 ∨ b = 2 := by omega
      all_goals rfl
    have igL : (r b).ig ∉ badL L := allL b hb _ (ig_all _)
    have kvl : kvs.length ≤ 1000 := by rw [hmem.1]; exact hln b hb
    obtain ⟨p1, p2, p3, p4, p5, N₂, d1, d2, d3, d4, d5⟩ := S₂.open
    have F₂ := S₂.F
    obtain ⟨X, _, _, _, T⟩ := g₀
    refine wpAny_execs_cons ?_
    refine wpAny_If ?_
    walk_at "steps7"
    have g₂ : G w h₂ := G.of F₂ X T
    have igne : (r b).ig ≠ L := fun e => igL (by rw [e]; simp [badL])
    refine comp_pairs (cl := []) (ig := (r b).ig) (kvs := kvs) mtx F₂ rfl hig hdict (none_back hk0 (A.new b hb _ (ig_all _))) igne R₂.nomod (Nat.le_trans kvl (by decide)) rfl (by decide) rfl (by decide) rfl rfl (by decide) ?_ ?_ ?_
    · intro Rr hR
      walk_at "steps7"
      refine itmH pr₂.isList prb (by omega) ?_ (by with_unfolding_all rfl)
      (try dsimp only)
      walk_at "steps7"
      refine get_ign g₂ R₂ ?_
      intro tk₃
      (try dsimp only)
      walk_at "steps7"
      with_reducible refine kdl_method (knd := PySem.strKind PG w) PySem.F.slot_dict_items PySem.F.type_dict_items (snap_news (h₀ := h₀) (L := L) (ex := [])) (snap_mem.mpr ⟨igne, by simp, none_back hk0 (A.new b hb _ (ig_all _)), hig⟩) hdict ?_
      (try dsimp only)
      refine callWith_method0 ?_
      exact hR _
    · intro p hp h₃ tk₃ C m₃ t E' hn ha hv F₃
      obtain ⟨kn, kr, kt, rfl, hin⟩ := mem_val hmem hp
      have hr := hle b hb _ hin
      walk_at "steps8"
      refine nm_ns hn ha ?_ rfl rfl (by decide)
      walk_at "steps8"
      refine' nm_built ?F ?X ?T ?e ?v ?n ?_ ?g ?bi ?a ?b ?d
      case F => exact F₃
      case X => exact X
      case T => k_asm
      case e => k_is
      case v => boot_fast
      case n => decide
      case g => rfl
      case bi => rfl
      case a => rfl
      case b => rfl
      case d => decide
      walk_at "steps8"
      refine nm_ns hn hv ?_ rfl rfl (by decide)
      walk_at "steps8"
      refine wpAny_newObj_type ?_ (by show (2 : Nat) ≤ sizeLine; rw [sizeLine_eq]; decide)
      exact ⟨h₃.objs.size, t, tk₃, _, _, rfl, rfl, (fun _ _ e => Heap.get?_push_of_some _ e), none_of_size (Nat.le_refl _), Heap.get?_push_size _ rfl⟩
    · intro D h₃ tk₃ F₃ k₃ P₃
      have S₃ := S₂.frame F₃ k₃
      have kb₃ : KB (badL L) s.heap h₃ := KB.tr kb₂ (k₃.mono fun c hc => by rw [List.mem_singleton] at hc; subst hc; simp [badL])
      clear F₂ N₂
      obtain ⟨q1, q2, q3, q4, q5, N₃, d1, d2, d3, d4, d5⟩ := S₃.open
      (try dsimp only)
      walk_at "steps7"
      refine c_memory nD dD (nmS ns) du b tb (G.of F₃ X T) (by omega) (hnm h₃ kb₃) (hdu h₃ kb₃) (nm_len7 ns) (nm_len8 ns) hd7 hd8 hd3 hb ?_
      intro D₂ h₄ tk₄ k₄ P₄
      (try dsimp only)
      have eq : kvs.map mtx = (mall (nmS ns) du b 7).1 := (mem_txt hmem).trans (hpl b hb)
      have P₃' := P₃.keeps k₄
      rw [eq] at P₃'
      refine ne_false P₃'.reads P₄.reads (hsh b hb) (by show PyData.eqv (.list _) (.list _) = true; rw [PyData.eqv]; exact eqv_Ps _) hun ?_
      (try dsimp only)
      walk_at "s3"
      (try dsimp only)
      simp only [Bool.false_eq_true, if_false]
      refine wpAny_execs_nil ?_
      refine wpAny_execs_nil ?_
      have S₄ := S₃.kp k₄
      have kb₄ : KB (badL L) s.heap h₄ := KB.tr kb₃ (KB.of k₄)
      refine ⟨h₄, _, rfl, ⟨⟨m₂, S₄, e5⟩, kb₄⟩, fun c hc o e => ?_⟩
      rw [List.append_nil] at hc
      refine k₄ c o ?_
      have cL : c ∉ badL L := fun hm => offw wr hw' c hm hc
      exact k₃ c o (fun hm => cL (by rw [List.mem_singleton] at hm; subst hm; simp [badL])) (k₂ c o cL e)
  · rintro wr h' tk E₂ hw ⟨⟨m', S', _⟩, _⟩
    refine wpAny_execs_nil ?_
    exact h _ _ _ S'
end
/- F9 -/
section
variable {w : World} {dp un : Nat} {fr : Option (List Env)} {gd : Option (List Code)} {s : Shared} {Q E : Value → Shared → Prop}
theorem anewF9 : True := by
  w_top off
  trivial
theorem execs_app (env : Env) (ys : List Stmt) : ∀ xs : List Stmt, execs (xs ++ ys) env = execs xs env >>= fun f => match f with | .next => execs ys env | f => pure f
  | [] => by
    show execs ys env = execs [] env >>= _
    rw [execs_nil, pure_bind]
  | x :: r => by
    rw [List.cons_append, execs_cons, execs_cons, bind_assoc]
    congr 1
    funext f
    cases f <;> first | exact execs_app env ys r | simp
theorem execs_two {M : Model} {A : Around} {E : Value → Shared → Prop} {s : Shared} {env : Env} {xs ys : List Stmt} {Q : Flow → Shared → Prop} (h : wpAny M A (execs xs env) (fun f s' => f = .next ∧ wpAny M A (execs ys env) Q E s') E s) : wpAny M A (execs (xs ++ ys) env) Q E s := by
  rw [execs_app]
  refine wpAny_bind (wpAny_mono h (fun f s' h' => ?_) fun _ _ e => e)
  obtain ⟨rfl, h'⟩ := h'
  exact h'
theorem execs_nx {M : Model} {A : Around} {E : Value → Shared → Prop} {s : Shared} {env : Env} {x : Stmt} {ys : List Stmt} {Q : Flow → Shared → Prop} (h : wpAny M A (exec x env) (fun f s' => f = .next ∧ wpAny M A (execs ys env) Q E s') E s) : wpAny M A (execs (x :: ys) env) Q E s := by
  refine wpAny_execs_cons (wpAny_mono h (fun f s' h' => ?_) fun _ _ e => e)
  obtain ⟨rfl, h'⟩ := h'
  exact h'
theorem execs_end {M : Model} {A : Around} {E : Value → Shared → Prop} {s : Shared} {env : Env} {x : Stmt} {v : Value} {Q : Flow → Shared → Prop} (h : wpAny M A (exec x env) (fun f s' => f = .ret v ∧ Q (.ret v) s') E s) : wpAny M A (execs [x] env) Q E s := by
  refine wpAny_execs_cons (wpAny_mono h (fun f s' h' => ?_) fun _ _ e => e)
  obtain ⟨rfl, h'⟩ := h'
  exact h'
theorem nthS_get : ∀ (l : List Stmt) (n : Nat) (h : n < l.length), nthS l n = l[n]
  | [], n, h => absurd h (Nat.not_lt_zero _)
  | x :: r, 0, h => rfl
  | x :: r, n + 1, h => nthS_get r n (Nat.lt_of_succ_lt_succ h)
theorem body13 {body : List Stmt} (hb : body.length = 13) : body = body.take 3 ++ [nthS body 3, nthS body 4, nthS body 5, nthS body 6, nthS body 7, nthS body 8, nthS body 9, nthS body 10, nthS body 11, nthS body 12] := by
  have d : ∀ n, n < body.length → body.drop n = nthS body n :: body.drop (n + 1) := fun n hn => by
    rw [nthS_get body n hn]; exact List.drop_eq_getElem_cons hn
  have e : body.drop 13 = [] := List.drop_eq_nil_of_le (by omega)
  conv => lhs; rw [← List.take_append_drop 3 body, d 3 (by omega), d 4 (by omega), d 5 (by omega), d 6 (by omega), d 7 (by omega), d 8 (by omega), d 9 (by omega), d 10 (by omega), d 11 (by omega), d 12 (by omega), e]
theorem Off.less {bad bad' : List Addr} {P : Heap → Prop} {h : Heap} (x : Off bad P h) (hs : ∀ b ∈ bad', b ∈ bad) : Off bad' P h := fun h' k => x h' (k.mono hs)
theorem st12 (f : Addr) (cdv : Value) (L : Addr) (ns : List Int) (h₀ : Heap) (hdp : dp + 4 < recursionLimit) {m : Str → Option Value} {c1 c2 c3 c4 c5 : Option Value}
    (S : LS h₀ L s.heap m c1 c2 c3 c4 c5) (g : G w h₀) 
    {oc : Value} {od : Option Addr} {params : Arguments} {dV kV doc pm cdv0 ct : Value} {an : Option Addr} {osl : Array (Option Value)} {body : List Stmt} {scope : Scope}
    (ho : (hd.heap_39 w.params).lookup 279 = some ⟨oc, od, .func (fnOf (Str.ofString "law") (Str.ofString "law") params body scope dV kV doc pm an cdv0 ct), osl⟩)
    {Q : Flow → Shared → Prop} (h : ∀ tk, Q (.ret (.bool true)) { s with toks := tk }) :
    wpAny (model PG w) (AA dp un fr gd) (exec (nthS body 12) (envOfC (Str.ofString "law") scope L f cdv)) Q noE s := by
  refine lit_of (f := 279) (fun body scope => wpAny (model PG w) (AA dp un fr gd) (exec (nthS body 12) (envOfC (Str.ofString "law") scope L f cdv)) Q noE s) ho (by k_is) ?_
  conv in (nthS _ _) => whnf
  (try k_fold)
  obtain ⟨X, mean, mg, mb, T⟩ := g
  obtain ⟨o1, o2, o3, o4, o5, N, d1, d2, d3, d4, d5⟩ := S.open
  have F := S.F
  walk_at "steps3"
  exact h _
theorem law_all (f : Addr) (cdv : Value) (L a : Addr) (vs : List Value) (ns : List Int) (h₀ : Heap) (hdp : dp + 4 < recursionLimit) (hun : un + 64 < cLine) (hl : h₀.IsList a vs.toArray) (hns : IntsAre vs ns) (hlen : ns.length ≤ 63) (g : G w h₀)
    (S : LS h₀ L s.heap (fun y => if y = Str.ofString "script" then some (.ref a) else none) none none none none none)
    {oc : Value} {od : Option Addr} {params : Arguments} {dV kV doc pm cdv0 ct : Value} {an : Option Addr} {osl : Array (Option Value)} {body : List Stmt} {scope : Scope}
    (ho : (hd.heap_39 w.params).lookup 279 = some ⟨oc, od, .func (fnOf (Str.ofString "law") (Str.ofString "law") params body scope dV kV doc pm an cdv0 ct), osl⟩)
    {Q : Flow → Shared → Prop} (h : ∀ h' tk m' c1 c2 c3 c4 c5, LS h₀ L h' m' c1 c2 c3 c4 c5 → Q (.ret (.bool true)) { s with heap := h', toks := tk }) :
    wpAny (model PG w) (AA dp un fr gd) (execs body (envOfC (Str.ofString "law") scope L f cdv)) Q noE s := by
  have h13 : body.length = 13 := lit_of (f := 279) (fun body _ => body.length = 13) ho (by k_is) rfl
  rw [body13 h13]
  have g' := g
  obtain ⟨X, mean, mg, mb, T⟩ := g'
  refine execs_two (st012 f cdv L a vs ns h₀ hl hns hlen S X T ho ?_)
  intro h₁ tk₁ m₁ t1 t2 t3 S₁ hs1 hf1 hsl1
  refine ⟨rfl, execs_nx (st3 f cdv L ns h₀ hdp S₁ g a vs hl hns hlen hs1 ho ?_)⟩
  intro rwD h₂ tk₂ S₂ k₂ row₂
  have m2f : (fun x => if x = Str.ofString "row" then some (Value.ref rwD) else m₁ x) (Str.ofString "first") = some (.int (fstN ns) t2) := (if_neg (by decide)).trans hf1
  have m2s : (fun x => if x = Str.ofString "row" then some (Value.ref rwD) else m₁ x) (Str.ofString "slash") = some (.int ((slS ns : Nat) : Int) t3) := (if_neg (by decide)).trans hsl1
  have m2r : (fun x => if x = Str.ofString "row" then some (Value.ref rwD) else m₁ x) (Str.ofString "row") = some (.ref rwD) := if_pos rfl
  generalize (fun x => if x = Str.ofString "row" then some (Value.ref rwD) else m₁ x) = m₂ at *
  refine ⟨rfl, execs_nx (st4 f cdv L ns h₀ hdp S₂ g rwD m2r row₂.now ho ?_)⟩
  intro nD h₃ tk₃ S₃ k₃ nm₃
  refine ⟨rfl, execs_nx (st5 f cdv L ns h₀ hdp S₃ g t2 m2f nm₃.now ho ?_)⟩
  intro h₄ tk₄ tt S₄ k₄
  have nm₄ := nm₃.kb k₄
  have row₄ := (row₂.kb k₃).kb k₄
  refine ⟨rfl, execs_nx (st6 f cdv L ns h₀ hdp S₄ g nm₄.now ho ?_)⟩
  intro pD h₅ tk₅ S₅ k₅ pl₅
  have m5s : (fun x => if x = Str.ofString "places" then some (Value.ref pD) else m₂ x) (Str.ofString "slash") = some (.int ((slS ns : Nat) : Int) t3) := (if_neg (by decide)).trans m2s
  have m5r : (fun x => if x = Str.ofString "places" then some (Value.ref pD) else m₂ x) (Str.ofString "row") = some (.ref rwD) := (if_neg (by decide)).trans m2r
  have m5p : (fun x => if x = Str.ofString "places" then some (Value.ref pD) else m₂ x) (Str.ofString "places") = some (.ref pD) := if_pos rfl
  generalize (fun x => if x = Str.ofString "places" then some (Value.ref pD) else m₂ x) = m₅ at *
  refine ⟨rfl, execs_nx (st7 f cdv L ns h₀ hdp S₅ g pD m5p pl₅.now ho ?_)⟩
  intro dD h₆ tk₆ S₆ k₆ du₆
  have m6s : (fun x => if x = Str.ofString "due" then some (Value.ref dD) else m₅ x) (Str.ofString "slash") = some (.int ((slS ns : Nat) : Int) t3) := (if_neg (by decide)).trans m5s
  have m6r : (fun x => if x = Str.ofString "due" then some (Value.ref dD) else m₅ x) (Str.ofString "row") = some (.ref rwD) := (if_neg (by decide)).trans m5r
  have m6d : (fun x => if x = Str.ofString "due" then some (Value.ref dD) else m₅ x) (Str.ofString "due") = some (.ref dD) := if_pos rfl
  generalize (fun x => if x = Str.ofString "due" then some (Value.ref dD) else m₅ x) = m₆ at *
  have nm₆ := (nm₄.kb k₅).kb k₆
  have row₆ := (row₄.kb k₅).kb k₆
  refine ⟨rfl, execs_nx (st8 f cdv L ns h₀ hdp S₆ g ho ?_)⟩
  intro rD fD r h₇ tk₇ S₇ k₇ R₇ A₇ fF rf rF pr₇ pf₇
  have m7s : (fun x => if x = Str.ofString "found" then some (Value.ref fD) else m₆ x) (Str.ofString "slash") = some (.int ((slS ns : Nat) : Int) t3) := (if_neg (by decide)).trans m6s
  have m7r : (fun x => if x = Str.ofString "found" then some (Value.ref fD) else m₆ x) (Str.ofString "row") = some (.ref rwD) := (if_neg (by decide)).trans m6r
  have m7d : (fun x => if x = Str.ofString "found" then some (Value.ref fD) else m₆ x) (Str.ofString "due") = some (.ref dD) := (if_neg (by decide)).trans m6d
  have m7f : (fun x => if x = Str.ofString "found" then some (Value.ref fD) else m₆ x) (Str.ofString "found") = some (.ref fD) := if_pos rfl
  generalize (fun x => if x = Str.ofString "found" then some (Value.ref fD) else m₆ x) = m₇ at *
  have new : ∀ b ∈ igs r ++ [fD] ++ [], h₆.get? b = none := by
    intro b hb
    rw [List.append_nil] at hb
    rcases List.mem_append.mp hb with hb | hb
    · obtain ⟨j, hj, rfl⟩ := mem_igs hb
      exact A₇.new j hj _ (ig_all _)
    · rw [List.mem_singleton] at hb; rw [hb]; exact fF
  have ebad : badR L r fD [] = badL L ++ (igs r ++ [fD] ++ []) := by simp [badR]
  have row₇ := row₆.more k₇ new
  have nm₇ := nm₆.more k₇ new
  have du₇ := du₆.more k₇ new
  rw [← ebad] at row₇ nm₇ du₇
  have lv₆ := S₆.live
  refine ⟨rfl, execs_nx (st9 f cdv L ns h₀ hdp S₇ g rwD fD r h₆ m7s m7r m7f row₇ R₇ A₇ lv₆ fF rf rF S₆.F.keep pr₇ pf₇ ho ?_)⟩
  intro h₈ tk₈ m₈ c5 S₈ hm₈ k₈ R₈ fl₈
  have m8d : m₈ (Str.ofString "due") = some (.ref dD) := (hm₈ _ (by decide)).trans m7d
  have m8f : m₈ (Str.ofString "found") = some (.ref fD) := (hm₈ _ (by decide)).trans m7f
  have du₈ := du₇.kb k₈
  have nm₈ := nm₇.kb k₈
  rw [law_found] at fl₈
  refine ⟨rfl, execs_nx (st10 f cdv L ns h₀ hdp S₈ g fD dD (dueS ns) m8f m8d fl₈ du₈.now (law_shape1 ns) hun ho ?_)⟩
  intro tk₉
  have sub : ∀ b ∈ badL L, b ∈ badR L r fD [] := fun b hb => by simp [badR, hb]
  have pr₈ : h₈.PlainList rD [Value.ref (r 0).x, Value.ref (r 1).x, Value.ref (r 2).x].toArray := by
    obtain ⟨n, e⟩ := pr₇
    refine ⟨n, k₈ _ _ (fun hm => ?_) e⟩
    simp only [badR, List.append_nil, List.mem_append, List.mem_singleton] at hm
    rcases hm with hm | hm | hm
    · obtain ⟨o, e⟩ := lv₆ _ hm; rw [A₇.newD] at e; cases e
    · obtain ⟨j, hj, e⟩ := mem_igs hm; exact A₇.off j hj _ (ig_all _) e.symm
    · exact rF hm
  refine ⟨rfl, execs_nx (st11 f cdv L ns h₀ hdp S₈ g dD r h₆ (fun j => memI ns j 7) (dueS ns) m8d (du₈.less sub) (nm₈.less sub) R₈ A₇ lv₆ S₆.F.keep pr₈ (due_len7 ns) (due_len8 ns) (fun i k hi hk => due_size hi hk)
    (fun b hb => law_kept hb) (fun b _ => memI_le ns b 7) (fun b _ => Nat.le_trans (memI_len ns b 7) (by decide)) (fun b hb => law_shape2 hb) hun ho ?_)⟩
  intro h₁₀ tk₁₀ m₁₀ S₁₀
  refine ⟨rfl, execs_end (v := .bool true) (st12 f cdv L ns h₀ hdp S₁₀ g ho ?_)⟩
  intro tk₁₁
  exact ⟨rfl, h _ _ _ _ _ _ _ _ S₁₀⟩
end
/- F10 -/
section
local macro_rules | `(tactic| walk_at "none such") => `(tactic| skip)
variable {w : World} {dp un : Nat} {fr : Option (List Env)} {gd : Option (List Code)} {s : Shared} {Q E : Value → Shared → Prop}
theorem anewF10 : True := by
  w_top off
  trivial
theorem badL_new {h₀ : Heap} {L : Addr} (hL : h₀.objs.size ≤ L) : ∀ b ∈ badL L, h₀.get? b = none := by
  intro b hb
  have : ∃ i : Nat, b = L + i := by
    simp only [badL, List.mem_cons, List.not_mem_nil, or_false] at hb
    rcases hb with rfl | rfl | rfl | rfl | rfl | rfl
    · exact ⟨0, rfl⟩
    · exact ⟨1, rfl⟩
    · exact ⟨2, rfl⟩
    · exact ⟨3, rfl⟩
    · exact ⟨4, rfl⟩
    · exact ⟨5, rfl⟩
  obtain ⟨i, rfl⟩ := this
  exact none_of_size (Nat.le_trans hL (Nat.le_add_right _ _))
theorem top : PySem.Challenge.rw_om0050_01.Holds := by
  w_on
  refine holds_law law_said fun said => ?_
  refine holds_open (q := hd.view_39) (loose := [Str.ofString "_filemode_table", Str.ofString "b2a_base64", Str.ofString "b64encode"])
    (Xt := fun s => xlAt hd.view_39 [(Str.ofString "_filemode_table", WData.tuple [WData.tuple [WData.tuple [WData.int 40960, WData.str { cps := #[108] }], WData.tuple [WData.int 49152, WData.str { cps := #[115] }], WData.tuple [WData.int 32768, WData.str { cps := #[45] }], WData.tuple [WData.int 24576, WData.str { cps := #[98] }], WData.tuple [WData.int 16384, WData.str { cps := #[100] }], WData.tuple [WData.int 8192, WData.str { cps := #[99] }], WData.tuple [WData.int 4096, WData.str { cps := #[112] }]], WData.tuple [WData.tuple [WData.int 256, WData.str { cps := #[114] }]], WData.tuple [WData.tuple [WData.int 128, WData.str { cps := #[119] }]], WData.tuple [WData.tuple [WData.int 2112, WData.str { cps := #[115] }], WData.tuple [WData.int 2048, WData.str { cps := #[83] }], WData.tuple [WData.int 64, WData.str { cps := #[120] }]], WData.tuple [WData.tuple [WData.int 32, WData.str { cps := #[114] }]], WData.tuple [WData.tuple [WData.int 16, WData.str { cps := #[119] }]], WData.tuple [WData.tuple [WData.int 1032, WData.str { cps := #[115] }], WData.tuple [WData.int 1024, WData.str { cps := #[83] }], WData.tuple [WData.int 8, WData.str { cps := #[120] }]], WData.tuple [WData.tuple [WData.int 4, WData.str { cps := #[114] }]], WData.tuple [WData.tuple [WData.int 2, WData.str { cps := #[119] }]], WData.tuple [WData.tuple [WData.int 513, WData.str { cps := #[116] }], WData.tuple [WData.int 512, WData.str { cps := #[84] }], WData.tuple [WData.int 1, WData.str { cps := #[120] }]]])] s && recOk (RowW.records PySem.Challenge.rw_om0050_01.row.toRowW) s)
    (XP := XL hd.view_39 [(Str.ofString "_filemode_table", WData.tuple [WData.tuple [WData.tuple [WData.int 40960, WData.str { cps := #[108] }], WData.tuple [WData.int 49152, WData.str { cps := #[115] }], WData.tuple [WData.int 32768, WData.str { cps := #[45] }], WData.tuple [WData.int 24576, WData.str { cps := #[98] }], WData.tuple [WData.int 16384, WData.str { cps := #[100] }], WData.tuple [WData.int 8192, WData.str { cps := #[99] }], WData.tuple [WData.int 4096, WData.str { cps := #[112] }]], WData.tuple [WData.tuple [WData.int 256, WData.str { cps := #[114] }]], WData.tuple [WData.tuple [WData.int 128, WData.str { cps := #[119] }]], WData.tuple [WData.tuple [WData.int 2112, WData.str { cps := #[115] }], WData.tuple [WData.int 2048, WData.str { cps := #[83] }], WData.tuple [WData.int 64, WData.str { cps := #[120] }]], WData.tuple [WData.tuple [WData.int 32, WData.str { cps := #[114] }]], WData.tuple [WData.tuple [WData.int 16, WData.str { cps := #[119] }]], WData.tuple [WData.tuple [WData.int 1032, WData.str { cps := #[115] }], WData.tuple [WData.int 1024, WData.str { cps := #[83] }], WData.tuple [WData.int 8, WData.str { cps := #[120] }]], WData.tuple [WData.tuple [WData.int 4, WData.str { cps := #[114] }]], WData.tuple [WData.tuple [WData.int 2, WData.str { cps := #[119] }]], WData.tuple [WData.tuple [WData.int 513, WData.str { cps := #[116] }], WData.tuple [WData.int 512, WData.str { cps := #[84] }], WData.tuple [WData.int 1, WData.str { cps := #[120] }]]])])
    (Yf := Hook.obs (kHook hd.heap_39 (2 :: 3 :: 15 :: 17 :: 18 :: 20 :: 21 :: 22 :: 24 :: 25 :: 27 :: 28 :: 29 :: 31 :: 32 :: 34 :: 35 :: 36 :: 38 :: 39 :: 41 :: 42 :: 43 :: 45 :: 46 :: 48 :: 49 :: 50 :: 52 :: 53 :: 55 :: 56 :: 57 :: 59 :: 60 :: 62 :: 63 :: 64 :: 66 :: 67 :: 69 :: 70 :: 71 :: 73 :: 74 :: 76 :: 77 :: 78 :: 80 :: 81 :: 83 :: 84 :: 85 :: 86 :: 87 :: 88 :: 89 :: 90 :: 91 :: 92 :: 93 :: 94 :: 95 :: 96 :: 97 :: 98 :: 99 :: 100 :: 101 :: 102 :: 103 :: 104 :: 105 :: 106 :: 107 :: 108 :: 109 :: 110 :: 111 :: 112 :: 113 :: 114 :: 115 :: 116 :: 117 :: 118 :: 120 :: 121 :: 123 :: 124 :: 125 :: 127 :: 128 :: 130 :: 131 :: 132 :: 134 :: 135 :: 137 :: 138 :: 139 :: 140 :: 142 :: 143 :: 145 :: 146 :: 147 :: 148 :: 150 :: 151 :: 153 :: 154 :: 155 :: 157 :: 158 :: 160 :: 161 :: 162 :: 164 :: 165 :: 167 :: 168 :: 169 :: 171 :: 172 :: 174 :: 175 :: 176 :: 178 :: 179 :: 181 :: 182 :: 183 :: 185 :: 186 :: 188 :: 189 :: 197 :: 198 :: 201 :: 202 :: 203 :: 205 :: 206 :: 208 :: 209 :: 210 :: 211 :: 212 :: 213 :: 214 :: 217 :: 219 :: 220 :: 222 :: 223 :: 224 :: 227 :: 228 :: 229 :: 232 :: 233 :: 234 :: 237 :: 238 :: 239 :: 241 :: 242 :: 244 :: 245 :: 246 :: 248 :: 249 :: 251 :: 252 :: 253 :: 256 :: 257 :: 258 :: 261 :: 262 :: 263 :: 266 :: 267 :: 268 :: 270 :: 271 :: 273 :: 274 :: 275 :: 278 :: 279 :: []) (fun _ => by kernel_rfl)))
    (Ya := Hook.val (kHook hd.heap_39 (2 :: 3 :: 15 :: 17 :: 18 :: 20 :: 21 :: 22 :: 24 :: 25 :: 27 :: 28 :: 29 :: 31 :: 32 :: 34 :: 35 :: 36 :: 38 :: 39 :: 41 :: 42 :: 43 :: 45 :: 46 :: 48 :: 49 :: 50 :: 52 :: 53 :: 55 :: 56 :: 57 :: 59 :: 60 :: 62 :: 63 :: 64 :: 66 :: 67 :: 69 :: 70 :: 71 :: 73 :: 74 :: 76 :: 77 :: 78 :: 80 :: 81 :: 83 :: 84 :: 85 :: 86 :: 87 :: 88 :: 89 :: 90 :: 91 :: 92 :: 93 :: 94 :: 95 :: 96 :: 97 :: 98 :: 99 :: 100 :: 101 :: 102 :: 103 :: 104 :: 105 :: 106 :: 107 :: 108 :: 109 :: 110 :: 111 :: 112 :: 113 :: 114 :: 115 :: 116 :: 117 :: 118 :: 120 :: 121 :: 123 :: 124 :: 125 :: 127 :: 128 :: 130 :: 131 :: 132 :: 134 :: 135 :: 137 :: 138 :: 139 :: 140 :: 142 :: 143 :: 145 :: 146 :: 147 :: 148 :: 150 :: 151 :: 153 :: 154 :: 155 :: 157 :: 158 :: 160 :: 161 :: 162 :: 164 :: 165 :: 167 :: 168 :: 169 :: 171 :: 172 :: 174 :: 175 :: 176 :: 178 :: 179 :: 181 :: 182 :: 183 :: 185 :: 186 :: 188 :: 189 :: 197 :: 198 :: 201 :: 202 :: 203 :: 205 :: 206 :: 208 :: 209 :: 210 :: 211 :: 212 :: 213 :: 214 :: 217 :: 219 :: 220 :: 222 :: 223 :: 224 :: 227 :: 228 :: 229 :: 232 :: 233 :: 234 :: 237 :: 238 :: 239 :: 241 :: 242 :: 244 :: 245 :: 246 :: 248 :: 249 :: 251 :: 252 :: 253 :: 256 :: 257 :: 258 :: 261 :: 262 :: 263 :: 266 :: 267 :: 268 :: 270 :: 271 :: 273 :: 274 :: 275 :: 278 :: 279 :: []) (fun _ => by kernel_rfl)))
    (YP := Hook.says (kHook hd.heap_39 (2 :: 3 :: 15 :: 17 :: 18 :: 20 :: 21 :: 22 :: 24 :: 25 :: 27 :: 28 :: 29 :: 31 :: 32 :: 34 :: 35 :: 36 :: 38 :: 39 :: 41 :: 42 :: 43 :: 45 :: 46 :: 48 :: 49 :: 50 :: 52 :: 53 :: 55 :: 56 :: 57 :: 59 :: 60 :: 62 :: 63 :: 64 :: 66 :: 67 :: 69 :: 70 :: 71 :: 73 :: 74 :: 76 :: 77 :: 78 :: 80 :: 81 :: 83 :: 84 :: 85 :: 86 :: 87 :: 88 :: 89 :: 90 :: 91 :: 92 :: 93 :: 94 :: 95 :: 96 :: 97 :: 98 :: 99 :: 100 :: 101 :: 102 :: 103 :: 104 :: 105 :: 106 :: 107 :: 108 :: 109 :: 110 :: 111 :: 112 :: 113 :: 114 :: 115 :: 116 :: 117 :: 118 :: 120 :: 121 :: 123 :: 124 :: 125 :: 127 :: 128 :: 130 :: 131 :: 132 :: 134 :: 135 :: 137 :: 138 :: 139 :: 140 :: 142 :: 143 :: 145 :: 146 :: 147 :: 148 :: 150 :: 151 :: 153 :: 154 :: 155 :: 157 :: 158 :: 160 :: 161 :: 162 :: 164 :: 165 :: 167 :: 168 :: 169 :: 171 :: 172 :: 174 :: 175 :: 176 :: 178 :: 179 :: 181 :: 182 :: 183 :: 185 :: 186 :: 188 :: 189 :: 197 :: 198 :: 201 :: 202 :: 203 :: 205 :: 206 :: 208 :: 209 :: 210 :: 211 :: 212 :: 213 :: 214 :: 217 :: 219 :: 220 :: 222 :: 223 :: 224 :: 227 :: 228 :: 229 :: 232 :: 233 :: 234 :: 237 :: 238 :: 239 :: 241 :: 242 :: 244 :: 245 :: 246 :: 248 :: 249 :: 251 :: 252 :: 253 :: 256 :: 257 :: 258 :: 261 :: 262 :: 263 :: 266 :: 267 :: 268 :: 270 :: 271 :: 273 :: 274 :: 275 :: 278 :: 279 :: []) (fun _ => by kernel_rfl)))
    (N := 3316) ?hl (Hook.of _) (Hook.keeps _) (fun s e => xl_of s (Bool.and_eq_true_iff.mp e).1) XL.keeps (by rfl) (by rfl) (by rfl) (fun s e => recFacts_of (Bool.and_eq_true_iff.mp e).2) (by rfl) (by first | assumption | decide +kernel) (by decide +kernel) ⟨rfl, rfl, rfl, rfl, rfl, by decide +kernel⟩ ?hw ?hc
  case hl => exact hl_run
  case hw => w_witness2
  case hc =>
    w_strict (
      (k_fill
       intro w s₀ s₁ mg mb G' Y fa o pm cd doc dV kV ho hd hcd hD hmg hg args vals as hpre hlay hrd hwl hlo
       have KX := kIn_of Y
       refine Ground.open G' ?_
       intro T B D TE TW
       (try (refine guard_noD D (by decide +kernel) ?_; clear D))
       obtain ⟨_, _, M⟩ := bmod_of_top T
       have TA := at_of_top T
       (try (obtain ⟨_, _, he, B0⟩ := based_of_top T rfl hmg ho hd; have he' : cd = _ := he; subst he'; clear he))
       clear hmg
       wrow_args hpre hlay hrd hwl hlo
       refine enter_call ?_
       w_top on
       (try refine codeAny_mono ?_ (fun _ _ g => GoodW.toG g))
       have K0 := below_caller (Top.heap T)
       w_call any ho hd hcd hD T F
       clear hd TA
       k_drop); (
      rename_i b1 b2 b3 b4 ns hs hlay0 hL1 hr1 hl2 b5 b6 a vs b7 hl ra w1 r0 hI hr hc1 hc2 h₁ tk₁ o5 o4 o3 o2 o1 d5 d4 d3 d2 d1 N X0
      have hlen : ns.length ≤ 63 := by omega
      have g : G w s₁.heap := ⟨KX, _, _, _, T⟩
      clear B TE TW M hcd hs hlay0 hL1 hr1 hl2 ra w1 r0 hr hc1 hc2 K0 hD X0 G' Y ho T KX
      replace F : Fr s₁.heap s₁.heap.objs.size h₁ (fun y => if y = Str.ofString "script" then some (.ref a) else none) := F
      replace d1 : o1.data = .cell none := d1
      replace d2 : o2.data = .cell none := d2
      replace d3 : o3.data = .cell none := d3
      replace d4 : o4.data = .cell none := d4
      replace d5 : o5.data = .cell none := d5
      replace N : News s₁.heap s₁.heap.objs.size h₁ [(s₁.heap.objs.size + 1 + 1 + 1 + 1 + 1, o5), (s₁.heap.objs.size + 1 + 1 + 1 + 1, o4), (s₁.heap.objs.size + 1 + 1 + 1, o3), (s₁.heap.objs.size + 1 + 1, o2), (s₁.heap.objs.size + 1, o1)] := N
      have S : LS s₁.heap s₁.heap.objs.size h₁ (fun y => if y = Str.ofString "script" then some (.ref a) else none) none none none none none :=
        ⟨F, ⟨o1, (N (s₁.heap.objs.size + 1, o1) (by simp)).1, d1⟩, ⟨o2, (N (s₁.heap.objs.size + 1 + 1, o2) (by simp)).1, d2⟩, ⟨o3, (N (s₁.heap.objs.size + 1 + 1 + 1, o3) (by simp)).1, d3⟩, ⟨o4, (N (s₁.heap.objs.size + 1 + 1 + 1 + 1, o4) (by simp)).1, d4⟩, ⟨o5, (N (s₁.heap.objs.size + 1 + 1 + 1 + 1 + 1, o5) (by simp)).1, d5⟩, badL_new (Nat.le_refl _)⟩
      clear F N d1 d2 d3 d4 d5
      refine wpAny_mono (law_all (w := w) (s := { s₁ with heap := h₁, toks := tk₁ }) fa _ _ a vs ns s₁.heap (by decide) (by decide) hl hI hlen g S (by k_is) (fun h' tk m' c1 c2 c3 c4 c5 S' => ?_)) (fun _ _ x => x) (fun _ _ x => x.elim)
      show GoodW _ _ _ _ _ (.ok (.ret (.bool true))) _
      refine goodW_bool S'.F hg (raisesW_false ?_) ?_
      · wrow_none_raised
      · wrow_post))
end
end Mine
theorem PySem.Challenge.cw_om0050_01_holds : PySem.Challenge.rw_om0050_01.Holds := by
  exact Mine.top
