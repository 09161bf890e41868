import PyProof.Rows.All
import Wide.All
import OpenK.AllK
import Wide.FinOn
import Lean
import PySem.Challenge.RW_oy0072_02
/- part GoC2 -/
section
open PySem PySem.W PyProof.Rows
set_option Elab.async false
set_option maxRecDepth 100000
set_option maxHeartbeats 8000000
namespace Mine
open PySem PySem.W PyProof.Rows
noncomputable abbrev P0 : Program := PySem.Challenge.rw_oy0072_02.row.prog
noncomputable def nthS : Nat → List Stmt → Stmt
  | 0, s :: _ => s
  | n + 1, _ :: l => nthS n l
  | _, [] => .Pass ⟨0, 0, 0, 0⟩
noncomputable def bodyS : Stmt → List Stmt
  | .ClassDef _ _ _ b .. => b
  | _ => []
noncomputable def fnO (s : Stmt) (q : Str) (D K M C : Value) : Obj := match s with
  | .FunctionDef name args body _ _ _ scope .. => { cls := .type "function", data := .func { name := name, qualname := q, params := args, body := .stmts body, scope := scope, globals := 3, closure := [], defaults := D, kwdefaults := K, pyModule := M, code := C } }
  | _ => { cls := .none, data := .dict #[] }
noncomputable def tupO (l : Array Value) : Obj := { cls := .type "tuple", data := .seq l }
noncomputable def codeO (l : Array Value) : Obj := { cls := .type "code", data := .fields l }
noncomputable def ent (P : Params) (x : String) (n : Nat) (v : Value) : DictEntry := { hash := PyData.keyHash P (Str.ofString x), key := .str (Str.ofString x) n, val := v }
noncomputable def frag : Params → Frag := fun P =>
  [(2, { cls := Value.none, data := Data.dict #[] }),
   (3, { cls := Value.type "dict", data := Data.dict #[ent P "__name__" 165 (Value.str (Str.ofString "law_oy0072_02") 392), ent P "__doc__" 166 (Value.none), ent P "__package__" 167 (Value.none), ent P "__loader__" 168 (Value.builtin "__main__.__loader__#opaque"), ent P "__spec__" 169 (Value.none), ent P "__annotations__" 170 (Value.ref 6), ent P "__builtins__" 171 (Value.ref 4), ent P "__file__" 173 (Value.str (Str.ofString "/claim/cut.py") 172), ent P "__cached__" 174 (Value.none), ent P "_wall" 193 (Value.ref 21), ent P "heappush" 203 (Value.ref 28), ent P "heappop" 212 (Value.ref 35), ent P "heapify" 221 (Value.ref 42), ent P "_siftdown" 233 (Value.ref 49), ent P "_siftup" 246 (Value.ref 56), ent P "_buffer" 256 (Value.ref 63), ent P "_truth" 264 (Value.ref 70), ent P "_B64" 266 (Value.bytes #[65, 66, 67, 68, 69, 70, 71, 72, 73, 74, 75, 76, 77, 78, 79, 80, 81, 82, 83, 84, 85, 86, 87, 88, 89, 90, 97, 98, 99, 100, 101, 102, 103, 104, 105, 106, 107, 108, 109, 110, 111, 112, 113, 114, 115, 116, 117, 118, 119, 120, 121, 122, 48, 49, 50, 51, 52, 53, 54, 55, 56, 57, 43, 47] 265), ent P "b2a_base64" 280 (Value.ref 78), ent P "b64encode" 291 (Value.ref 86), ent P "sep" 293 (Value.str (Str.ofString "/") 292), ent P "_kind" 304 (Value.ref 93), ent P "_c_path" 317 (Value.ref 100), ent P "_splitroot" 326 (Value.ref 107), ent P "_normpath" 341 (Value.ref 114), ent P "normpath" 349 (Value.ref 121), ent P "_Ignore" 391 (Value.ref 144), ent P "_law_name" 399 (Value.ref 153), ent P "_law_take" 410 (Value.ref 160), ent P "_law_give" 419 (Value.ref 167), ent P "_law_course" 425 (Value.ref 172), ent P "_law_widest" 434 (Value.ref 179), ent P "_law_plain" 440 (Value.ref 184), ent P "_law_told" 446 (Value.ref 189), ent P "law" 452 (Value.ref 194)] 35 }),
   (15, tupO #[]),
   (17, tupO #[Value.str (Str.ofString "k") 190]),
   (18, tupO #[]),
   (20, codeO #[Value.str (Str.ofString "_wall") 187, Value.str (Str.ofString "_wall") 188, Value.str (Str.ofString "/claim/cut.py") 189, Value.int 1 0, Value.int 1 0, Value.int 0 0, Value.int 0 0, Value.int 3 0, Value.ref 15, Value.bool true, Value.int 181 0, Value.ref 16, Value.none, Value.ref 17, Value.ref 18, Value.ref 19, Value.int 191 0, Value.int 1 0, Value.str (Str.ofString "/claim/cut.py") 192]),
   (21, fnO (nthS 0 P0.main.body) (Str.ofString "_wall") (Value.none) (Value.none) (Value.str (Str.ofString "__main__") 164) (Value.ref 20)),
   (22, tupO #[]),
   (24, tupO #[Value.str (Str.ofString "heap") 199, Value.str (Str.ofString "item") 200]),
   (25, tupO #[]),
   (27, codeO #[Value.str (Str.ofString "heappush") 196, Value.str (Str.ofString "heappush") 197, Value.str (Str.ofString "/claim/cut.py") 198, Value.int 5 0, Value.int 2 0, Value.int 0 0, Value.int 0 0, Value.int 3 0, Value.ref 22, Value.bool true, Value.int 181 0, Value.ref 23, Value.none, Value.ref 24, Value.ref 25, Value.ref 26, Value.int 201 0, Value.int 5 0, Value.str (Str.ofString "/claim/cut.py") 202]),
   (28, fnO (nthS 2 P0.main.body) (Str.ofString "heappush") (Value.none) (Value.none) (Value.str (Str.ofString "cpy313.heapq") 194) (Value.ref 27)),
   (29, tupO #[]),
   (31, tupO #[Value.str (Str.ofString "heap") 207, Value.str (Str.ofString "lastelt") 208, Value.str (Str.ofString "returnitem") 209]),
   (32, tupO #[]),
   (34, codeO #[Value.str (Str.ofString "heappop") 204, Value.str (Str.ofString "heappop") 205, Value.str (Str.ofString "/claim/cut.py") 206, Value.int 8 0, Value.int 1 0, Value.int 0 0, Value.int 0 0, Value.int 3 0, Value.ref 29, Value.bool true, Value.int 181 0, Value.ref 30, Value.none, Value.ref 31, Value.ref 32, Value.ref 33, Value.int 210 0, Value.int 8 0, Value.str (Str.ofString "/claim/cut.py") 211]),
   (35, fnO (nthS 3 P0.main.body) (Str.ofString "heappop") (Value.none) (Value.none) (Value.str (Str.ofString "cpy313.heapq") 194) (Value.ref 34)),
   (36, tupO #[]),
   (38, tupO #[Value.str (Str.ofString "x") 216, Value.str (Str.ofString "n") 217, Value.str (Str.ofString "i") 218]),
   (39, tupO #[]),
   (41, codeO #[Value.str (Str.ofString "heapify") 213, Value.str (Str.ofString "heapify") 214, Value.str (Str.ofString "/claim/cut.py") 215, Value.int 16 0, Value.int 1 0, Value.int 0 0, Value.int 0 0, Value.int 3 0, Value.ref 36, Value.bool true, Value.int 181 0, Value.ref 37, Value.none, Value.ref 38, Value.ref 39, Value.ref 40, Value.int 219 0, Value.int 16 0, Value.str (Str.ofString "/claim/cut.py") 220]),
   (42, fnO (nthS 4 P0.main.body) (Str.ofString "heapify") (Value.none) (Value.none) (Value.str (Str.ofString "cpy313.heapq") 194) (Value.ref 41)),
   (43, tupO #[]),
   (45, tupO #[Value.str (Str.ofString "heap") 225, Value.str (Str.ofString "startpos") 226, Value.str (Str.ofString "pos") 227, Value.str (Str.ofString "newitem") 228, Value.str (Str.ofString "parentpos") 229, Value.str (Str.ofString "parent") 230]),
   (46, tupO #[]),
   (48, codeO #[Value.str (Str.ofString "_siftdown") 222, Value.str (Str.ofString "_siftdown") 223, Value.str (Str.ofString "/claim/cut.py") 224, Value.int 20 0, Value.int 3 0, Value.int 0 0, Value.int 0 0, Value.int 3 0, Value.ref 43, Value.bool true, Value.int 181 0, Value.ref 44, Value.none, Value.ref 45, Value.ref 46, Value.ref 47, Value.int 231 0, Value.int 20 0, Value.str (Str.ofString "/claim/cut.py") 232]),
   (49, fnO (nthS 5 P0.main.body) (Str.ofString "_siftdown") (Value.none) (Value.none) (Value.str (Str.ofString "cpy313.heapq") 194) (Value.ref 48)),
   (50, tupO #[]),
   (52, tupO #[Value.str (Str.ofString "heap") 237, Value.str (Str.ofString "pos") 238, Value.str (Str.ofString "endpos") 239, Value.str (Str.ofString "startpos") 240, Value.str (Str.ofString "newitem") 241, Value.str (Str.ofString "childpos") 242, Value.str (Str.ofString "rightpos") 243]),
   (53, tupO #[]),
   (55, codeO #[Value.str (Str.ofString "_siftup") 234, Value.str (Str.ofString "_siftup") 235, Value.str (Str.ofString "/claim/cut.py") 236, Value.int 31 0, Value.int 2 0, Value.int 0 0, Value.int 0 0, Value.int 3 0, Value.ref 50, Value.bool true, Value.int 181 0, Value.ref 51, Value.none, Value.ref 52, Value.ref 53, Value.ref 54, Value.int 244 0, Value.int 31 0, Value.str (Str.ofString "/claim/cut.py") 245]),
   (56, fnO (nthS 6 P0.main.body) (Str.ofString "_siftup") (Value.none) (Value.none) (Value.str (Str.ofString "cpy313.heapq") 194) (Value.ref 55)),
   (57, tupO #[]),
   (59, tupO #[Value.str (Str.ofString "data") 252, Value.str (Str.ofString "t") 253]),
   (60, tupO #[]),
   (62, codeO #[Value.str (Str.ofString "_buffer") 249, Value.str (Str.ofString "_buffer") 250, Value.str (Str.ofString "/claim/cut.py") 251, Value.int 46 0, Value.int 1 0, Value.int 0 0, Value.int 0 0, Value.int 3 0, Value.ref 57, Value.bool true, Value.int 181 0, Value.ref 58, Value.none, Value.ref 59, Value.ref 60, Value.ref 61, Value.int 254 0, Value.int 46 0, Value.str (Str.ofString "/claim/cut.py") 255]),
   (63, fnO (nthS 8 P0.main.body) (Str.ofString "_buffer") (Value.none) (Value.none) (Value.str (Str.ofString "binascii") 247) (Value.ref 62)),
   (64, tupO #[]),
   (66, tupO #[Value.str (Str.ofString "x") 260, Value.str (Str.ofString "t") 261]),
   (67, tupO #[]),
   (69, codeO #[Value.str (Str.ofString "_truth") 257, Value.str (Str.ofString "_truth") 258, Value.str (Str.ofString "/claim/cut.py") 259, Value.int 53 0, Value.int 1 0, Value.int 0 0, Value.int 0 0, Value.int 3 0, Value.ref 64, Value.bool true, Value.int 181 0, Value.ref 65, Value.none, Value.ref 66, Value.ref 67, Value.ref 68, Value.int 262 0, Value.int 53 0, Value.str (Str.ofString "/claim/cut.py") 263]),
   (70, fnO (nthS 9 P0.main.body) (Str.ofString "_truth") (Value.none) (Value.none) (Value.str (Str.ofString "binascii") 247) (Value.ref 69)),
   (71, { cls := Value.type "dict", data := Data.dict #[ent P "newline" 267 (Value.bool true)] 1 }),
   (72, tupO #[]),
   (74, tupO #[Value.str (Str.ofString "data") 271, Value.str (Str.ofString "newline") 272, Value.str (Str.ofString "bin_data") 273, Value.str (Str.ofString "out") 274, Value.str (Str.ofString "leftbits") 275, Value.str (Str.ofString "leftchar") 276, Value.str (Str.ofString "b") 277]),
   (75, tupO #[]),
   (77, codeO #[Value.str (Str.ofString "b2a_base64") 268, Value.str (Str.ofString "b2a_base64") 269, Value.str (Str.ofString "/claim/cut.py") 270, Value.int 59 0, Value.int 1 0, Value.int 1 0, Value.int 1 0, Value.int 3 0, Value.ref 72, Value.bool true, Value.int 181 0, Value.ref 73, Value.none, Value.ref 74, Value.ref 75, Value.ref 76, Value.int 278 0, Value.int 59 0, Value.str (Str.ofString "/claim/cut.py") 279]),
   (78, fnO (nthS 11 P0.main.body) (Str.ofString "b2a_base64") (Value.none) (Value.ref 71) (Value.str (Str.ofString "binascii") 247) (Value.ref 77)),
   (79, tupO #[Value.none]),
   (80, tupO #[]),
   (82, tupO #[Value.str (Str.ofString "s") 286, Value.str (Str.ofString "altchars") 287, Value.str (Str.ofString "encoded") 288]),
   (83, tupO #[]),
   (85, codeO #[Value.str (Str.ofString "b64encode") 283, Value.str (Str.ofString "b64encode") 284, Value.str (Str.ofString "/claim/cut.py") 285, Value.int 82 0, Value.int 2 0, Value.int 0 0, Value.int 0 0, Value.int 3 0, Value.ref 80, Value.bool true, Value.int 181 0, Value.ref 81, Value.none, Value.ref 82, Value.ref 83, Value.ref 84, Value.int 289 0, Value.int 82 0, Value.str (Str.ofString "/claim/cut.py") 290]),
   (86, fnO (nthS 13 P0.main.body) (Str.ofString "b64encode") (Value.ref 79) (Value.none) (Value.str (Str.ofString "cpy313.base64") 281) (Value.ref 85)),
   (87, tupO #[]),
   (89, tupO #[Value.str (Str.ofString "name") 299, Value.str (Str.ofString "x") 300, Value.str (Str.ofString "t") 301]),
   (90, tupO #[]),
   (92, codeO #[Value.str (Str.ofString "_kind") 296, Value.str (Str.ofString "_kind") 297, Value.str (Str.ofString "/claim/cut.py") 298, Value.int 90 0, Value.int 2 0, Value.int 0 0, Value.int 0 0, Value.int 3 0, Value.ref 87, Value.bool true, Value.int 181 0, Value.ref 88, Value.none, Value.ref 89, Value.ref 90, Value.ref 91, Value.int 302 0, Value.int 90 0, Value.str (Str.ofString "/claim/cut.py") 303]),
   (93, fnO (nthS 16 P0.main.body) (Str.ofString "_kind") (Value.none) (Value.none) (Value.str (Str.ofString "os.path") 294) (Value.ref 92)),
   (94, tupO #[]),
   (96, tupO #[Value.str (Str.ofString "name") 308, Value.str (Str.ofString "cname") 309, Value.str (Str.ofString "argname") 310, Value.str (Str.ofString "args") 311, Value.str (Str.ofString "kwargs") 312, Value.str (Str.ofString "x") 313, Value.str (Str.ofString "k") 314]),
   (97, tupO #[]),
   (99, codeO #[Value.str (Str.ofString "_c_path") 305, Value.str (Str.ofString "_c_path") 306, Value.str (Str.ofString "/claim/cut.py") 307, Value.int 111 0, Value.int 5 0, Value.int 0 0, Value.int 0 0, Value.int 3 0, Value.ref 94, Value.bool true, Value.int 181 0, Value.ref 95, Value.none, Value.ref 96, Value.ref 97, Value.ref 98, Value.int 315 0, Value.int 111 0, Value.str (Str.ofString "/claim/cut.py") 316]),
   (100, fnO (nthS 17 P0.main.body) (Str.ofString "_c_path") (Value.none) (Value.none) (Value.str (Str.ofString "os.path") 294) (Value.ref 99)),
   (101, tupO #[]),
   (103, tupO #[Value.str (Str.ofString "p") 321, Value.str (Str.ofString "sep") 322, Value.str (Str.ofString "empty") 323]),
   (104, tupO #[]),
   (106, codeO #[Value.str (Str.ofString "_splitroot") 318, Value.str (Str.ofString "_splitroot") 319, Value.str (Str.ofString "/claim/cut.py") 320, Value.int 122 0, Value.int 1 0, Value.int 0 0, Value.int 0 0, Value.int 3 0, Value.ref 101, Value.bool true, Value.int 181 0, Value.ref 102, Value.none, Value.ref 103, Value.ref 104, Value.ref 105, Value.int 324 0, Value.int 122 0, Value.str (Str.ofString "/claim/cut.py") 325]),
   (107, fnO (nthS 18 P0.main.body) (Str.ofString "_splitroot") (Value.none) (Value.none) (Value.str (Str.ofString "os.path") 294) (Value.ref 106)),
   (108, tupO #[]),
   (110, tupO #[Value.str (Str.ofString "path") 330, Value.str (Str.ofString "sep") 331, Value.str (Str.ofString "dot") 332, Value.str (Str.ofString "dotdot") 333, Value.str (Str.ofString "_") 334, Value.str (Str.ofString "initial_slashes") 335, Value.str (Str.ofString "comps") 336, Value.str (Str.ofString "new_comps") 337, Value.str (Str.ofString "comp") 338]),
   (111, tupO #[]),
   (113, codeO #[Value.str (Str.ofString "_normpath") 327, Value.str (Str.ofString "_normpath") 328, Value.str (Str.ofString "/claim/cut.py") 329, Value.int 131 0, Value.int 1 0, Value.int 0 0, Value.int 0 0, Value.int 3 0, Value.ref 108, Value.bool true, Value.int 181 0, Value.ref 109, Value.none, Value.ref 110, Value.ref 111, Value.ref 112, Value.int 339 0, Value.int 131 0, Value.str (Str.ofString "/claim/cut.py") 340]),
   (114, fnO (nthS 19 P0.main.body) (Str.ofString "_normpath") (Value.none) (Value.none) (Value.str (Str.ofString "os.path") 294) (Value.ref 113)),
   (115, tupO #[]),
   (117, tupO #[Value.str (Str.ofString "args") 345, Value.str (Str.ofString "kwargs") 346]),
   (118, tupO #[]),
   (120, codeO #[Value.str (Str.ofString "normpath") 342, Value.str (Str.ofString "normpath") 343, Value.str (Str.ofString "/claim/cut.py") 344, Value.int 150 0, Value.int 0 0, Value.int 0 0, Value.int 0 0, Value.int 15 0, Value.ref 115, Value.bool true, Value.int 181 0, Value.ref 116, Value.none, Value.ref 117, Value.ref 118, Value.ref 119, Value.int 347 0, Value.int 150 0, Value.str (Str.ofString "/claim/cut.py") 348]),
   (121, fnO (nthS 20 P0.main.body) (Str.ofString "normpath") (Value.none) (Value.none) (Value.str (Str.ofString "os.path") 294) (Value.ref 120)),
   (129, tupO #[Value.none, Value.none]),
   (130, tupO #[]),
   (133, codeO #[Value.str (Str.ofString "__init__") 364, Value.str (Str.ofString "_Ignore.__init__") 365, Value.str (Str.ofString "/claim/cut.py") 366, Value.int 155 0, Value.int 3 0, Value.int 0 0, Value.int 0 0, Value.int 3 0, Value.ref 130, Value.bool true, Value.int 181 0, Value.ref 131, Value.none, Value.none, Value.none, Value.ref 132, Value.int 367 0, Value.int 155 0, Value.str (Str.ofString "/claim/cut.py") 368]),
   (134, fnO (nthS 0 (bodyS (nthS 22 P0.main.body))) (Str.ofString "_Ignore.__init__") (Value.ref 129) (Value.none) (Value.str (Str.ofString "cpy313.trace") 350) (Value.ref 133)),
   (135, tupO #[]),
   (137, tupO #[Value.str (Str.ofString "self") 373, Value.str (Str.ofString "filename") 374, Value.str (Str.ofString "modulename") 375, Value.str (Str.ofString "mod") 376, Value.str (Str.ofString "d") 377]),
   (138, tupO #[]),
   (140, codeO #[Value.str (Str.ofString "names") 370, Value.str (Str.ofString "_Ignore.names") 371, Value.str (Str.ofString "/claim/cut.py") 372, Value.int 160 0, Value.int 3 0, Value.int 0 0, Value.int 0 0, Value.int 3 0, Value.ref 135, Value.bool true, Value.int 181 0, Value.ref 136, Value.none, Value.ref 137, Value.ref 138, Value.ref 139, Value.int 378 0, Value.int 160 0, Value.str (Str.ofString "/claim/cut.py") 379]),
   (141, fnO (nthS 1 (bodyS (nthS 22 P0.main.body))) (Str.ofString "_Ignore.names") (Value.none) (Value.none) (Value.str (Str.ofString "cpy313.trace") 350) (Value.ref 140)),
   (142, tupO #[Value.str (Str.ofString "_dirs") 381, Value.str (Str.ofString "_ignore") 382, Value.str (Str.ofString "_mods") 383]),
   (143, { cls := Value.type "dict", data := Data.dict #[ent P "__module__" 359 (Value.str (Str.ofString "cpy313.trace") 350), ent P "__firstlineno__" 363 (Value.int 153 362), ent P "__init__" 369 (Value.ref 134), ent P "names" 380 (Value.ref 141), ent P "__static_attributes__" 384 (Value.ref 142), ent P "__dict__" 386 (Value.ref 145), ent P "__weakref__" 388 (Value.ref 146), ent P "__doc__" 389 (Value.none)] 4 }),
   (144, { cls := Value.type "type", data := Data.cls { name := Str.ofString "_Ignore", bases := [Value.type "object"], mro := [Value.ref 144, Value.type "object"], ns := 143, qualname := Str.ofString "_Ignore" }, slots := #[none, none, some (Value.str (Str.ofString "_Ignore") 352), some (Value.str (Str.ofString "_Ignore") 360), some (Value.builtin "object.__new__"), some (Value.bool true)] }),
   (145, { cls := Value.type "getset_descriptor", data := Data.fields #[Value.str (Str.ofString "__dict__") 385, Value.ref 144, Value.builtin "function.__dict__", Value.builtin "function.__dict__#set"] }),
   (146, { cls := Value.type "getset_descriptor", data := Data.fields #[Value.str (Str.ofString "__weakref__") 387, Value.ref 144, Value.builtin "ExceptionGroup.__weakref__", Value.none] }),
   (149, tupO #[]),
   (152, codeO #[Value.str (Str.ofString "_law_name") 394, Value.str (Str.ofString "_law_name") 395, Value.str (Str.ofString "/claim/cut.py") 396, Value.int 180 0, Value.int 2 0, Value.int 0 0, Value.int 0 0, Value.int 3 0, Value.ref 149, Value.bool true, Value.int 181 0, Value.ref 150, Value.none, Value.none, Value.none, Value.ref 151, Value.int 397 0, Value.int 180 0, Value.str (Str.ofString "/claim/cut.py") 398]),
   (153, fnO (nthS 24 P0.main.body) (Str.ofString "_law_name") (Value.none) (Value.none) (Value.str (Str.ofString "law_oy0072_02") 392) (Value.ref 152)),
   (154, tupO #[]),
   (156, tupO #[Value.str (Str.ofString "free") 403, Value.str (Str.ofString "size") 404, Value.str (Str.ofString "small") 405, Value.str (Str.ofString "first") 406, Value.str (Str.ofString "room") 407]),
   (157, tupO #[]),
   (159, codeO #[Value.str (Str.ofString "_law_take") 400, Value.str (Str.ofString "_law_take") 401, Value.str (Str.ofString "/claim/cut.py") 402, Value.int 182 0, Value.int 2 0, Value.int 0 0, Value.int 0 0, Value.int 3 0, Value.ref 154, Value.bool true, Value.int 181 0, Value.ref 155, Value.none, Value.ref 156, Value.ref 157, Value.ref 158, Value.int 408 0, Value.int 182 0, Value.str (Str.ofString "/claim/cut.py") 409]),
   (160, fnO (nthS 25 P0.main.body) (Str.ofString "_law_take") (Value.none) (Value.none) (Value.str (Str.ofString "law_oy0072_02") 392) (Value.ref 159)),
   (161, tupO #[]),
   (163, tupO #[Value.str (Str.ofString "free") 414, Value.str (Str.ofString "first") 415, Value.str (Str.ofString "size") 416]),
   (164, tupO #[]),
   (166, codeO #[Value.str (Str.ofString "_law_give") 411, Value.str (Str.ofString "_law_give") 412, Value.str (Str.ofString "/claim/cut.py") 413, Value.int 194 0, Value.int 3 0, Value.int 0 0, Value.int 0 0, Value.int 3 0, Value.ref 161, Value.bool true, Value.int 181 0, Value.ref 162, Value.none, Value.ref 163, Value.ref 164, Value.ref 165, Value.int 417 0, Value.int 194 0, Value.str (Str.ofString "/claim/cut.py") 418]),
   (167, fnO (nthS 26 P0.main.body) (Str.ofString "_law_give") (Value.none) (Value.none) (Value.str (Str.ofString "law_oy0072_02") 392) (Value.ref 166)),
   (168, tupO #[]),
   (171, codeO #[Value.str (Str.ofString "_law_course") 420, Value.str (Str.ofString "_law_course") 421, Value.str (Str.ofString "/claim/cut.py") 422, Value.int 200 0, Value.int 1 0, Value.int 0 0, Value.int 0 0, Value.int 3 0, Value.ref 168, Value.bool true, Value.int 181 0, Value.ref 169, Value.none, Value.none, Value.none, Value.ref 170, Value.int 423 0, Value.int 200 0, Value.str (Str.ofString "/claim/cut.py") 424]),
   (172, fnO (nthS 27 P0.main.body) (Str.ofString "_law_course") (Value.none) (Value.none) (Value.str (Str.ofString "law_oy0072_02") 392) (Value.ref 171)),
   (173, tupO #[]),
   (175, tupO #[Value.str (Str.ofString "cells") 429, Value.str (Str.ofString "first") 430, Value.str (Str.ofString "size") 431]),
   (176, tupO #[]),
   (178, codeO #[Value.str (Str.ofString "_law_widest") 426, Value.str (Str.ofString "_law_widest") 427, Value.str (Str.ofString "/claim/cut.py") 428, Value.int 216 0, Value.int 3 0, Value.int 0 0, Value.int 0 0, Value.int 3 0, Value.ref 173, Value.bool true, Value.int 181 0, Value.ref 174, Value.none, Value.ref 175, Value.ref 176, Value.ref 177, Value.int 432 0, Value.int 216 0, Value.str (Str.ofString "/claim/cut.py") 433]),
   (179, fnO (nthS 28 P0.main.body) (Str.ofString "_law_widest") (Value.none) (Value.none) (Value.str (Str.ofString "law_oy0072_02") 392) (Value.ref 178)),
   (180, tupO #[]),
   (183, codeO #[Value.str (Str.ofString "_law_plain") 435, Value.str (Str.ofString "_law_plain") 436, Value.str (Str.ofString "/claim/cut.py") 437, Value.int 222 0, Value.int 1 0, Value.int 0 0, Value.int 0 0, Value.int 3 0, Value.ref 180, Value.bool true, Value.int 181 0, Value.ref 181, Value.none, Value.none, Value.none, Value.ref 182, Value.int 438 0, Value.int 222 0, Value.str (Str.ofString "/claim/cut.py") 439]),
   (184, fnO (nthS 29 P0.main.body) (Str.ofString "_law_plain") (Value.none) (Value.none) (Value.str (Str.ofString "law_oy0072_02") 392) (Value.ref 183)),
   (185, tupO #[]),
   (188, codeO #[Value.str (Str.ofString "_law_told") 441, Value.str (Str.ofString "_law_told") 442, Value.str (Str.ofString "/claim/cut.py") 443, Value.int 237 0, Value.int 1 0, Value.int 0 0, Value.int 0 0, Value.int 3 0, Value.ref 185, Value.bool true, Value.int 181 0, Value.ref 186, Value.none, Value.none, Value.none, Value.ref 187, Value.int 444 0, Value.int 237 0, Value.str (Str.ofString "/claim/cut.py") 445]),
   (189, fnO (nthS 30 P0.main.body) (Str.ofString "_law_told") (Value.none) (Value.none) (Value.str (Str.ofString "law_oy0072_02") 392) (Value.ref 188)),
   (190, tupO #[]),
   (193, codeO #[Value.str (Str.ofString "law") 447, Value.str (Str.ofString "law") 448, Value.str (Str.ofString "/claim/cut.py") 449, Value.int 240 0, Value.int 1 0, Value.int 0 0, Value.int 0 0, Value.int 3 0, Value.ref 190, Value.bool true, Value.int 181 0, Value.ref 191, Value.none, Value.none, Value.none, Value.ref 192, Value.int 450 0, Value.int 240 0, Value.str (Str.ofString "/claim/cut.py") 451]),
   (194, fnO (nthS 31 P0.main.body) (Str.ofString "law") (Value.none) (Value.none) (Value.str (Str.ofString "law_oy0072_02") 392) (Value.ref 193))]
noncomputable def asF : List Addr := [2, 3, 15, 17, 18, 20, 21, 22, 24, 25, 27, 28, 29, 31, 32, 34, 35, 36, 38, 39, 41, 42, 43, 45, 46, 48, 49, 50, 52, 53, 55, 56, 57, 59, 60, 62, 63, 64, 66, 67, 69, 70, 71, 72, 74, 75, 77, 78, 79, 80, 82, 83, 85, 86, 87, 89, 90, 92, 93, 94, 96, 97, 99, 100, 101, 103, 104, 106, 107, 108, 110, 111, 113, 114, 115, 117, 118, 120, 121, 129, 130, 133, 134, 135, 137, 138, 140, 141, 142, 143, 144, 145, 146, 149, 152, 153, 154, 156, 157, 159, 160, 161, 163, 164, 166, 167, 168, 171, 172, 173, 175, 176, 178, 179, 180, 183, 184, 185, 188, 189, 190, 193, 194]
noncomputable def view : Program := { P0 with main := { P0.main with body := [nthS 0 P0.main.body, nthS 2 P0.main.body, nthS 3 P0.main.body, nthS 4 P0.main.body, nthS 5 P0.main.body, nthS 6 P0.main.body, nthS 8 P0.main.body, nthS 9 P0.main.body, nthS 10 P0.main.body, nthS 14 P0.main.body, nthS 16 P0.main.body, nthS 17 P0.main.body, nthS 18 P0.main.body, nthS 19 P0.main.body, nthS 20 P0.main.body, nthS 22 P0.main.body, nthS 24 P0.main.body, nthS 25 P0.main.body, nthS 26 P0.main.body, nthS 27 P0.main.body, nthS 28 P0.main.body, nthS 29 P0.main.body, nthS 30 P0.main.body, nthS 31 P0.main.body] } }
noncomputable def hook : Hook := kHook frag asF (fun _ => by kernel_rfl)
end Mine

end
/- part GoD2 -/
section
open PySem PySem.W PyProof.Rows
set_option Elab.async false
set_option maxRecDepth 100000
set_option maxHeartbeats 8000000
namespace Mine
theorem hl0 : LeftO PySem.Challenge.rw_oy0072_02.row.prog view [Str.ofString "b2a_base64", Str.ofString "b64encode"] (fun s => xlAt view [] s && recOk (RowW.records PySem.Challenge.rw_oy0072_02.row.toRowW) s) (Hook.obs hook) (Hook.val hook) 2204 := fun w => by kernel_rfl
noncomputable def dLaw : DefRec := match nthS 31 P0.main.body with
  | .FunctionDef name args body _ _ _ scope _ _ pos => { name := name, params := args, body := body, scope := scope, pos := pos }
  | _ => { name := Str.ofString "", params := PySem.Arguments.mk [] [] none [] [] none [], body := [], scope := P0.main.scope, pos := ⟨0, 0, 0, 0⟩ }
theorem hd (walk : WalkO view [Str.ofString "b2a_base64", Str.ofString "b64encode"] (XL view []) (Hook.says hook) PySem.Challenge.rw_oy0072_02.row.toRowW dLaw [] fun f vs => PySem.call f vs) : PySem.Challenge.rw_oy0072_02.Holds := by
  have hxx : PySem.Challenge.rw_oy0072_02.wellSaid = true := by kernel_rfl
  refine holds_law hxx fun said => ?_
  refine holds_open (q := view) (loose := [Str.ofString "b2a_base64", Str.ofString "b64encode"]) (Xt := fun s => xlAt view [] s && recOk (RowW.records PySem.Challenge.rw_oy0072_02.row.toRowW) s) (XP := XL view []) (Yf := Hook.obs hook) (Ya := Hook.val hook) (YP := Hook.says hook) (N := 2204) hl0 (Hook.of hook) (Hook.keeps hook) (fun s e => xl_of s (Bool.and_eq_true_iff.mp e).1) XL.keeps (by kernel_rfl) (by kernel_rfl) (by kernel_rfl) (fun s e => recFacts_of (Bool.and_eq_true_iff.mp e).2) (by first | rfl | fail "writes") said (by kernel_rfl) ⟨rfl, rfl, rfl, rfl, rfl, by kernel_rfl⟩ ?hw walk
  w_witness2
end Mine

end
/- part Om -/
section
open PySem PySem.W PyProof.Rows
set_option Elab.async false
namespace Mine
open PySem PySem.W PyProof.Rows PySem.Calls PySem.Spec
theorem om_eqlt {a b c d : Nat} (h : a = b) (k : b < c) (l : c ≤ d) : a < d := h ▸ Nat.lt_of_lt_of_le k l
theorem om_eqle {a b c d : Nat} (h : a = b) (k : b < c) (l : c ≤ d) : a ≤ d := h ▸ Nat.le_of_lt (Nat.lt_of_lt_of_le k l)
theorem om_eqle2 {a b c d : Nat} (h : a = b) (k : b ≤ c) (l : c ≤ d) : a ≤ d := h ▸ Nat.le_trans k l
theorem om_eql {a b c : Nat} (h : a = b) (l : b < c) : a < c := h ▸ l
theorem om_eqr {a b c : Nat} (h : b = c) (l : a < b) : a < c := h ▸ l
theorem om_eqr' {a b c : Nat} (h : c = b) (l : a < b) : a < c := h ▸ l
theorem om_eqs {a b c : Nat} (h : a = b) (l : b < c) : a ≤ c := h ▸ Nat.le_of_lt l
theorem om_ltle {a b c : Nat} (h : a < b) (l : b ≤ c) : a ≤ c := Nat.le_of_lt (Nat.lt_of_lt_of_le h l)
theorem om_sle {a b c : Nat} (h : a + 1 ≤ b) (l : b ≤ c) : a ≤ c := Nat.le_trans (Nat.le_of_succ_le h) l
theorem om_sl {a b c : Nat} (h : a + 1 < b) (l : b ≤ c) : a < c := Nat.lt_of_lt_of_le (Nat.lt_of_succ_lt h) l
theorem om_cast {a b : Nat} {d : Int} (h : a < b) (k : (b : Int) ≤ d) : (a : Int) < d := Int.lt_of_lt_of_le (Int.ofNat_lt.mpr h) k
theorem om_casta {a b c : Nat} {d : Int} (h : a < b) (l : b < c) (k : (c : Int) ≤ d) : (a : Int) < d := om_cast (Nat.lt_trans h l) k
theorem om_castb {a b c : Nat} {d : Int} (h : a < b) (l : b ≤ c) (k : (c : Int) ≤ d) : (a : Int) < d := om_cast (Nat.lt_of_lt_of_le h l) k
theorem om_castd {a b c : Nat} {d : Int} (h : a < c) (k : (c : Int) ≤ d) : ((a / b : Nat) : Int) < d := om_cast (Nat.lt_of_le_of_lt (Nat.div_le_self _ _) h) k
theorem om_un {u n k c L : Nat} (h : u + 8 * (n + k) < L) (l : c ≤ 8 * k) : u + c < L := Nat.lt_of_le_of_lt (Nat.add_le_add_left (Nat.le_trans l (Nat.mul_le_mul_left 8 (Nat.le_add_left _ _))) _) h
theorem om_un0 {u n k L : Nat} (h : u + 8 * (n + k) < L) : u < L := Nat.lt_of_le_of_lt (Nat.le_add_right _ _) h
theorem om_unm {u n k m L : Nat} (h : u + 8 * (n + k) < L) (l : m ≤ k) : u + 8 * (n + m) < L := Nat.lt_of_le_of_lt (Nat.add_le_add_left (Nat.mul_le_mul_left 8 (Nat.add_le_add_left l _)) _) h
theorem om_unz {u n k L : Nat} (h : u + 8 * (n + k) < L) : u + 8 * n < L := om_unm (m := 0) h (Nat.zero_le _)
theorem om_dp {u n k m L : Nat} (h : u + (n + k) < L) (l : m ≤ k) : u + (n + m) < L := Nat.lt_of_le_of_lt (Nat.add_le_add_left (Nat.add_le_add_left l _) _) h
theorem om_dpz {u n k L : Nat} (h : u + (n + k) < L) : u + n < L := om_dp (m := 0) h (Nat.zero_le _)
theorem om_dpm {u n k c L : Nat} (h : u + (n + k) < L) (l : c ≤ k) : u + c < L := Nat.lt_of_le_of_lt (Nat.add_le_add_left (Nat.le_trans l (Nat.le_add_left _ _)) _) h
theorem om_dpn {A n k c L : Nat} (h : A + (n + k) < L) (l : c ≤ k) : A + c + n < L := by omega
theorem om_leR {a b : Nat} (h : a ≤ b) (k : b ≤ a) : a = b := Nat.le_antisymm h k
theorem om_ileL {a b c : Int} (h : a ≤ b) (k : b ≤ c) : a ≤ c := Int.le_trans h k
theorem om_ilt {a b c : Int} (h : a < b) (k : b ≤ c) : a < c := Int.lt_of_lt_of_le h k
theorem om_ilt' {a b c : Int} (h : a ≤ b) (k : b < c) : a < c := Int.lt_of_le_of_lt h k
theorem om_nat {p : Int} {k : Nat} (h : 0 ≤ p) (l : p < k) : p.toNat < k := (Int.toNat_lt h).mpr l
theorem om_neg {a : Nat} {d : Int} (h : d ≤ 0) : d ≤ (a : Int) := Int.le_trans h (Int.natCast_nonneg _)
theorem om_min {a b d : Nat} (k : a ≤ d) : min a b ≤ d := Nat.le_trans (Nat.min_le_left _ _) k
theorem om_minl {a b d : Nat} (k : a < d) : min a b < d := Nat.lt_of_le_of_lt (Nat.min_le_left _ _) k
theorem om_sub {a b c : Nat} (k : a < c) : a - b < c := Nat.lt_of_le_of_lt (Nat.sub_le _ _) k
theorem om_sube {a b c d : Nat} (h : a = d) (k : d < c) : a - b < c := om_sub (h ▸ k)
end Mine

end
/- part Core -/
section
open PySem PySem.W PyProof.Rows
set_option Elab.async false
namespace Mine
open PySem PySem.W PyProof.Rows PySem.Calls PySem.Spec

inductive AV where
  | none
  | bool (b : Bool)
  | int (i : Int)
  | str (s : Str)
  | bytes (b : Array UInt8)
  | tup (l : List AV)
  | lst (l : List AV)
  | sset (P : Params) (l : List Str)
  | inst (c d : Addr)
  | rng (a b : Int)
  | raw (v : Value)

inductive AO where
  | lst (l : List AV)
  | dct (l : List (Str × AV))

noncomputable abbrev Store := List (Addr × AO)
noncomputable abbrev Loc := List (Str × AV)
noncomputable abbrev dom (σ : Store) : List Addr := σ.map (·.1)

structure SetData (P : Params) (es : Array (Int × Value)) (t : SetTable) (l : List Str) : Prop where
  elem : ∀ e ∈ es.toList, ∃ x tk, e = (PyData.keyHash P x, .str x tk)
  mem : ∀ x, x ∈ l ↔ ∃ e ∈ es.toList, ∃ tk, e.2 = .str x tk
  bound : es.size < scanBound
  fits : t.fits es.size = true
  led : P.followText "set-order" = false → 0 < es.size → t.led = true
  plain : 0 < es.size → t.plain = false
noncomputable def IsSet (P : Params) (o : Obj) (l : List Str) : Prop :=
  ∃ es n t, o = { cls := .type "set", data := .set es n t } ∧ SetData P es t l

noncomputable def Fz (o : Obj) : Prop := match o.data with
  | .seq .. => True
  | .set .. => True
  | .plain => True
  | .fields _ => o.cls = .type "range"
  | _ => False

mutual
inductive RepV (h : Heap) (D : List Addr) : Value → AV → Prop
  | none : RepV h D .none .none
  | bool (b) : RepV h D (.bool b) (.bool b)
  | int (i t) : RepV h D (.int i t) (.int i)
  | str (x t) : RepV h D (.str x t) (.str x)
  | bytes (b t) : RepV h D (.bytes b t) (.bytes b)
  | raw (v) : RepV h D v (.raw v)
  | tup {a vs n ds} : h.get? a = some ({ cls := .type "tuple", data := .seq vs.toArray n } : Obj) → a ∉ D → RepL h D vs ds → RepV h D (.ref a) (.tup ds)
  | lst {a vs n ds} : h.get? a = some (listOf vs.toArray n) → a ∉ D → RepL h D vs ds → RepV h D (.ref a) (.lst ds)
  | sset {a o P l} : h.get? a = some o → a ∉ D → IsSet P o l → RepV h D (.ref a) (.sset P l)
  | inst {a C d} : h.get? a = some (instObj C d) → a ∉ D → RepV h D (.ref a) (.inst C d)
  | rng {r a b t u v} : IsRange h r a b 1 t u v → r ∉ D → RepV h D (.ref r) (.rng a b)
inductive RepL (h : Heap) (D : List Addr) : List Value → List AV → Prop
  | nil : RepL h D [] []
  | cons {v vs d ds} : RepV h D v d → RepL h D vs ds → RepL h D (v :: vs) (d :: ds)
end

theorem RepV.intI {h : Heap} {D : List Addr} {v : Value} {i : Int} (r : RepV h D v (.int i)) : ∃ t, v = .int i t := by cases r; exact ⟨_, rfl⟩
theorem RepV.strI {h : Heap} {D : List Addr} {v : Value} {i : Str} (r : RepV h D v (.str i)) : ∃ t, v = .str i t := by cases r; exact ⟨_, rfl⟩
theorem RepV.noneI {h : Heap} {D : List Addr} {v : Value} (r : RepV h D v .none) : v = .none := by cases r; rfl
theorem RepV.boolI {h : Heap} {D : List Addr} {v : Value} {b : Bool} (r : RepV h D v (.bool b)) : v = .bool b := by cases r; rfl
theorem RepV.rawI {h : Heap} {D : List Addr} {v u : Value} (r : RepV h D v (.raw u)) : v = u := by cases r; rfl
theorem RepV.tupI {h : Heap} {D : List Addr} {v : Value} {ds : List AV} (r : RepV h D v (.tup ds)) : ∃ a vs n, v = .ref a ∧ h.get? a = some ({ cls := .type "tuple", data := .seq vs.toArray n } : Obj) ∧ a ∉ D ∧ RepL h D vs ds := by cases r with | tup a b c => exact ⟨_, _, _, rfl, a, b, c⟩
theorem RepL.nilI {h : Heap} {D : List Addr} {vs : List Value} (r : RepL h D vs []) : vs = [] := by cases r; rfl
theorem RepL.consI {h : Heap} {D : List Addr} {vs : List Value} {d : AV} {ds : List AV} (r : RepL h D vs (d :: ds)) : ∃ v us, vs = v :: us ∧ RepV h D v d ∧ RepL h D us ds := by cases r with | cons a b => exact ⟨_, _, rfl, a, b⟩
theorem RepL.oneI {h : Heap} {D : List Addr} {vs : List Value} {d : AV} (r : RepL h D vs [d]) : ∃ v, vs = [v] ∧ RepV h D v d := by obtain ⟨v, us, rfl, rv, rr⟩ := r.consI; obtain rfl := rr.nilI; exact ⟨v, rfl, rv⟩
theorem RepL.twoI {h : Heap} {D : List Addr} {vs : List Value} {d e : AV} (r : RepL h D vs [d, e]) : ∃ v u, vs = [v, u] ∧ RepV h D v d ∧ RepV h D u e := by obtain ⟨v, us, rfl, rv, rr⟩ := r.consI; obtain ⟨u, rfl, ru⟩ := rr.oneI; exact ⟨v, u, rfl, rv, ru⟩

noncomputable def KeepsF (h : Heap) (D : List Addr) (h' : Heap) (D' : List Addr) : Prop :=
  ∀ b o, h.get? b = some o → b ∉ D → Fz o → h'.get? b = some o ∧ b ∉ D'

mutual
theorem RepV.keep {h h' : Heap} {D D' : List Addr} (k : KeepsF h D h' D') : ∀ {v : Value} {d : AV}, RepV h D v d → RepV h' D' v d
  | _, _, .none => .none
  | _, _, .bool b => .bool b
  | _, _, .int i t => .int i t
  | _, _, .str x t => .str x t
  | _, _, .bytes b t => .bytes b t
  | _, _, .raw v => .raw v
  | _, _, .tup e n r => .tup (k _ _ e n trivial).1 (k _ _ e n trivial).2 (RepL.keep k r)
  | _, _, .lst e n r => .lst (k _ _ e n trivial).1 (k _ _ e n trivial).2 (RepL.keep k r)
  | _, _, .sset e n r => .sset (k _ _ e n (by obtain ⟨es, n, t, rfl, _⟩ := r; trivial)).1 (k _ _ e n (by obtain ⟨es, n, t, rfl, _⟩ := r; trivial)).2 r
  | _, _, .inst e n => .inst (k _ _ e n trivial).1 (k _ _ e n trivial).2
  | _, _, .rng e n => .rng (k _ _ e n rfl).1 (k _ _ e n rfl).2
theorem RepL.keep {h h' : Heap} {D D' : List Addr} (k : KeepsF h D h' D') : ∀ {vs : List Value} {ds : List AV}, RepL h D vs ds → RepL h' D' vs ds
  | _, _, .nil => .nil
  | _, _, .cons x r => .cons (RepV.keep k x) (RepL.keep k r)
end

theorem RepL.length {h : Heap} {D : List Addr} : ∀ {vs : List Value} {ds : List AV}, RepL h D vs ds → vs.length = ds.length
  | _, _, .nil => rfl
  | _, _, .cons _ r => by rw [List.length_cons, List.length_cons, RepL.length r]
theorem RepL.get {h : Heap} {D : List Addr} : ∀ {vs : List Value} {ds : List AV} {k : Nat} {d : AV}, RepL h D vs ds → ds[k]? = some d → ∃ v, vs[k]? = some v ∧ RepV h D v d
  | _, _, 0, _, .cons x _, e => by cases e; exact ⟨_, rfl, x⟩
  | _, _, k + 1, _, .cons _ r, e => by
    obtain ⟨v, h1, h2⟩ := RepL.get (k := k) r (by simpa using e)
    exact ⟨v, by simpa using h1, h2⟩
theorem RepL.getV {h : Heap} {D : List Addr} : ∀ {vs : List Value} {ds : List AV} {k : Nat} {v : Value}, RepL h D vs ds → vs[k]? = some v → ∃ d, ds[k]? = some d ∧ RepV h D v d
  | _, _, 0, _, .cons x _, e => by cases e; exact ⟨_, rfl, x⟩
  | _, _, k + 1, _, .cons _ r, e => by
    obtain ⟨v, h1, h2⟩ := RepL.getV (k := k) r (by simpa using e)
    exact ⟨v, by simpa using h1, h2⟩
theorem RepL.append {h : Heap} {D : List Addr} : ∀ {vs ws : List Value} {ds es : List AV}, RepL h D vs ds → RepL h D ws es → RepL h D (vs ++ ws) (ds ++ es)
  | _, _, _, _, .nil, k => k
  | _, _, _, _, .cons x r, k => .cons x (RepL.append r k)
theorem RepL.set {h : Heap} {D : List Addr} {v : Value} {d : AV} (x : RepV h D v d) : ∀ {vs : List Value} {ds : List AV} (k : Nat), RepL h D vs ds → RepL h D (vs.set k v) (ds.set k d)
  | _, _, _, .nil => by simpa using RepL.nil
  | _, _, 0, .cons _ r => .cons x r
  | _, _, k + 1, .cons y r => .cons y (RepL.set x k r)
theorem RepL.take {h : Heap} {D : List Addr} : ∀ (k : Nat) {vs : List Value} {ds : List AV}, RepL h D vs ds → RepL h D (vs.take k) (ds.take k)
  | 0, _, _, _ => by simpa using RepL.nil
  | k + 1, _, _, .nil => by simpa using RepL.nil
  | k + 1, _, _, .cons x r => .cons x (RepL.take k r)
theorem RepL.reverse {h : Heap} {D : List Addr} : ∀ {vs : List Value} {ds : List AV}, RepL h D vs ds → RepL h D vs.reverse ds.reverse
  | _, _, .nil => .nil
  | _, _, .cons x r => by rw [List.reverse_cons, List.reverse_cons]; exact (RepL.reverse r).append (.cons x .nil)

inductive RepE (P : Params) (h : Heap) (D : List Addr) : List DictEntry → List (Str × AV) → Prop
  | nil : RepE P h D [] []
  | cons {x tk v d es l} : RepV h D v d → RepE P h D es l → RepE P h D (⟨PyData.keyHash P x, .str x tk, v⟩ :: es) ((x, d) :: l)
theorem RepE.keep {P : Params} {h h' : Heap} {D D' : List Addr} (k : KeepsF h D h' D') : ∀ {es : List DictEntry} {l : List (Str × AV)}, RepE P h D es l → RepE P h' D' es l
  | _, _, .nil => .nil
  | _, _, .cons x r => .cons (x.keep k) (RepE.keep k r)

noncomputable def RepO (P : Params) (h : Heap) (D : List Addr) (a : Addr) : AO → Prop
  | .lst xs => ∃ vs n, h.get? a = some (listOf vs.toArray n) ∧ RepL h D vs xs
  | .dct l => ∃ es n, h.get? a = some (dictOf es n) ∧ (l.map (·.1)).Nodup ∧ RepE P h D es l

structure SI (P : Params) (hB : Heap) (σ : Store) (h : Heap) : Prop where
  base : ∀ b o, hB.get? b = some o → h.get? b = some o
  nodup : (dom σ).Nodup
  rep : ∀ p ∈ σ, RepO P h (dom σ) p.1 p.2
  new : ∀ p ∈ σ, hB.get? p.1 = none

structure Ext (B : List Addr) (h : Heap) (D : List Addr) (h' : Heap) (D' : List Addr) : Prop where
  there : ∀ b o, h.get? b = some o → ∃ o', h'.get? b = some o'
  keep : ∀ b o, h.get? b = some o → b ∉ D → b ∉ B → h'.get? b = some o ∧ b ∉ D'

theorem Ext.refl {h : Heap} {D : List Addr} {B : List Addr} : Ext B h D h D := ⟨fun _ o e => ⟨o, e⟩, fun _ _ e n _ => ⟨e, n⟩⟩
theorem Ext.trans {B : List Addr} {h h' h'' : Heap} {D D' D'' : List Addr} (x : Ext B h D h' D') (y : Ext B h' D' h'' D'') : Ext B h D h'' D'' :=
  ⟨fun b o e => let ⟨o', e'⟩ := x.there b o e; y.there b o' e', fun b o e n nb => let ⟨e', n'⟩ := x.keep b o e n nb; y.keep b o e' n' nb⟩
theorem Ext.weak {B B' : List Addr} {h h' : Heap} {D D' : List Addr} (x : Ext B h D h' D') (hb : ∀ b ∈ B, ∀ o, h.get? b = some o → b ∈ B') : Ext B' h D h' D' :=
  ⟨x.there, fun b o e n nb => x.keep b o e n fun q => nb (hb b q o e)⟩
theorem Ext.keepsF {h h' : Heap} {D D' : List Addr} (x : Ext [] h D h' D') : KeepsF h D h' D' := fun b o e n _ => x.keep b o e n (by simp)

noncomputable def fa (env : Env) : List Addr := env.locals :: env.cells.map (·.2)
structure FI (hB : Heap) (h : Heap) (D : List Addr) (env : Env) (ℓ : Loc) : Prop where
  new : ∀ b ∈ fa env, hB.get? b = none
  kind : env.scope.kind = .function
  glob : env.globals = mainGlobals
  blt : env.builtins = builtinsNs
  off : ∀ b ∈ fa env, b ∉ D
  ns : ∃ m, h.Ns env.locals m ∧ ∀ x d, env.kindOf x = some .local → ℓ.lookup x = some d → ∃ v, m x = some v ∧ RepV h D v d
  cell : ∀ p ∈ env.cells, ∃ v, h.IsCell p.2 v ∧ ∀ d, (env.kindOf p.1 = some .cell ∨ env.kindOf p.1 = some .free) → ℓ.lookup p.1 = some d → ∃ u, v = some u ∧ RepV h D u d
  has : ∀ x, env.kindOf x = some .cell ∨ env.kindOf x = some .free → (env.cells.lookup x).isSome = true
  inj : env.cells.Pairwise fun x y => x.2 ≠ y.2
  uniq : ∀ p ∈ env.cells, env.cells.lookup p.1 = some p.2

theorem FI.ext {hB h h' : Heap} {D D' : List Addr} {env : Env} {ℓ : Loc} (F : FI hB h D env ℓ) (x : Ext [] h D h' D') : FI hB h' D' env ℓ where
  new := F.new
  kind := F.kind
  glob := F.glob
  blt := F.blt
  off := by
    intro b hb
    have hD := F.off b hb
    rcases List.mem_cons.mp hb with rfl | hb'
    · obtain ⟨m, ⟨o, es, ep, ho, _⟩, _⟩ := F.ns
      exact (x.keep _ _ ho hD (by simp)).2
    · obtain ⟨p, hm, rfl⟩ := List.mem_map.mp hb'
      obtain ⟨v, ⟨o, ho, _⟩, _⟩ := F.cell p hm
      exact (x.keep _ _ ho hD (by simp)).2
  ns := by
    obtain ⟨m, hn, hm⟩ := F.ns
    have hL := F.off _ (List.mem_cons_self ..)
    refine ⟨m, hn.at' fun o e => (x.keep _ _ e hL (by simp)).1, fun y d hk hl => ?_⟩
    obtain ⟨v, e, r⟩ := hm y d hk hl
    exact ⟨v, e, r.keep x.keepsF⟩
  cell := by
    intro p hp
    have hc := F.off p.2 (List.mem_cons_of_mem _ (List.mem_map_of_mem hp))
    obtain ⟨v, ⟨o, ho, hd⟩, r⟩ := F.cell p hp
    refine ⟨v, ⟨o, (x.keep _ _ ho hc (by simp)).1, hd⟩, fun d hk hl => ?_⟩
    obtain ⟨u, e, q⟩ := r d hk hl
    exact ⟨u, e, q.keep x.keepsF⟩
  has := F.has
  inj := F.inj
  uniq := F.uniq

structure Gr where
  prog : Program
  w : World
  hB : Heap
  K : Frag

structure Gd (g : Gr) : Prop where
  kin : g.K.In g.hB
  nolimit : g.hB.NoLimit
  nodigits : ∃ mc, g.hB.Ns cStatics mc ∧ mc "sys.int_max_str_digits" = none
  glob : ∀ x v, nsIn g.K mainGlobals x = some (some v) → ∃ mg, g.hB.Ns mainGlobals mg ∧ mg x = some v
  blt : ∀ x v, nsIn g.K mainGlobals x = some none → bootBuiltins x = some v → x ≠ "__name__" → ∃ mg mb, g.hB.Ns mainGlobals mg ∧ mg x = none ∧ g.hB.Ns builtinsNs mb ∧ mb x = some v

noncomputable def Room (n : Nat) (A : Around) : Prop := A.handled = none ∧ A.depth + n < recursionLimit ∧ A.units + 8 * n < cLine

noncomputable abbrev SIg (g : Gr) (σ : Store) (h : Heap) : Prop := SI g.w.params g.hB σ h

structure Post (g : Gr) (B : List Addr) (s : Shared) (σ : Store) (s' : Shared) (σ' : Store) : Prop where
  si : SIg g σ' s'.heap
  ext : Ext B s.heap (dom σ) s'.heap (dom σ')
  gens : s'.gens = s.gens
  os : s'.os = s.os

theorem Post.refl {g : Gr} {B : List Addr} {s : Shared} {σ : Store} (h : SIg g σ s.heap) : Post g B s σ s σ := ⟨h, .refl, rfl, rfl⟩
theorem Post.trans {g : Gr} {B : List Addr} {s s' s'' : Shared} {σ σ' σ'' : Store} (x : Post g B s σ s' σ') (y : Post g B s' σ' s'' σ'') : Post g B s σ s'' σ'' :=
  ⟨y.si, x.ext.trans y.ext, y.gens.trans x.gens, y.os.trans x.os⟩
theorem Post.keepsF {g : Gr} {s s' : Shared} {σ σ' : Store} (x : Post g [] s σ s' σ') : KeepsF s.heap (dom σ) s'.heap (dom σ') := x.ext.keepsF
theorem Post.tok {g : Gr} {B : List Addr} {s : Shared} {σ : Store} (h : SIg g σ s.heap) (t : Nat) : Post g B s σ { s with toks := t } σ := ⟨h, .refl, rfl, rfl⟩

inductive RV (g : Gr) (s : Shared) (σ : Store) (Q : AV → Store → Prop) (v : Value) (s' : Shared) : Prop
  | mk (d : AV) (σ' : Store) (q : Q d σ') (r : RepV s'.heap (dom σ') v d) (p : Post g [] s σ s' σ')
inductive RB (g : Gr) (s : Shared) (σ : Store) (Q : Bool → Store → Prop) (b : Bool) (s' : Shared) : Prop
  | mk (σ' : Store) (q : Q b σ') (p : Post g [] s σ s' σ')
inductive RLs (g : Gr) (s : Shared) (σ : Store) (Q : List AV → Store → Prop) (vs : List Value) (s' : Shared) : Prop
  | mk (ds : List AV) (σ' : Store) (q : Q ds σ') (r : RepL s'.heap (dom σ') vs ds) (p : Post g [] s σ s' σ')

noncomputable def TR (g : Gr) (A : Around) (t : Sem Value) (s : Shared) (σ : Store) (Q : AV → Store → Prop) : Prop :=
  wpAny (model g.prog g.w) A t (fun v s' => RV g s σ Q v s') (fun _ _ => False) s
noncomputable def TB (g : Gr) (A : Around) (t : Sem Bool) (s : Shared) (σ : Store) (Q : Bool → Store → Prop) : Prop :=
  wpAny (model g.prog g.w) A t (fun b s' => RB g s σ Q b s') (fun _ _ => False) s
noncomputable def TL (g : Gr) (A : Around) (t : Sem (List Value)) (s : Shared) (σ : Store) (Q : List AV → Store → Prop) : Prop :=
  wpAny (model g.prog g.w) A t (fun vs s' => RLs g s σ Q vs s') (fun _ _ => False) s

noncomputable def EV (g : Gr) (n : Nat) (env : Env) (e : Expr) (ℓ : Loc) (σ : Store) (Q : AV → Store → Prop) : Prop :=
  ∀ A s, Room n A → SIg g σ s.heap → FI g.hB s.heap (dom σ) env ℓ → TR g A (eval e env) s σ Q
noncomputable def EB (g : Gr) (n : Nat) (env : Env) (e : Expr) (ℓ : Loc) (σ : Store) (Q : Bool → Store → Prop) : Prop :=
  ∀ A s, Room n A → SIg g σ s.heap → FI g.hB s.heap (dom σ) env ℓ → TB g A (isTrue e env (eval e env)) s σ Q
noncomputable def EL (g : Gr) (n : Nat) (env : Env) (pos : Pos) (es : List Expr) (ℓ : Loc) (σ : Store) (Q : List AV → Store → Prop) : Prop :=
  ∀ A s, Room n A → SIg g σ s.heap → FI g.hB s.heap (dom σ) env ℓ → TL g A (spliced (backTo pos (starEach es env))) s σ Q

noncomputable def BinOk (g : Gr) (n : Nat) (op : Operator) (a b : AV) (σ : Store) (Q : AV → Store → Prop) : Prop :=
  ∀ A s va vb, Room n A → SIg g σ s.heap → RepV s.heap (dom σ) va a → RepV s.heap (dom σ) vb b → TR g A (binaryOp op va vb) s σ Q
noncomputable def CmpOk (g : Gr) (n : Nat) (op : CmpOp) (a b : AV) (σ : Store) (Q : AV → Store → Prop) : Prop :=
  ∀ A s va vb, Room n A → SIg g σ s.heap → RepV s.heap (dom σ) va a → RepV s.heap (dom σ) vb b → TR g A (compareOp op va vb) s σ Q
noncomputable def TruOk (g : Gr) (n : Nat) (a : AV) (σ : Store) (Q : Bool → Store → Prop) : Prop :=
  ∀ A s va, Room n A → SIg g σ s.heap → RepV s.heap (dom σ) va a → TB g A (truthy va) s σ Q

section
variable {g : Gr} {A : Around} {s s₀ : Shared} {σ σ₀ : Store} {n : Nat} {env : Env} {ℓ : Loc}

theorem TR.mono {t : Sem Value} {Q Q' : AV → Store → Prop} (h : TR g A t s σ Q) (hq : ∀ d σ', Q d σ' → Q' d σ') : TR g A t s σ Q' :=
  wpAny_mono h (fun _ _ ⟨d, σ', q, r, p⟩ => ⟨d, σ', hq _ _ q, r, p⟩) fun _ _ f => f
theorem EV.mono {e : Expr} {Q Q' : AV → Store → Prop} (h : EV g n env e ℓ σ Q) (hq : ∀ d σ', Q d σ' → Q' d σ') : EV g n env e ℓ σ Q' := fun A s r i f => (h A s r i f).mono hq
theorem TR.of_post {t : Sem Value} {Q : AV → Store → Prop} (p : Post g [] s₀ σ₀ s σ) (h : TR g A t s σ Q) :
    wpAny (model g.prog g.w) A t (fun v s' => RV g s₀ σ₀ Q v s') (fun _ _ => False) s :=
  wpAny_mono h (fun _ _ ⟨d, σ', q, r, p'⟩ => ⟨d, σ', q, r, p.trans p'⟩) fun _ _ f => f
theorem TB.of_post {t : Sem Bool} {Q : Bool → Store → Prop} (p : Post g [] s₀ σ₀ s σ) (h : TB g A t s σ Q) :
    wpAny (model g.prog g.w) A t (fun b s' => RB g s₀ σ₀ Q b s') (fun _ _ => False) s :=
  wpAny_mono h (fun _ _ ⟨σ', q, p'⟩ => ⟨σ', q, p.trans p'⟩) fun _ _ f => f

theorem EV_binop {l r : Expr} {op : Operator} {pos : Pos} {Q : AV → Store → Prop}
    (h : EV g n env l ℓ σ fun a σ₁ => EV g n env r ℓ σ₁ fun b σ₂ => BinOk g n op a b σ₂ Q) : EV g n env (.BinOp l op r pos) ℓ σ Q := by
  intro A s hr hs hf
  refine wpAny_BinOp (wpAny_mono (h A s hr hs hf) ?_ fun _ _ f => f)
  rintro va s₁ ⟨a, σ₁, h₁, ra, p₁⟩
  refine wpAny_mono (h₁ A s₁ hr p₁.si (hf.ext p₁.ext)) ?_ fun _ _ f => f
  rintro vb s₂ ⟨b, σ₂, h₂, rb, p₂⟩
  exact (h₂ A s₂ va vb hr p₂.si (ra.keep p₂.keepsF) rb).of_post (p₁.trans p₂)
theorem EV_cmp {l r : Expr} {op : CmpOp} {pos : Pos} {Q : AV → Store → Prop} 
    (h : EV g n env l ℓ σ fun a σ₁ => EV g n env r ℓ σ₁ fun b σ₂ => CmpOk g n op a b σ₂ Q) (hm : behindInMarks op r = false := by with_unfolding_all rfl) : EV g n env (.Compare l [op] [r] pos) ℓ σ Q := by
  intro A s hr hs hf
  refine wpAny_Compare1 (wpAny_mono (h A s hr hs hf) ?_ fun _ _ f => f) hm
  rintro va s₁ ⟨a, σ₁, h₁, ra, p₁⟩
  refine wpAny_mono (h₁ A s₁ hr p₁.si (hf.ext p₁.ext)) ?_ fun _ _ f => f
  rintro vb s₂ ⟨b, σ₂, h₂, rb, p₂⟩
  exact (h₂ A s₂ va vb hr p₂.si (ra.keep p₂.keepsF) rb).of_post (p₁.trans p₂)
theorem EB_cmp {l r : Expr} {op : CmpOp} {pos : Pos} {Q : Bool → Store → Prop} 
    (h : EV g n env l ℓ σ fun a σ₁ => EV g n env r ℓ σ₁ fun b σ₂ => CmpOk g n op a b σ₂ fun c σ₃ => TruOk g n c σ₃ Q) (hm : behindInMarks op r = false := by with_unfolding_all rfl) : EB g n env (.Compare l [op] [r] pos) ℓ σ Q := by
  intro A s hr hs hf
  refine wpAny_isTrue_Compare1 (wpAny_mono (h A s hr hs hf) ?_ fun _ _ f => f) hm
  rintro va s₁ ⟨a, σ₁, h₁, ra, p₁⟩
  refine wpAny_mono (h₁ A s₁ hr p₁.si (hf.ext p₁.ext)) ?_ fun _ _ f => f
  rintro vb s₂ ⟨b, σ₂, h₂, rb, p₂⟩
  refine wpAny_mono (h₂ A s₂ va vb hr p₂.si (ra.keep p₂.keepsF) rb) ?_ fun _ _ f => f
  rintro vc s₃ ⟨c, σ₃, h₃, rc, p₃⟩
  exact (h₃ A s₃ vc hr p₃.si rc).of_post ((p₁.trans p₂).trans p₃)
theorem EB_not {e : Expr} {pos : Pos} {Q : Bool → Store → Prop} (h : EB g n env e ℓ σ fun b σ' => Q (!b) σ') : EB g n env (.UnaryOp .Not e pos) ℓ σ Q := by
  intro A s hr hs hf
  exact wpAny_isTrue_Not (wpAny_mono (h A s hr hs hf) (fun b s' ⟨σ', q, p⟩ => ⟨σ', q, p⟩) fun _ _ f => f)
theorem TruOk_bool {b : Bool} {Q : Bool → Store → Prop} (h : Q b σ) : TruOk g n (.bool b) σ Q := by
  intro A s va hr hs rv
  obtain rfl := rv.boolI
  exact wpAny_truthy_bool ⟨σ, h, .refl hs⟩
theorem EV_int {i : Int} {k : Nat} {pos : Pos} {Q : AV → Store → Prop} (h : Q (.int i) σ) : EV g n env (.Constant (.int i) k pos) ℓ σ Q :=
  fun _ s _ hs _ => wpAny_Constant_int ⟨_, σ, h, .int _ _, .tok hs _⟩
theorem EV_str {x : Str} {k : Nat} {pos : Pos} {Q : AV → Store → Prop} (h : Q (.str x) σ) : EV g n env (.Constant (.str x) k pos) ℓ σ Q :=
  fun _ s _ hs _ => wpAny_Constant_str ⟨_, σ, h, .str _ _, .tok hs _⟩
theorem EV_none {k : Nat} {pos : Pos} {Q : AV → Store → Prop} (h : Q .none σ) : EV g n env (.Constant .none k pos) ℓ σ Q :=
  fun _ s _ hs _ => wpAny_Constant_none ⟨_, σ, h, .none, .refl hs⟩
theorem EV_bool {b : Bool} {k : Nat} {pos : Pos} {Q : AV → Store → Prop} (h : Q (.bool b) σ) : EV g n env (.Constant (.bool b) k pos) ℓ σ Q :=
  fun _ s _ hs _ => wpAny_Constant_bool ⟨_, σ, h, .bool _, .refl hs⟩

theorem EV_name {x : Str} {pos : Pos} {d : AV} {Q : AV → Store → Prop} (hl : ℓ.lookup x = some d) (hk : env.kindOf x = some .local) (h : Q d σ) (hd : (x == ("__debug__" : Str)) = false := by decide) :
    EV g n env (.Name x pos) ℓ σ Q := by
  intro A s hr hs hf
  obtain ⟨m, hn, hm⟩ := hf.ns
  obtain ⟨v, e, r⟩ := hm x d hk hl
  exact wpAny_Name (wpAny_loadName_local hf.kind hk hn e ⟨d, σ, h, r, .refl hs⟩) hd
theorem EV_cell {x : Str} {pos : Pos} {d : AV} {Q : AV → Store → Prop} (hl : ℓ.lookup x = some d) (hk : env.kindOf x = some .cell) (h : Q d σ) (hd : (x == ("__debug__" : Str)) = false := by decide) :
    EV g n env (.Name x pos) ℓ σ Q := by
  intro A s hr hs hf
  obtain ⟨c, hc⟩ := Option.isSome_iff_exists.mp (hf.has x (.inl hk))
  obtain ⟨v, hv, r⟩ := hf.cell _ (mem_of_lookup hc)
  obtain ⟨u, rfl, ru⟩ := r d (.inl hk) hl
  exact wpAny_Name (wpAny_loadName_cell hf.kind hk hc hv ⟨d, σ, h, ru, .refl hs⟩) hd
theorem EV_globalV (G : Gd g) {x : Str} {pos : Pos} {v : Value} {d : AV} {Q : AV → Store → Prop} (e : nsIn g.K mainGlobals x = some (some v)) (hv : ∀ h D, RepV h D v d) (hk : env.kindOf x = some .globalImplicit) (hq : Q d σ)
    (hd : (x == ("__debug__" : Str)) = false := by decide) : EV g n env (.Name x pos) ℓ σ Q := by
  intro A s hr hs hf
  obtain ⟨mg, h1, h2⟩ := G.glob x v e
  refine Name_function_global hf.kind hk (loadGlobal_global (mg := mg) (by rw [hf.glob]; exact h1.keeps hs.base) h2 ⟨_, σ, hq, hv _ _, .refl hs⟩) hd
theorem EV_global (G : Gd g) {x : Str} {pos : Pos} {v : Value} {Q : AV → Store → Prop} (e : nsIn g.K mainGlobals x = some (some v)) (hk : env.kindOf x = some .globalImplicit) (hq : Q (.raw v) σ)
    (hd : (x == ("__debug__" : Str)) = false := by decide) : EV g n env (.Name x pos) ℓ σ Q := EV_globalV G e (fun _ _ => .raw _) hk hq hd
theorem EV_builtin (G : Gd g) {x : Str} {pos : Pos} {v : Value} {Q : AV → Store → Prop} (e : nsIn g.K mainGlobals x = some none) (hb : bootBuiltins x = some v) (hx : x ≠ "__name__") (hk : env.kindOf x = some .globalImplicit) (hq : Q (.raw v) σ)
    (hd : (x == ("__debug__" : Str)) = false := by decide) : EV g n env (.Name x pos) ℓ σ Q := by
  intro A s hr hs hf
  obtain ⟨mg, mb, h1, h2, h3, h4⟩ := G.blt x v e hb hx
  refine Name_function_global hf.kind hk (loadGlobal_builtin (mg := mg) (mb := mb) (by rw [hf.glob]; exact h1.keeps hs.base) h2 (by rw [hf.blt]; exact h3.keeps hs.base) h4 ⟨_, σ, hq, .raw _, .refl hs⟩) hd
end

inductive AF where
  | next
  | brk
  | cont
  | ret (d : AV)
inductive RepF (h : Heap) (D : List Addr) : Flow → AF → Prop
  | next : RepF h D .next .next
  | brk : RepF h D .brk .brk
  | cont : RepF h D .cont .cont
  | ret {v d} : RepV h D v d → RepF h D (.ret v) (.ret d)

inductive RX (g : Gr) (env : Env) (s : Shared) (σ : Store) (Q : AF → Loc → Store → Prop) (f : Flow) (s' : Shared) : Prop
  | mk (r : AF) (ℓ' : Loc) (σ' : Store) (q : Q r ℓ' σ') (rf : RepF s'.heap (dom σ') f r) (fi : FI g.hB s'.heap (dom σ') env ℓ') (p : Post g (fa env) s σ s' σ')
noncomputable def XR (g : Gr) (A : Around) (env : Env) (t : Sem Flow) (s : Shared) (σ : Store) (Q : AF → Loc → Store → Prop) : Prop :=
  wpAny (model g.prog g.w) A t (fun f s' => RX g env s σ Q f s') (fun _ _ => False) s
noncomputable def ES (g : Gr) (n : Nat) (env : Env) (st : Stmt) (ℓ : Loc) (σ : Store) (Q : AF → Loc → Store → Prop) : Prop :=
  ∀ A s, Room n A → SIg g σ s.heap → FI g.hB s.heap (dom σ) env ℓ → XR g A env (exec st env) s σ Q
noncomputable def EX (g : Gr) (n : Nat) (env : Env) (ss : List Stmt) (ℓ : Loc) (σ : Store) (Q : AF → Loc → Store → Prop) : Prop :=
  ∀ A s, Room n A → SIg g σ s.heap → FI g.hB s.heap (dom σ) env ℓ → XR g A env (execs ss env) s σ Q
noncomputable def thn (g : Gr) (n : Nat) (env : Env) (rest : List Stmt) (Q : AF → Loc → Store → Prop) : AF → Loc → Store → Prop
  | .next, ℓ, σ => EX g n env rest ℓ σ Q
  | r, ℓ, σ => Q r ℓ σ

noncomputable def Sub : Loc → Loc → Prop
  | [], _ => True
  | p :: r, ℓ => ℓ.lookup p.1 = some p.2 ∧ Sub r ℓ
theorem Sub.get {ℓ : Loc} : ∀ {ℓ' : Loc}, Sub ℓ' ℓ → ∀ {x d}, ℓ'.lookup x = some d → ℓ.lookup x = some d
  | [], _, _, _, h => by simp at h
  | (y, d') :: r, s, x, d, h => by
    rw [List.lookup_cons] at h
    cases hb : x == y with
    | true => rw [hb] at h; cases h; rw [beq_iff_eq.mp hb]; exact s.1
    | false => rw [hb] at h; exact Sub.get s.2 h

theorem FI.sub {hB h : Heap} {D : List Addr} {env : Env} {ℓ ℓ' : Loc} (F : FI hB h D env ℓ) (x : Sub ℓ' ℓ) : FI hB h D env ℓ' :=
  ⟨F.new, F.kind, F.glob, F.blt, F.off, let ⟨m, a, b⟩ := F.ns; ⟨m, a, fun y d hk hl => b y d hk (x.get hl)⟩, fun p hp => let ⟨v, a, b⟩ := F.cell p hp; ⟨v, a, fun d hk hl => b d hk (x.get hl)⟩, F.has, F.inj, F.uniq⟩

theorem keepsF_ns {h h' : Heap} {L : Addr} {m : Str → Option Value} {D : List Addr} (hn : h.Ns L m) (hs : Heap.SameBut L h h') : KeepsF h D h' D := by
  intro b o e n f
  refine ⟨(hs.2 b ?_).trans e, n⟩
  rintro rfl
  obtain ⟨o', es, ep, ho, hd, _⟩ := hn
  rw [e] at ho; cases ho
  unfold Fz at f; rw [hd] at f; exact f
theorem keepsF_cell {h h' : Heap} {L : Addr} {v : Option Value} {D : List Addr} (hn : h.IsCell L v) (hs : Heap.SameBut L h h') : KeepsF h D h' D := by
  intro b o e n f
  refine ⟨(hs.2 b ?_).trans e, n⟩
  rintro rfl
  obtain ⟨o', ho, hd⟩ := hn
  rw [e] at ho; cases ho
  unfold Fz at f; rw [hd] at f; exact f

theorem sameBut_there {h h' : Heap} {L : Addr} (hs : Heap.SameBut L h h') (hL : ∃ o, h'.get? L = some o) : ∀ b o, h.get? b = some o → ∃ o', h'.get? b = some o' := by
  intro b o e
  by_cases hb : b = L
  · subst hb; exact hL
  · exact ⟨o, (hs.2 b hb).trans e⟩
theorem RepO.keep {P : Params} {h h' : Heap} {D D' : List Addr} {a : Addr} {o : AO} (k : KeepsF h D h' D') (e : h'.get? a = h.get? a) (r : RepO P h D a o) : RepO P h' D' a o := by
  cases o with
  | lst xs => obtain ⟨vs, n, q, z⟩ := r; exact ⟨vs, n, e.trans q, z.keep k⟩
  | dct l => obtain ⟨vs, n, q, nd, z⟩ := r; exact ⟨vs, n, e.trans q, nd, z.keep k⟩

theorem SI.sameBut {P : Params} {hB h h' : Heap} {σ : Store} {L : Addr} (x : SI P hB σ h) (hs : Heap.SameBut L h h') (hL : L ∉ dom σ) (hN : hB.get? L = none) (k : KeepsF h (dom σ) h' (dom σ)) : SI P hB σ h' where
  base := fun b o e => (hs.2 b (fun q => by rw [q, hN] at e; cases e)).trans (x.base b o e)
  nodup := x.nodup
  rep := fun p hp => (x.rep p hp).keep k (hs.2 _ fun q => hL (q ▸ List.mem_map_of_mem hp))
  new := x.new

section
variable {g : Gr} {A : Around} {s s₀ : Shared} {σ σ₀ : Store} {n : Nat} {env : Env} {ℓ : Loc}

theorem store_ok {x : Str} {v : Value} {d : AV} {Q : Unit → Shared → Prop} (hs : SIg g σ s.heap) (hf : FI g.hB s.heap (dom σ) env ℓ) (hk : env.kindOf x = some .local ∨ env.kindOf x = some .cell) (rv : RepV s.heap (dom σ) v d)
    (h : ∀ s', FI g.hB s'.heap (dom σ) env ((x, d) :: ℓ) → Post g (fa env) s σ s' σ → Q () s') : wpAny (model g.prog g.w) A (storeName env x v) Q (fun _ _ => False) s := by
  rcases hk with hk | hk
  · obtain ⟨m, hn, hm⟩ := hf.ns
    have hL := hf.off _ (List.mem_cons_self ..)
    refine wpAny_storeName_local hk hn (fun h' hn' hsb => h _ ?_ ?_) (by rw [hf.kind]; rfl)
    · have k := keepsF_ns (D := dom σ) hn hsb
      refine ⟨hf.new, hf.kind, hf.glob, hf.blt, hf.off, ⟨_, hn', fun y d' hky hl => ?_⟩, fun p hp => ?_, hf.has, hf.inj, hf.uniq⟩
      · rw [List.lookup_cons] at hl
        by_cases hyx : y = x
        · subst hyx
          rw [show (y == y) = true from beq_self_eq_true y] at hl
          cases hl
          exact ⟨v, if_pos rfl, rv.keep k⟩
        · rw [show (y == x) = false from beq_eq_false_iff_ne.mpr hyx] at hl
          obtain ⟨v', e, r⟩ := hm y d' hky hl
          exact ⟨v', (if_neg hyx).trans e, r.keep k⟩
      · obtain ⟨v', hc, r⟩ := hf.cell p hp
        have hne : p.2 ≠ env.locals := fun q => by
          obtain ⟨o, ho, hd⟩ := hc
          obtain ⟨o', es, ep, ho', hd', _⟩ := hn
          rw [q, ho'] at ho; cases ho; rw [hd'] at hd; cases hd
        refine ⟨v', hc.sameBut hsb hne, fun d' hkp hl => ?_⟩
        rw [List.lookup_cons] at hl
        have hpx : p.1 ≠ x := fun q => by rw [q, hk] at hkp; rcases hkp with e | e <;> cases e
        rw [show (p.1 == x) = false from beq_eq_false_iff_ne.mpr hpx] at hl
        obtain ⟨u, e, q⟩ := r d' hkp hl
        exact ⟨u, e, q.keep k⟩
    · refine ⟨SI.sameBut hs hsb hL (hf.new _ (List.mem_cons_self ..)) (keepsF_ns hn hsb), ⟨sameBut_there hsb (let ⟨o, _, _, e, _⟩ := hn'; ⟨o, e⟩), fun b o e nD nB => ⟨(hsb.2 b fun q => nB (q ▸ List.mem_cons_self ..)).trans e, nD⟩⟩, rfl, rfl⟩
  · obtain ⟨c, hc⟩ := Option.isSome_iff_exists.mp (hf.has x (.inl hk))
    have hm := mem_of_lookup hc
    obtain ⟨v₀, hv₀, r₀⟩ := hf.cell _ hm
    have hcf : c ∈ fa env := List.mem_cons_of_mem _ (List.mem_map_of_mem (f := (·.2)) hm)
    have hL := hf.off _ hcf
    refine wpAny_storeName_cell hf.kind hk hc hv₀ fun h' hc' hsb => h _ ?_ ?_
    · have k := keepsF_cell (D := dom σ) hv₀ hsb
      obtain ⟨m, hn, hmm⟩ := hf.ns
      have hne : env.locals ≠ c := fun q => by
        obtain ⟨o, ho, hd⟩ := hv₀
        obtain ⟨o', es, ep, ho', hd', _⟩ := hn
        change s.heap.get? c = some o at ho
        rw [← q, ho'] at ho; cases ho; rw [hd'] at hd; cases hd
      refine ⟨hf.new, hf.kind, hf.glob, hf.blt, hf.off, ⟨m, hn.sameBut hsb hne, fun y d' hky hl => ?_⟩, fun p hp => ?_, hf.has, hf.inj, hf.uniq⟩
      · rw [List.lookup_cons] at hl
        have hyx : y ≠ x := fun q => by rw [q, hk] at hky; cases hky
        rw [show (y == x) = false from beq_eq_false_iff_ne.mpr hyx] at hl
        obtain ⟨v', e, r⟩ := hmm y d' hky hl
        exact ⟨v', e, r.keep k⟩
      · by_cases hpc : p.2 = c
        · have hpx : p.1 = x := name_of_addr hf.inj (c := c) (by rw [← hpc]; exact hp) hm
          refine ⟨some v, hpc ▸ hc', fun d' hkp hl => ?_⟩
          rw [List.lookup_cons, hpx, show (x == x) = true from beq_self_eq_true x] at hl
          cases hl
          exact ⟨v, rfl, rv.keep k⟩
        · obtain ⟨v', hc', r⟩ := hf.cell p hp
          refine ⟨v', hc'.sameBut hsb hpc, fun d' hkp hl => ?_⟩
          rw [List.lookup_cons] at hl
          by_cases hpx : p.1 = x
          · exact absurd (Option.some.inj ((hf.uniq p hp).symm.trans (hpx ▸ hc))) hpc
          · rw [show (p.1 == x) = false from beq_eq_false_iff_ne.mpr hpx] at hl
            obtain ⟨u, e, q⟩ := r d' hkp hl
            exact ⟨u, e, q.keep k⟩
    · refine ⟨SI.sameBut hs hsb hL (hf.new _ hcf) (keepsF_cell hv₀ hsb), ⟨sameBut_there hsb (let ⟨o, e, _⟩ := hc'; ⟨o, e⟩), fun b o e nD nB => ⟨(hsb.2 b fun q => nB (q ▸ hcf)).trans e, nD⟩⟩, rfl, rfl⟩
end

end Mine

end
/- part Core2 -/
section
open PySem PySem.W PyProof.Rows
set_option Elab.async false
namespace Mine
open PySem PySem.W PyProof.Rows PySem.Calls PySem.Spec

section
variable {g : Gr} {A : Around} {s s₀ : Shared} {σ σ₀ : Store} {n : Nat} {env : Env} {ℓ : Loc}

theorem Post.weak {B B' : List Addr} {s' : Shared} {σ' : Store} (p : Post g B s σ s' σ') (hb : ∀ b ∈ B, ∀ o, s.heap.get? b = some o → b ∈ B') : Post g B' s σ s' σ' := ⟨p.si, p.ext.weak hb, p.gens, p.os⟩
theorem Post.up {B : List Addr} {s' : Shared} {σ' : Store} (p : Post g [] s σ s' σ') : Post g B s σ s' σ' := p.weak (by simp)

theorem fa_kind {hB h : Heap} {D : List Addr} {b : Addr} {o : Obj} (F : FI hB h D env ℓ) (hb : b ∈ fa env) (e : h.get? b = some o) : (∃ es ep, o.data = .dict es ep) ∨ ∃ v, o.data = .cell v := by
  rcases List.mem_cons.mp hb with rfl | hb'
  · obtain ⟨m, ⟨o', es, ep, ho, hd, _⟩, _⟩ := F.ns
    rw [e] at ho; cases ho; exact .inl ⟨es, ep, hd⟩
  · obtain ⟨p, hm, rfl⟩ := List.mem_map.mp hb'
    obtain ⟨v, ⟨o', ho, hd⟩, _⟩ := F.cell p hm
    rw [e] at ho; cases ho; exact .inr ⟨v, hd⟩
theorem fa_not_fz {hB h : Heap} {D : List Addr} {b : Addr} {o : Obj} (F : FI hB h D env ℓ) (e : h.get? b = some o) (f : Fz o) : b ∉ fa env := by
  intro hb
  unfold Fz at f
  rcases fa_kind F hb e with ⟨es, ep, q⟩ | ⟨v, q⟩ <;> rw [q] at f <;> exact f
theorem fa_not_fl {hB h : Heap} {D : List Addr} {b : Addr} {o : Obj} {vs : Array Value} (F : FI hB h D env ℓ) (e : h.get? b = some o) (f : o.data = .fields vs) : b ∉ fa env := by
  intro hb
  rcases fa_kind F hb e with ⟨es, ep, q⟩ | ⟨v, q⟩ <;> rw [q] at f <;> cases f
theorem Post.keepsX {s' : Shared} {σ' : Store} (p : Post g (fa env) s σ s' σ') (F : FI g.hB s.heap (dom σ) env ℓ) : KeepsF s.heap (dom σ) s'.heap (dom σ') :=
  fun b o e nD f => p.ext.keep b o e nD (fa_not_fz F e f)

theorem XR.mono {t : Sem Flow} {Q Q' : AF → Loc → Store → Prop} (h : XR g A env t s σ Q) (hq : ∀ r ℓ' σ', Q r ℓ' σ' → Q' r ℓ' σ') : XR g A env t s σ Q' :=
  wpAny_mono h (fun _ _ ⟨r, ℓ', σ', q, a, b, c⟩ => ⟨r, ℓ', σ', hq _ _ _ q, a, b, c⟩) fun _ _ f => f
theorem ES.mono {st : Stmt} {Q Q' : AF → Loc → Store → Prop} (h : ES g n env st ℓ σ Q) (hq : ∀ r ℓ' σ', Q r ℓ' σ' → Q' r ℓ' σ') : ES g n env st ℓ σ Q' := fun A s r i f => (h A s r i f).mono hq
theorem XR.of_post {t : Sem Flow} {Q : AF → Loc → Store → Prop} (p : Post g (fa env) s₀ σ₀ s σ) (h : XR g A env t s σ Q) :
    wpAny (model g.prog g.w) A t (fun f s' => RX g env s₀ σ₀ Q f s') (fun _ _ => False) s :=
  wpAny_mono h (fun _ _ ⟨r, ℓ', σ', q, a, b, c⟩ => ⟨r, ℓ', σ', q, a, b, p.trans c⟩) fun _ _ f => f

theorem EX_sub {ss : List Stmt} {ℓ' : Loc} {Q : AF → Loc → Store → Prop} (hs : Sub ℓ' ℓ) (h : EX g n env ss ℓ' σ Q) : EX g n env ss ℓ σ Q := fun A s r i f => h A s r i (f.sub hs)
theorem EX_nil {Q : AF → Loc → Store → Prop} (h : Q .next ℓ σ) : EX g n env [] ℓ σ Q := fun _ _ _ hs hf => wpAny_execs_nil ⟨.next, ℓ, σ, h, .next, hf, .refl hs⟩
theorem EX_cons {st : Stmt} {rest : List Stmt} {Q : AF → Loc → Store → Prop} (h : ES g n env st ℓ σ (thn g n env rest Q)) : EX g n env (st :: rest) ℓ σ Q := by
  intro A s hr hs hf
  refine wpAny_execs_cons (wpAny_mono (h A s hr hs hf) ?_ fun _ _ f => f)
  rintro f s' ⟨r, ℓ', σ', q, rf, hf', p⟩
  cases rf with
  | next => exact (q A s' hr p.si hf').of_post p
  | brk => exact ⟨.brk, ℓ', σ', q, .brk, hf', p⟩
  | cont => exact ⟨.cont, ℓ', σ', q, .cont, hf', p⟩
  | ret rv => exact ⟨.ret _, ℓ', σ', q, .ret rv, hf', p⟩

theorem ES_assign {x : Str} {px pos : Pos} {e : Expr} {Q : AF → Loc → Store → Prop} (hk : env.kindOf x = some .local ∨ env.kindOf x = some .cell)
    (h : EV g n env e ℓ σ fun d σ' => Q .next ((x, d) :: ℓ) σ') (hs : swapsWith e (some (.Name x px)) pos.line env = pure false := by rfl) : ES g n env (.Assign [.Name x px] e pos) ℓ σ Q := by
  intro A s hr hi hf
  refine wpAny_Assign_Name (wpAny_mono (h A s hr hi hf) ?_ fun _ _ f => f) hs
  rintro v s₁ ⟨d, σ₁, q, rv, p⟩
  exact store_ok p.si (hf.ext p.ext) hk rv fun s' hf' p' => ⟨.next, _, _, q, .next, hf', p.up.trans p'⟩
theorem ES_ret {pos : Pos} {e : Expr} {Q : AF → Loc → Store → Prop} (h : EV g n env e ℓ σ fun d σ' => Q (.ret d) ℓ σ') : ES g n env (.Return (some e) pos) ℓ σ Q := by
  intro A s hr hi hf
  refine wpAny_Return_some (wpAny_mono (h A s hr hi hf) ?_ fun _ _ f => f)
  rintro v s₁ ⟨d, σ₁, q, rv, p⟩
  exact ⟨_, _, _, q, .ret rv, hf.ext p.ext, p.up⟩
theorem ES_expr {pos : Pos} {e : Expr} {Q : AF → Loc → Store → Prop} (h : EV g n env e ℓ σ fun _ σ' => Q .next ℓ σ')
    (hs : swapsWith e none pos.line env = pure false := by rfl) : ES g n env (.Expr e pos) ℓ σ Q := by
  intro A s hr hi hf
  refine wpAny_Expr_any (wpAny_mono (h A s hr hi hf) ?_ fun _ _ f => f) (by unfold interactive; rw [hf.kind]; rfl) hs
  rintro v s₁ ⟨d, σ₁, q, rv, p⟩
  exact ⟨_, _, _, q, .next, hf.ext p.ext, p.up⟩
theorem ES_brk {pos : Pos} {Q : AF → Loc → Store → Prop} (h : Q .brk ℓ σ) : ES g n env (.Break pos) ℓ σ Q := fun _ _ _ hs hf => wpAny_Break ⟨_, _, _, h, .brk, hf, .refl hs⟩
theorem ES_cont {pos : Pos} {Q : AF → Loc → Store → Prop} (h : Q .cont ℓ σ) : ES g n env (.Continue pos) ℓ σ Q := fun _ _ _ hs hf => wpAny_Continue ⟨_, _, _, h, .cont, hf, .refl hs⟩
theorem ES_if {test : Expr} {body orelse : List Stmt} {pos : Pos} {Q : AF → Loc → Store → Prop} (h : EB g n env test ℓ σ fun b σ' => (b = true → EX g n env body ℓ σ' Q) ∧ (b = false → EX g n env orelse ℓ σ' Q)) : ES g n env (.If test body orelse pos) ℓ σ Q := by
  intro A s hr hi hf
  refine wpAny_If (wpAny_mono (h A s hr hi hf) ?_ fun _ _ f => f)
  rintro b s₁ ⟨σ₁, q, p⟩
  cases b with
  | true => exact (q.1 rfl A s₁ hr p.si (hf.ext p.ext)).of_post p.up
  | false => exact (q.2 rfl A s₁ hr p.si (hf.ext p.ext)).of_post p.up

theorem ES_setitem {o i e : Expr} {pos' pos : Pos} {Q : AF → Loc → Store → Prop}
    (h : EV g n env e ℓ σ fun d σ₁ => EV g n env o ℓ σ₁ fun od σ₂ => EV g n env i ℓ σ₂ fun id σ₃ =>
      ∀ A s v ov iv, Room n A → SIg g σ₃ s.heap → RepV s.heap (dom σ₃) v d → RepV s.heap (dom σ₃) ov od → RepV s.heap (dom σ₃) iv id →
        wpAny (model g.prog g.w) A (setItem ov iv v) (fun _ s' => ∃ σ', Q .next ℓ σ' ∧ Post g [] s σ₃ s' σ') (fun _ _ => False) s)
    (hs : swapsWith e (some (.Subscript o i pos')) pos.line env = pure false := by rfl) : ES g n env (.Assign [.Subscript o i pos'] e pos) ℓ σ Q := by
  intro A s hr hi hf
  refine wpAny_Assign_Subscript (wpAny_mono (h A s hr hi hf) ?_ fun _ _ f => f) hs
  rintro v s₁ ⟨d, σ₁, q₁, rv, p₁⟩
  refine wpAny_mono (q₁ A s₁ hr p₁.si (hf.ext p₁.ext)) ?_ fun _ _ f => f
  rintro ov s₂ ⟨od, σ₂, q₂, ro, p₂⟩
  refine wpAny_mono (q₂ A s₂ hr p₂.si ((hf.ext p₁.ext).ext p₂.ext)) ?_ fun _ _ f => f
  rintro iv s₃ ⟨id, σ₃, q₃, ri, p₃⟩
  refine wpAny_mono (q₃ A s₃ v ov iv hr p₃.si ((rv.keep p₂.keepsF).keep p₃.keepsF) (ro.keep p₃.keepsF) ri) ?_ fun _ _ f => f
  rintro _ s₄ ⟨σ₄, q, p₄⟩
  have p := ((p₁.trans p₂).trans p₃).trans p₄
  exact ⟨_, _, _, q, .next, hf.ext p.ext, p.up⟩

inductive WNext (I : Nat → Loc → Store → Prop) (k : Nat) (ℓ : Loc) (σ : Store) : Prop
  | mk (k' : Nat) (hk : k' < k) (h : I k' ℓ σ)
noncomputable abbrev whileQ (I : Nat → Loc → Store → Prop) (Q : AF → Loc → Store → Prop) (k : Nat) : AF → Loc → Store → Prop
  | .next => WNext I k
  | .cont => WNext I k
  | .brk => Q .next
  | .ret d => Q (.ret d)
theorem ES_while {test : Expr} {body : List Stmt} {pos : Pos} {Q : AF → Loc → Store → Prop} (I : Nat → Loc → Store → Prop)
    (turn : ∀ k ℓ σ, I k ℓ σ → EB g n env test ℓ σ fun b σ' => (b = true → EX g n env body ℓ σ' (whileQ I Q k)) ∧ (b = false → Q .next ℓ σ'))
    (k : Nat) (h : I k ℓ σ) : ES g n env (.While test body [] pos) ℓ σ Q := by
  intro A s hr hi hf
  refine wpAny_While (codeAny_whileLoop (fun k s' => ∃ ℓ' σ', I k ℓ' σ' ∧ FI g.hB s'.heap (dom σ') env ℓ' ∧ Post g (fa env) s σ s' σ') ?_ k ⟨ℓ, σ, h, hf, .refl hi⟩)
  rintro k s₁ ⟨ℓ₁, σ₁, hI, hf₁, p₁⟩
  refine wpAny_mono (turn k ℓ₁ σ₁ hI A s₁ hr p₁.si hf₁) ?_ fun _ _ f => f.elim
  rintro b s₂ ⟨σ₂, q, p₂⟩
  cases b with
  | true =>
    refine wpAny_mono (q.1 rfl A s₂ hr p₂.si (hf₁.ext p₂.ext)) ?_ fun _ _ f => f.elim
    rintro f s₃ ⟨r, ℓ₃, σ₃, q₃, rf, hf₃, p₃⟩
    have p := (p₁.trans p₂.up).trans p₃
    cases rf with
    | next => obtain ⟨k', lt, hI'⟩ := q₃; exact ⟨k', lt, ℓ₃, σ₃, hI', hf₃, p⟩
    | cont => obtain ⟨k', lt, hI'⟩ := q₃; exact ⟨k', lt, ℓ₃, σ₃, hI', hf₃, p⟩
    | brk => exact ⟨_, ℓ₃, σ₃, q₃, .next, hf₃, p⟩
    | ret rv => exact ⟨_, ℓ₃, σ₃, q₃, .ret rv, hf₃, p⟩
  | false => exact wpAny_execs_nil ⟨_, ℓ₁, σ₂, q.2 rfl, .next, hf₁.ext p₂.ext, p₁.trans p₂.up⟩
end
end Mine

end
/- part Core3 -/
section
open PySem PySem.W PyProof.Rows
set_option Elab.async false
namespace Mine
open PySem PySem.W PyProof.Rows PySem.Calls PySem.Spec

noncomputable def CALL (g : Gr) (n : Nat) (f : Value) (args : List AV) (kw : List (Str × AV)) (σ : Store) (Q : AV → Store → Prop) : Prop :=
  ∀ A s vs kvs, Room n A → SIg g σ s.heap → RepL s.heap (dom σ) vs args → kvs.map (·.1) = kw.map (·.1) → RepL s.heap (dom σ) (kvs.map (·.2)) (kw.map (·.2)) → TR g A (call f vs kvs) s σ Q

noncomputable def retOf : AF → AV
  | .ret d => d
  | _ => .none

noncomputable def BindOk (g : Gr) (fd : FuncData) (args : List AV) (kw : List (Str × AV)) (σ : Store) (ℓ₀ : Loc) : Prop :=
  ∀ s vs kvs, SIg g σ s.heap → RepL s.heap (dom σ) vs args → kvs.map (·.1) = kw.map (·.1) → RepL s.heap (dom σ) (kvs.map (·.2)) (kw.map (·.2)) →
    ∃ binds : List (Str × Value), BindsTo s fd ⟨vs, kvs⟩ binds ∧ binds.map (·.1) = ℓ₀.map (·.1) ∧ RepL s.heap (dom σ) (binds.map (·.2)) (ℓ₀.map (·.2))

theorem bindL_off {kindOf : Str → Option NameKind} {x : Str} : ∀ {binds : List (Str × Value)} {m : Str → Option Value}, x ∉ binds.map (·.1) → bindL kindOf binds m x = m x
  | [], _, _ => rfl
  | (y, v) :: r, m, h => by
    rw [List.map_cons, List.mem_cons, not_or] at h
    unfold bindL
    rw [bindL_off h.2]
    split
    · exact if_neg h.1
    · rfl
theorem bindC_off {kindOf : Str → Option NameKind} {x : Str} : ∀ {binds : List (Str × Value)} {m : Str → Option Value}, x ∉ binds.map (·.1) → bindC kindOf binds m x = m x
  | [], _, _ => rfl
  | (y, v) :: r, m, h => by
    rw [List.map_cons, List.mem_cons, not_or] at h
    unfold bindC
    rw [bindC_off h.2]
    split
    · rfl
    · exact if_neg h.1
theorem bindL_at {kindOf : Str → Option NameKind} {h : Heap} {D : List Addr} {x : Str} {d : AV} (hk : kindOf x = some .local) : ∀ {binds : List (Str × Value)} {ℓ : Loc} {m : Str → Option Value}, binds.map (·.1) = ℓ.map (·.1) → (ℓ.map (·.1)).Nodup → RepL h D (binds.map (·.2)) (ℓ.map (·.2)) →
    ℓ.lookup x = some d → ∃ v, bindL kindOf binds m x = some v ∧ RepV h D v d
  | [], [], _, _, _, _, e => by simp at e
  | [], (_, _) :: _, _, e, _, _, _ => by simp at e
  | (_, _) :: _, [], _, e, _, _, _ => by simp at e
  | (y, v) :: r, (y', d') :: ℓ, m, e, nd, rp, hl => by
    simp only [List.map_cons, List.cons.injEq] at e
    obtain ⟨rfl, e⟩ := e
    rw [List.map_cons, List.nodup_cons] at nd
    cases rp with
    | cons rv rr =>
      rw [List.lookup_cons] at hl
      by_cases hx : x = y
      · subst hx
        rw [show (x == x) = true from beq_self_eq_true x] at hl
        cases hl
        refine ⟨v, ?_, rv⟩
        unfold bindL
        rw [bindL_off (by rw [e]; exact nd.1), if_pos hk, if_pos rfl]
      · rw [show (x == y) = false from beq_eq_false_iff_ne.mpr hx] at hl
        unfold bindL
        exact bindL_at hk e nd.2 rr hl
theorem bindC_at {kindOf : Str → Option NameKind} {h : Heap} {D : List Addr} {x : Str} {d : AV} (hk : kindOf x = some .cell) : ∀ {binds : List (Str × Value)} {ℓ : Loc} {m : Str → Option Value}, binds.map (·.1) = ℓ.map (·.1) → (ℓ.map (·.1)).Nodup → RepL h D (binds.map (·.2)) (ℓ.map (·.2)) →
    ℓ.lookup x = some d → ∃ v, bindC kindOf binds m x = some v ∧ RepV h D v d
  | [], [], _, _, _, _, e => by simp at e
  | [], (_, _) :: _, _, e, _, _, _ => by simp at e
  | (_, _) :: _, [], _, e, _, _, _ => by simp at e
  | (y, v) :: r, (y', d') :: ℓ, m, e, nd, rp, hl => by
    simp only [List.map_cons, List.cons.injEq] at e
    obtain ⟨rfl, e⟩ := e
    rw [List.map_cons, List.nodup_cons] at nd
    cases rp with
    | cons rv rr =>
      rw [List.lookup_cons] at hl
      by_cases hx : x = y
      · subst hx
        rw [show (x == x) = true from beq_self_eq_true x] at hl
        cases hl
        refine ⟨v, ?_, rv⟩
        unfold bindC
        rw [bindC_off (by rw [e]; exact nd.1), if_neg (by rw [hk]; decide), if_pos rfl]
      · rw [show (x == y) = false from beq_eq_false_iff_ne.mpr hx] at hl
        unfold bindC
        exact bindC_at hk e nd.2 rr hl

theorem dom_some {g : Gr} {σ : Store} {h : Heap} (S : SIg g σ h) {a : Addr} (ha : a ∈ dom σ) : ∃ o, h.get? a = some o := by
  obtain ⟨p, hp, rfl⟩ := List.mem_map.mp ha
  have := S.rep p hp
  cases q : p.2 with
  | lst xs => rw [q] at this; obtain ⟨vs, n, e, _⟩ := this; exact ⟨_, e⟩
  | dct xs => rw [q] at this; obtain ⟨vs, n, e, _⟩ := this; exact ⟨_, e⟩
theorem get_none_of_ge {h : Heap} {a : Addr} (ha : h.objs.size ≤ a) : h.get? a = none := by
  cases e : h.get? a with
  | none => rfl
  | some o => exact absurd (Heap.lt_size e) (Nat.not_lt.mpr ha)
theorem new_off {g : Gr} {σ : Store} {h : Heap} (S : SIg g σ h) {a : Addr} (ha : h.get? a = none) : a ∉ dom σ ∧ g.hB.get? a = none := by
  refine ⟨fun q => ?_, ?_⟩
  · obtain ⟨o, e⟩ := dom_some S q; rw [ha] at e; cases e
  · cases e : g.hB.get? a with
    | none => rfl
    | some o => rw [S.base _ _ e] at ha; cases ha

theorem SI.keeps {P : Params} {hB h h' : Heap} {σ : Store} (x : SI P hB σ h) (hk : ∀ b o, h.get? b = some o → h'.get? b = some o) : SI P hB σ h' where
  base := fun b o e => hk _ _ (x.base b o e)
  nodup := x.nodup
  rep := fun p hp => by
    have k : KeepsF h (dom σ) h' (dom σ) := fun b o e n _ => ⟨hk _ _ e, n⟩
    have r := x.rep p hp
    cases q : p.2 with
    | lst xs => rw [q] at r; obtain ⟨vs, n, e, z⟩ := r; exact ⟨vs, n, hk _ _ e, z.keep k⟩
    | dct xs => rw [q] at r; obtain ⟨vs, n, e, nd, z⟩ := r; exact ⟨vs, n, hk _ _ e, nd, z.keep k⟩
  new := x.new

section
variable {g : Gr} {A : Around} {s s₀ : Shared} {σ σ₀ : Store} {n : Nat} {env : Env} {ℓ : Loc}

theorem Room.deeper {A : Around} (h : Room (n + 1) A) (env : Env) : Room n (A.deeper env) :=
  ⟨h.1, by have := h.2.1; show A.depth + 1 + n < _; (with_reducible exact Mine.om_dpn (by assumption) (by decide)), by have := h.2.2; show A.units + 3 + 8 * n < _; omega⟩
theorem Room.depth {A : Around} (h : Room n A) : A.depth < recursionLimit := by have := h.2.1; omega
theorem CALL_def (G : Gd g) {a : Addr} {oc : Value} {od : Option Addr} {osl : Array (Option Value)} {fd : FuncData} {body : List Stmt} {args : List AV} {kw : List (Str × AV)} {ℓ₀ : Loc} {Q : AV → Store → Prop}
    (ho : g.K.lookup a = some ⟨oc, od, .func fd, osl⟩) (hbody : fd.body = .stmts body) (hcd : codeIn g.K fd.code fd.qualname = true) (hg : fd.globals = mainGlobals) (hbl : fd.builtins = builtinsNs) (hcl : fd.closure = [])
    (hk : fd.scope.kind = .function) (hco : fd.scope.isCoroutine = false) (hgen : fd.scope.isGenerator = false) (hfree : (fd.scope.names.all fun p => p.2 != .free) = true) (hnd : ((cellsFrom 0 fd.scope.names []).map (·.1)).Nodup)
    (hnl : (ℓ₀.map (·.1)).Nodup) (hkinds : (ℓ₀.all fun y => fd.scope.names.lookup y.1 == some .local || fd.scope.names.lookup y.1 == some .cell) = true)
    (hb : BindOk g fd args kw σ ℓ₀)
    (h : ∀ L, EX g n (callEnvC fd L a) body ℓ₀ σ fun r _ σ' => Q (retOf r) σ') : CALL g (n + 1) (.ref a) args kw σ Q := by
  intro A s vs kvs hr hs ra ek rk
  obtain ⟨binds, hbind, hnames, hrep⟩ := hb s vs kvs hs ra ek rk
  have KX := fun b o e => hs.base _ _ (G.kin b o e)
  refine wpAny_call ?_
  have hkX := kindsX (scope := fd.scope) (binds := binds) (by
    rw [List.all_eq_true] at hkinds ⊢
    intro y hy
    have : y.1 ∈ ℓ₀.map (·.1) := hnames ▸ List.mem_map_of_mem hy
    obtain ⟨z, hz, e⟩ := List.mem_map.mp this
    have := hkinds z hz
    rw [e] at this; exact this)
  refine codeAny_call_function hr.depth (KX _ _ ho) rfl hco hgen hbody (codeRec_of KX hcd) (hbind _ _ _ _ ?_)
  rw [hcl]
  refine wpAny_newFunctionEnv_cells hk (hkX _) fun env' he s' x => ?_
  subst he
  obtain ⟨h₁, tk, rfl, _⟩ := x.done
  have keep := x.toInCall.keep
  refine ⟨(G.nolimit.keeps hs.base).keeps keep, codeAny_func ?_⟩
  have hs₁ : SIg g σ h₁ := SI.keeps hs keep
  have above : ∀ b ∈ fa (callEnvC fd s.heap.objs.size a), s.heap.get? b = none := by
    intro b hb
    rcases List.mem_cons.mp hb with rfl | hb
    · exact get_none_of_ge (Nat.le_refl _)
    · obtain ⟨p, hp, rfl⟩ := List.mem_map.mp hb
      exact get_none_of_ge (Nat.le_of_lt (x.above p.1 p.2 hp))
  have kF : KeepsF s.heap (dom σ) h₁ (dom σ) := fun b o e nb _ => ⟨keep _ _ e, nb⟩
  have uniq : ∀ p ∈ (callEnvC fd s.heap.objs.size a).cells, (callEnvC fd s.heap.objs.size a).cells.lookup p.1 = some p.2 := fun p hp =>
    lookup_of_mem_nodup (cellsFrom_names fd.scope.names 0 (s.heap.objs.size + 1) [] [] rfl ▸ hnd) hp
  have F : FI g.hB h₁ (dom σ) (callEnvC fd s.heap.objs.size a) ℓ₀ := by
    refine ⟨fun b hb => (new_off hs (above b hb)).2, hk, hg, hbl, fun b hb => (new_off hs (above b hb)).1, ⟨_, x.toInCall.ns, fun y d hky hl => ?_⟩, fun p hp => ?_, fun y hy => ?_, x.apart, uniq⟩
    · obtain ⟨v, e, r⟩ := bindL_at (m := fun _ => none) hky hnames hnl hrep hl
      exact ⟨v, e, r.keep kF⟩
    · refine ⟨_, x.cell p.1 p.2 (uniq p hp), fun d hkp hl => ?_⟩
      have hkc : (callEnvC fd s.heap.objs.size a).kindOf p.1 = some .cell := by
        rcases hkp with e | e
        · exact e
        · have hm := mem_of_lookup (show fd.scope.names.lookup p.1 = some NameKind.free from e)
          have := List.all_eq_true.mp hfree _ hm
          simp at this
      obtain ⟨v, e, r⟩ := bindC_at (m := fun _ => none) hkc hnames hnl hrep hl
      exact ⟨v, e, r.keep kF⟩
    · rcases hy with e | e
      · exact cellsFrom_some _ _ _ (.inl e)
      · have hm := mem_of_lookup (show fd.scope.names.lookup y = some NameKind.free from e)
        have := List.all_eq_true.mp hfree _ hm
        simp at this
  have p₁ : Post g [] s σ { s with heap := h₁, toks := tk } σ := ⟨hs₁, ⟨fun b o e => ⟨o, keep _ _ e⟩, fun b o e nb _ => ⟨keep _ _ e, nb⟩⟩, rfl, rfl⟩
  refine wpAny_mono (h s.heap.objs.size (A.deeper (callEnvC fd s.heap.objs.size a)) { s with heap := h₁, toks := tk } (hr.deeper _) hs₁ F) ?_ fun _ _ f => f.elim
  rintro f s₂ ⟨r, ℓ', σ', q, rf, hf', p₂⟩
  have p₃ : Post g [] s σ s₂ σ' := by
    refine ⟨p₂.si, ⟨fun b o e => p₂.ext.there b o (keep _ _ e), fun b o e nb _ => p₂.ext.keep b o (keep _ _ e) nb fun hbf => ?_⟩, p₂.gens, p₂.os⟩
    rw [above b hbf] at e; cases e
  cases rf with
  | ret rv => exact ⟨_, σ', q, rv, p₃⟩
  | next => exact ⟨_, σ', q, .none, p₃⟩
  | brk => exact ⟨_, σ', q, .none, p₃⟩
  | cont => exact ⟨_, σ', q, .none, p₃⟩

theorem BindOk.pos {fd : FuncData} {args : List AV} {names : List Str} (hl : names.length = args.length) (hb : ∀ vs : List Value, vs.length = names.length → bindArgs fd ⟨vs, []⟩ = pure (names.zip vs)) : BindOk g fd args [] σ (names.zip args) := by
  intro s vs kvs hs ra ek rk
  have hk : kvs = [] := by simpa using ek
  subst hk
  have hv : vs.length = names.length := ra.length.trans hl.symm
  refine ⟨names.zip vs, .of_eq (hb vs hv), ?_, ?_⟩
  · rw [List.map_fst_zip (by omega), List.map_fst_zip (by omega)]
  · rw [List.map_snd_zip (by omega), List.map_snd_zip (by omega)]; exact ra

theorem EL_nil {pos : Pos} {Q : List AV → Store → Prop} (h : Q [] σ) : EL g n env pos [] ℓ σ Q := fun _ _ _ hs _ => wpAny_items_nil ⟨[], σ, h, .nil, .refl hs⟩
theorem EL_cons {pos : Pos} {e : Expr} {rest : List Expr} {Q : List AV → Store → Prop} (h : EV g n env e ℓ σ fun d σ₁ => EL g n env pos rest ℓ σ₁ fun ds σ₂ => Q (d :: ds) σ₂)
    (he : starEach (e :: rest) env = (false, eval e env) :: starEach rest env := by rfl) : EL g n env pos (e :: rest) ℓ σ Q := by
  intro A s hr hs hf
  refine wpAny_items_cons (wpAny_mono (h A s hr hs hf) ?_ fun _ _ f => f) he
  rintro v s₁ ⟨d, σ₁, q₁, rv, p₁⟩
  refine wpAny_mono (q₁ A s₁ hr p₁.si (hf.ext p₁.ext)) ?_ fun _ _ f => f
  rintro vs s₂ ⟨ds, σ₂, q₂, rvs, p₂⟩
  exact ⟨_, σ₂, q₂, .cons (rv.keep p₂.keepsF) rvs, p₁.trans p₂⟩

theorem evalArgs_el {f : Value} {pos : Pos} {es : List Expr} {Q : Args → Shared → Prop} {E : Value → Shared → Prop} (hes : (backTo pos (starEach es env)).all (fun x => !x.1) = true)
    (h : wpAny (model g.prog g.w) A (spliced (backTo pos (starEach es env))) (fun vs s₁ => Q ⟨vs, []⟩ s₁) E s) : wpAny (model g.prog g.w) A (evalArgs f true (backTo pos (starEach es env)) []) Q E s := by
  revert h hes
  generalize backTo pos (starEach es env) = l
  intro hes h
  match l, hes, h with
  | [], _, h =>
    unfold evalArgs
    show wpAny _ A (spliced [] >>= _) Q E s
    refine wpAny_bind (wpAny_mono h (fun vs s' h' => ?_) fun _ _ x => x)
    refine wpAny_bind (wpAny_pure ?_)
    refine wpAny_holding ?_
    exact wpAny_bind (wpAny_pure (wpAny_bind (wpAny_pure (wpAny_pure h'))))
  | (b, x) :: rest, hes, h =>
    have hb : b = false := by simpa using (List.all_eq_true.mp hes (b, x) (List.mem_cons_self ..))
    subst hb
    exact evalArgs_plain h

theorem any_of_all {pos : Pos} {es : List Expr} (h : (backTo pos (starEach es env)).all (fun x => !x.1) = true) : (backTo pos (starEach es env)).any (·.1) = false := by
  rw [List.any_eq_false]
  intro x hx
  simpa using List.all_eq_true.mp h x hx

theorem EV_call {id : Str} {p pos : Pos} {es : List Expr} {f : Value} {Q : AV → Store → Prop}
    (hfv : (∃ a oc od fd osl, f = .ref a ∧ g.K.lookup a = some ⟨oc, od, .func fd, osl⟩) ∨ (∃ i, f = .builtin i) ∨ ∃ t, f = .type t) (G : Gd g)
    (hes : (backTo pos (starEach es env)).all (fun x => !x.1) = true)
    (h : EV g n env (.Name id p) ℓ σ fun d σ₁ => d = .raw f ∧ EL g n env pos es ℓ σ₁ fun ds σ₂ => CALL g n f ds [] σ₂ Q) : EV g n env (.Call (.Name id p) es [] pos) ℓ σ Q := by
  intro A s hr hs hf
  refine wpAny_Call_Name_kw (wpAny_mono (h A s hr hs hf) ?_ fun _ _ f => f)
  rintro v s₁ ⟨d, σ₁, ⟨rfl, q₁⟩, rv, p₁⟩
  cases rv
  have key : wpAny (model g.prog g.w) A (spliced (backTo pos (starEach es env))) (fun vs s₂ => g.K.In s₂.heap ∧ wpAny (model g.prog g.w) A (call f vs []) (fun v s' => RV g s σ Q v s') (fun _ _ => False) s₂) (fun _ _ => False) s₁ := by
    refine wpAny_mono (q₁ A s₁ hr p₁.si (hf.ext p₁.ext)) ?_ fun _ _ f => f
    rintro vs s₂ ⟨ds, σ₂, q₂, rvs, p₂⟩
    exact ⟨fun b o e => p₂.si.base _ _ (G.kin b o e), (q₂ A s₂ vs [] hr p₂.si rvs rfl .nil).of_post (p₁.trans p₂)⟩
  rcases hfv with ⟨a, oc, od, fd, osl, rfl, ho⟩ | ⟨i, rfl⟩ | ⟨t, rfl⟩
  · exact callWith_function (evalArgs_el hes (wpAny_mono key (fun vs s₂ ⟨kx, h₂⟩ => ⟨⟨kx _ _ ho, rfl⟩, h₂⟩) fun _ _ f => f))
  · exact callWith_builtin (any_of_all hes) (evalArgs_el hes (wpAny_mono key (fun vs s₂ ⟨_, h₂⟩ => h₂) fun _ _ f => f))
  · exact PyProof.Rows.callWith_type (any_of_all hes) (evalArgs_el hes (wpAny_mono key (fun vs s₂ ⟨_, h₂⟩ => h₂) fun _ _ f => f))
theorem EV_gcall {id : Str} {p pos : Pos} {es : List Expr} {a : Addr} {oc : Value} {od : Option Addr} {osl : Array (Option Value)} {fd : FuncData} {Q : AV → Store → Prop} (G : Gd g) (e : nsIn g.K mainGlobals id = some (some (.ref a))) (hk : env.kindOf id = some .globalImplicit)
    (hK : g.K.lookup a = some ⟨oc, od, .func fd, osl⟩) (hes : (backTo pos (starEach es env)).all (fun x => !x.1) = true) (h : EL g n env pos es ℓ σ fun ds σ₂ => CALL g n (.ref a) ds [] σ₂ Q) (hd : (id == ("__debug__" : Str)) = false := by decide) :
    EV g n env (.Call (.Name id p) es [] pos) ℓ σ Q := EV_call (.inl ⟨_, _, _, _, _, rfl, hK⟩) G hes (EV_global G e hk ⟨rfl, h⟩ hd)
theorem EV_bcall {id : Str} {p pos : Pos} {es : List Expr} {i : String} {Q : AV → Store → Prop} (G : Gd g) (e : nsIn g.K mainGlobals id = some none) (hb : bootBuiltins id = some (.builtin i)) (hx : id ≠ "__name__") (hk : env.kindOf id = some .globalImplicit)
    (hes : (backTo pos (starEach es env)).all (fun x => !x.1) = true) (h : EL g n env pos es ℓ σ fun ds σ₂ => CALL g n (.builtin i) ds [] σ₂ Q) (hd : (id == ("__debug__" : Str)) = false := by decide) :
    EV g n env (.Call (.Name id p) es [] pos) ℓ σ Q := EV_call (.inr (.inl ⟨_, rfl⟩)) G hes (EV_builtin G e hb hx hk ⟨rfl, h⟩ hd)
theorem EV_tcall {id : Str} {p pos : Pos} {es : List Expr} {i : String} {Q : AV → Store → Prop} (G : Gd g) (e : nsIn g.K mainGlobals id = some none) (hb : bootBuiltins id = some (.type i)) (hx : id ≠ "__name__") (hk : env.kindOf id = some .globalImplicit)
    (hes : (backTo pos (starEach es env)).all (fun x => !x.1) = true) (h : EL g n env pos es ℓ σ fun ds σ₂ => CALL g n (.type i) ds [] σ₂ Q) (hd : (id == ("__debug__" : Str)) = false := by decide) :
    EV g n env (.Call (.Name id p) es [] pos) ℓ σ Q := EV_call (.inr (.inr ⟨_, rfl⟩)) G hes (EV_builtin G e hb hx hk ⟨rfl, h⟩ hd)
end
end Mine

end
/- part Core4 -/
section
open PySem PySem.W PyProof.Rows
set_option Elab.async false
namespace Mine
open PySem PySem.W PyProof.Rows PySem.Calls PySem.Spec

section
variable {g : Gr} {A : Around} {s s₀ : Shared} {σ σ₀ : Store} {n : Nat} {env : Env} {ℓ : Loc}

theorem add_ii {a b : Int} {Q : AV → Store → Prop} (h : Q (.int (a + b)) σ) : BinOk g n .Add (.int a) (.int b) σ Q := fun _ _ _ _ _ hs ra rb => by
  obtain ⟨_, rfl⟩ := ra.intI; obtain ⟨_, rfl⟩ := rb.intI; exact PyProof.Rows.add_int ⟨_, _, h, .int _ _, .tok hs _⟩
theorem sub_ii {a b : Int} {Q : AV → Store → Prop} (h : Q (.int (a - b)) σ) : BinOk g n .Sub (.int a) (.int b) σ Q := fun _ _ _ _ _ hs ra rb => by
  obtain ⟨_, rfl⟩ := ra.intI; obtain ⟨_, rfl⟩ := rb.intI; exact PyProof.Rows.sub_int ⟨_, _, h, .int _ _, .tok hs _⟩
theorem mul_ii {a b : Int} {Q : AV → Store → Prop} (hm : IntMulOk a b) (h : Q (.int (a * b)) σ) : BinOk g n .Mult (.int a) (.int b) σ Q := fun _ _ _ _ _ hs ra rb => by
  obtain ⟨_, rfl⟩ := ra.intI; obtain ⟨_, rfl⟩ := rb.intI; exact PyProof.Rows.mul_int ⟨_, _, h, .int _ _, .tok hs _⟩ hm
theorem fdiv_ii {a b : Int} {Q : AV → Store → Prop} (hb : b ≠ 0) (hl : b.natAbs.log2 < 9000) (h : Q (.int (a.fdiv b)) σ) : BinOk g n .FloorDiv (.int a) (.int b) σ Q := fun _ _ _ _ _ hs ra rb => by
  obtain ⟨_, rfl⟩ := ra.intI; obtain ⟨_, rfl⟩ := rb.intI; exact PyProof.Rows.floordiv_int hb ⟨_, _, h, .int _ _, .tok hs _⟩ (.inl (PyProof.noPylong_of_log2 hl))
theorem fmod_ii {a b : Int} {Q : AV → Store → Prop} (hb : b ≠ 0) (h : Q (.int (a.fmod b)) σ) : BinOk g n .Mod (.int a) (.int b) σ Q := fun _ _ _ _ _ hs ra rb => by
  obtain ⟨_, rfl⟩ := ra.intI; obtain ⟨_, rfl⟩ := rb.intI; exact PyProof.Rows.mod_int' hb ⟨_, _, h, .int _ _, .tok hs _⟩
theorem shr_ii {a b : Int} {Q : AV → Store → Prop} (hb : 0 ≤ b) (h : Q (.int (a.fdiv (2 ^ b.toNat))) σ) : BinOk g n .RShift (.int a) (.int b) σ Q := fun _ _ _ _ _ hs ra rb => by
  obtain ⟨_, rfl⟩ := ra.intI; obtain ⟨_, rfl⟩ := rb.intI; exact PyProof.Rows.rshift_int hb ⟨_, _, h, .int _ _, .tok hs _⟩
theorem shl_ii {a b : Int} {Q : AV → Store → Prop} (hb : 0 ≤ b) (h2 : b ≤ 1000000) (ha : a.natAbs < 2 ^ 64) (h : Q (.int (a * 2 ^ b.toNat)) σ) : BinOk g n .LShift (.int a) (.int b) σ Q := fun _ _ _ _ _ hs ra rb => by
  obtain ⟨_, rfl⟩ := ra.intI; obtain ⟨_, rfl⟩ := rb.intI; exact PyProof.Rows.lshift_int_small hb h2 ha ⟨_, _, h, .int _ _, .tok hs _⟩
theorem pow_ii {a b : Int} {Q : AV → Store → Prop} (hb : 0 ≤ b) (h2 : b ≤ 1000000) (ha : a.natAbs < 2 ^ 64) (h : Q (.int (a ^ b.toNat)) σ) : BinOk g n .Pow (.int a) (.int b) σ Q := fun _ _ _ _ _ hs ra rb => by
  obtain ⟨_, rfl⟩ := ra.intI; obtain ⟨_, rfl⟩ := rb.intI; exact PyProof.Rows.pow_int_small hb h2 ha ⟨_, _, h, .int _ _, .tok hs _⟩
theorem and_ii {a b : Int} {Q : AV → Store → Prop} (h : Q (.int (Builtin.bitAnd a b)) σ) : BinOk g n .BitAnd (.int a) (.int b) σ Q := fun _ _ _ _ _ hs ra rb => by
  obtain ⟨_, rfl⟩ := ra.intI; obtain ⟨_, rfl⟩ := rb.intI; exact PyProof.Rows.and_int ⟨_, _, h, .int _ _, .tok hs _⟩
theorem or_ii {a b : Int} {Q : AV → Store → Prop} (h : Q (.int (Builtin.bitOr a b)) σ) : BinOk g n .BitOr (.int a) (.int b) σ Q := fun _ _ _ _ _ hs ra rb => by
  obtain ⟨_, rfl⟩ := ra.intI; obtain ⟨_, rfl⟩ := rb.intI; exact PyProof.Rows.or_int ⟨_, _, h, .int _ _, .tok hs _⟩
theorem xor_ii {a b : Int} {Q : AV → Store → Prop} (h : Q (.int (Builtin.bitXor a b)) σ) : BinOk g n .BitXor (.int a) (.int b) σ Q := fun _ _ _ _ _ hs ra rb => by
  obtain ⟨_, rfl⟩ := ra.intI; obtain ⟨_, rfl⟩ := rb.intI; exact PyProof.Rows.xor_int ⟨_, _, h, .int _ _, .tok hs _⟩
theorem lt_ii {a b : Int} {Q : AV → Store → Prop} (h : Q (.bool (decide (a < b))) σ) : CmpOk g n .Lt (.int a) (.int b) σ Q := fun _ _ _ _ _ hs ra rb => by
  obtain ⟨_, rfl⟩ := ra.intI; obtain ⟨_, rfl⟩ := rb.intI; exact PyProof.Rows.lt_int ⟨_, _, h, .bool _, .refl hs⟩
theorem gt_ii {a b : Int} {Q : AV → Store → Prop} (h : Q (.bool (decide (b < a))) σ) : CmpOk g n .Gt (.int a) (.int b) σ Q := fun _ _ _ _ _ hs ra rb => by
  obtain ⟨_, rfl⟩ := ra.intI; obtain ⟨_, rfl⟩ := rb.intI; exact PyProof.Rows.gt_int ⟨_, _, h, .bool _, .refl hs⟩
theorem ge_ii {a b : Int} {Q : AV → Store → Prop} (h : Q (.bool (decide (b ≤ a))) σ) : CmpOk g n .GtE (.int a) (.int b) σ Q := fun _ _ _ _ _ hs ra rb => by
  obtain ⟨_, rfl⟩ := ra.intI; obtain ⟨_, rfl⟩ := rb.intI; exact PyProof.Rows.ge_int ⟨_, _, h, .bool _, .refl hs⟩
theorem eq_ii {a b : Int} {Q : AV → Store → Prop} (h : Q (.bool (decide (a = b))) σ) : CmpOk g n .Eq (.int a) (.int b) σ Q := fun _ _ _ _ _ hs ra rb => by
  obtain ⟨_, rfl⟩ := ra.intI; obtain ⟨_, rfl⟩ := rb.intI; exact PyProof.Rows.eq_int ⟨_, _, h, (by have e : (a == b) = decide (a = b) := rfl; rw [e]; exact .bool _), .refl hs⟩
theorem is_none {d : AV} {Q : AV → Store → Prop} (hd : (∃ i, d = .int i) ∨ d = .none ∨ (∃ x, d = .str x)) (h : Q (.bool (match d with | .none => true | _ => false)) σ) : CmpOk g n .Is d .none σ Q := fun _ _ _ _ _ hs ra rb => by
  obtain rfl := rb.noneI
  rcases hd with ⟨i, rfl⟩ | rfl | ⟨x, rfl⟩ <;> first | (obtain ⟨_, rfl⟩ := ra.intI; exact PySem.is_none ⟨_, _, h, .bool _, .refl hs⟩) | (obtain rfl := ra.noneI; exact PySem.is_none ⟨_, _, h, .bool _, .refl hs⟩) | (obtain ⟨_, rfl⟩ := ra.strI; exact PySem.is_none ⟨_, _, h, .bool _, .refl hs⟩)
theorem isnot_none {d : AV} {Q : AV → Store → Prop} (hd : (∃ i, d = .int i) ∨ d = .none ∨ (∃ x, d = .str x)) (h : Q (.bool (match d with | .none => false | _ => true)) σ) : CmpOk g n .IsNot d .none σ Q := fun _ _ _ _ _ hs ra rb => by
  obtain rfl := rb.noneI
  rcases hd with ⟨i, rfl⟩ | rfl | ⟨x, rfl⟩ <;> first | (obtain ⟨_, rfl⟩ := ra.intI; exact PySem.isNot_none ⟨_, _, h, .bool _, .refl hs⟩) | (obtain rfl := ra.noneI; exact PySem.isNot_none ⟨_, _, h, .bool _, .refl hs⟩) | (obtain ⟨_, rfl⟩ := ra.strI; exact PySem.isNot_none ⟨_, _, h, .bool _, .refl hs⟩)

end

mutual
noncomputable def py : AV → PyData
  | .none => .none
  | .bool b => .bool b
  | .int i => .int i
  | .str x => .str x
  | .tup l => .tuple (pys l)
  | .lst l => .list (pys l)
  | _ => .none
noncomputable def pys : List AV → List PyData
  | [] => []
  | d :: r => py d :: pys r
end
mutual
noncomputable def isPy : AV → Bool
  | .none => true
  | .int _ => true
  | .str _ => true
  | .tup l => isPys l
  | .lst l => isPys l
  | _ => false
noncomputable def isPys : List AV → Bool
  | [] => true
  | d :: r => isPy d && isPys r
end
mutual
theorem reads_of {h : Heap} {D : List Addr} : ∀ {v : Value} {d : AV}, RepV h D v d → isPy d = true → ∃ as, Reads h v (py d) as
  | _, _, .none, _ => ⟨_, .none⟩
  | _, _, .int i t, _ => ⟨_, .int i t⟩
  | _, _, .str x t, _ => ⟨_, .str x t⟩
  | _, _, .bool b, q => by simp only [isPy] at q; cases q
  | _, _, .bytes b t, q => by simp only [isPy] at q; cases q
  | _, _, .raw v, q => by simp only [isPy] at q; cases q
  | _, _, .sset _ _ _, q => by simp only [isPy] at q; cases q
  | _, _, .inst _ _, q => by simp only [isPy] at q; cases q
  | _, _, .rng _ _, q => by simp only [isPy] at q; cases q
  | _, _, .tup e _ r, q => by
    obtain ⟨as, ra⟩ := readsAll_of r (by simpa only [isPy] using q)
    exact ⟨_, by rw [py]; exact .tuple e rfl rfl ra⟩
  | _, _, .lst e _ r, q => by
    obtain ⟨as, ra⟩ := readsAll_of r (by simpa only [isPy] using q)
    exact ⟨_, by rw [py]; exact .list e rfl rfl ra⟩
theorem readsAll_of {h : Heap} {D : List Addr} : ∀ {vs : List Value} {ds : List AV}, RepL h D vs ds → isPys ds = true → ∃ as, ReadsAll h vs (pys ds) as
  | _, _, .nil, _ => ⟨_, .nil⟩
  | _, _, .cons x r, q => by
    simp only [isPys, Bool.and_eq_true] at q
    obtain ⟨a1, r1⟩ := reads_of x q.1
    obtain ⟨a2, r2⟩ := readsAll_of r q.2
    exact ⟨_, by rw [pys]; exact .cons r1 r2⟩
end
mutual
noncomputable def small (n : Nat) : AV → Bool
  | .none => true
  | .int _ => true
  | .str x => PyData.strOk x
  | .tup l => match n with | 0 => false | n + 1 => smalls n l
  | .lst l => match n with | 0 => false | n + 1 => smalls n l
  | _ => false
noncomputable def smalls (n : Nat) : List AV → Bool
  | [] => true
  | d :: r => small n d && smalls n r
end
mutual
theorem small_ok : ∀ (d : AV) (n : Nat), small n d = true → isPy d = true ∧ (py d).canLay0 = true ∧ (py d).depth ≤ n
  | .none, n, _ => ⟨rfl, rfl, Nat.zero_le _⟩
  | .int _, n, _ => ⟨rfl, rfl, Nat.zero_le _⟩
  | .str x, n, h => ⟨rfl, by simpa only [small, py, PyData.canLay0] using h, Nat.zero_le _⟩
  | .tup l, 0, h => by simp only [small] at h; cases h
  | .tup l, n + 1, h => by
    have := smalls_ok l n (by simpa only [small] using h)
    simp only [isPy, py, PyData.canLay0, PyData.depth]
    exact ⟨this.1, this.2.1, by omega⟩
  | .lst l, 0, h => by simp only [small] at h; cases h
  | .lst l, n + 1, h => by
    have := smalls_ok l n (by simpa only [small] using h)
    simp only [isPy, py, PyData.canLay0, PyData.depth]
    exact ⟨this.1, this.2.1, by omega⟩
  | .bool _, n, h => by simp only [small] at h; cases h
  | .bytes _, n, h => by simp only [small] at h; cases h
  | .sset _ _, n, h => by simp only [small] at h; cases h
  | .inst _ _, n, h => by simp only [small] at h; cases h
  | .rng _ _, n, h => by simp only [small] at h; cases h
  | .raw _, n, h => by simp only [small] at h; cases h
theorem smalls_ok : ∀ (l : List AV) (n : Nat), smalls n l = true → isPys l = true ∧ PyData.canLayAll0 (pys l) = true ∧ PyData.depthAll (pys l) ≤ n
  | [], n, _ => ⟨rfl, rfl, Nat.zero_le _⟩
  | d :: r, n, h => by
    simp only [smalls, Bool.and_eq_true] at h
    have h1 := small_ok d n h.1
    have h2 := smalls_ok r n h.2
    simp only [isPys, pys, PyData.canLayAll0, PyData.depthAll, Bool.and_eq_true]
    exact ⟨⟨h1.1, h2.1⟩, ⟨h1.2.1, h2.2.1⟩, by omega⟩
end
mutual
theorem py_eqv : ∀ (d e : AV), isPy d = true → isPy e = true → (PyData.eqv (py d) (py e) = true ↔ d = e)
  | .none, e, _, he => by cases e <;> simp_all [isPy, py, PyData.eqv]
  | .int i, e, _, he => by cases e <;> simp_all [isPy, py, PyData.eqv]
  | .str x, e, _, he => by cases e <;> simp_all [isPy, py, PyData.eqv]
  | .tup l, e, hd, he => by
    cases e with
    | tup r =>
      simp only [py, PyData.eqv, AV.tup.injEq]
      exact pys_eqv l r (by simpa only [isPy] using hd) (by simpa only [isPy] using he)
    | _ => simp_all [isPy, py, PyData.eqv]
  | .lst l, e, hd, he => by
    cases e with
    | lst r =>
      simp only [py, PyData.eqv, AV.lst.injEq]
      exact pys_eqv l r (by simpa only [isPy] using hd) (by simpa only [isPy] using he)
    | _ => simp_all [isPy, py, PyData.eqv]
  | .bool _, _, h, _ => by simp only [isPy] at h; cases h
  | .bytes _, _, h, _ => by simp only [isPy] at h; cases h
  | .sset _ _, _, h, _ => by simp only [isPy] at h; cases h
  | .inst _ _, _, h, _ => by simp only [isPy] at h; cases h
  | .rng _ _, _, h, _ => by simp only [isPy] at h; cases h
  | .raw _, _, h, _ => by simp only [isPy] at h; cases h
theorem pys_eqv : ∀ (l r : List AV), isPys l = true → isPys r = true → (PyData.eqvAll (pys l) (pys r) = true ↔ l = r)
  | [], [], _, _ => by simp [pys, PyData.eqvAll]
  | [], _ :: _, _, _ => by simp [pys, PyData.eqvAll]
  | _ :: _, [], _, _ => by simp [pys, PyData.eqvAll]
  | d :: l, e :: r, h1, h2 => by
    simp only [isPys, Bool.and_eq_true] at h1 h2
    simp only [pys, PyData.eqvAll, Bool.and_eq_true, List.cons.injEq, py_eqv d e h1.1 h2.1, pys_eqv l r h1.2 h2.2]
end

section
variable {g : Gr} {A : Around} {s s₀ : Shared} {σ σ₀ : Store} {n : Nat} {env : Env} {ℓ : Loc}
open Classical in
end
end Mine

end
/- part Core5 -/
section
open PySem PySem.W PyProof.Rows
set_option Elab.async false
namespace Mine
open PySem PySem.W PyProof.Rows PySem.Calls PySem.Spec

theorem mem_of_lookupA {β : Type} : ∀ {l : List (Addr × β)} {n : Addr} {c : β}, l.lookup n = some c → (n, c) ∈ l
  | (k, v) :: r, n, c, h => by
    rw [List.lookup_cons] at h
    cases hb : n == k with
    | true => rw [hb] at h; cases h; rw [beq_iff_eq.mp hb]; exact List.mem_cons_self
    | false => rw [hb] at h; exact List.mem_cons_of_mem _ (mem_of_lookupA h)
theorem lookup_of_memA {β : Type} : ∀ {l : List (Addr × β)} {n : Addr} {c : β}, (l.map (·.1)).Nodup → (n, c) ∈ l → l.lookup n = some c
  | (k, v) :: r, n, c, nd, h => by
    rw [List.map_cons, List.nodup_cons] at nd
    rcases List.mem_cons.mp h with e | h
    · cases e; simp
    · have hne : n ≠ k := fun e => nd.1 (e ▸ List.mem_map.mpr ⟨(n, c), h, rfl⟩)
      rw [List.lookup_cons, beq_eq_false_iff_ne.mpr hne]
      exact lookup_of_memA nd.2 h

noncomputable def upd (σ : Store) (a : Addr) (o : AO) : Store := σ.map fun p => if p.1 = a then (a, o) else p
theorem dom_upd (σ : Store) (a : Addr) (o : AO) : dom (upd σ a o) = dom σ := by
  unfold dom upd
  rw [List.map_map]
  apply List.map_congr_left
  intro p _
  show (if p.1 = a then (a, o) else p).1 = p.1
  split
  · rename_i h; exact h.symm
  · rfl
theorem upd_self {a : Addr} {o : AO} : ∀ {σ : Store} {o' : AO}, σ.lookup a = some o' → (upd σ a o).lookup a = some o
  | (k, v) :: r, o', h => by
    rw [List.lookup_cons] at h
    show List.lookup a ((if k = a then (a, o) else (k, v)) :: upd r a o) = _
    by_cases hk : k = a
    · subst hk; simp
    · rw [beq_eq_false_iff_ne.mpr (Ne.symm hk)] at h
      rw [if_neg hk, List.lookup_cons, beq_eq_false_iff_ne.mpr (Ne.symm hk)]
      exact upd_self h
theorem upd_ne {a b : Addr} {o : AO} (hb : b ≠ a) : ∀ {σ : Store}, (upd σ a o).lookup b = σ.lookup b
  | [] => rfl
  | (k, v) :: r => by
    show List.lookup b ((if k = a then (a, o) else (k, v)) :: upd r a o) = _
    by_cases hk : k = a
    · subst hk
      rw [if_pos rfl, List.lookup_cons, List.lookup_cons, beq_eq_false_iff_ne.mpr hb]
      exact upd_ne hb
    · rw [if_neg hk, List.lookup_cons, List.lookup_cons]
      cases b == k
      · exact upd_ne hb
      · rfl
theorem lookup_new {a b : Addr} {o x : AO} {σ : Store} (h : σ.lookup b = some x) (ha : a ∉ dom σ) : List.lookup b ((a, o) :: σ) = some x := by
  have hne : b ≠ a := fun e => ha (e ▸ List.mem_map.mpr ⟨(b, x), mem_of_lookupA h, rfl⟩)
  rw [List.lookup_cons, beq_eq_false_iff_ne.mpr hne]; exact h
theorem dom_of {a : Addr} {o : AO} {σ : Store} (h : σ.lookup a = some o) : a ∈ dom σ := List.mem_map.mpr ⟨(a, o), mem_of_lookupA h, rfl⟩
theorem upd_upd (σ : Store) (a : Addr) (o o' : AO) : upd (upd σ a o) a o' = upd σ a o' := by
  unfold upd
  rw [List.map_map]
  apply List.map_congr_left
  intro p _
  show (if (if p.1 = a then (a, o) else p).1 = a then (a, o') else (if p.1 = a then (a, o) else p)) = _
  by_cases h : p.1 = a <;> simp [h]

theorem repO_some {P : Params} {h : Heap} {D : List Addr} {a : Addr} {o : AO} (r : RepO P h D a o) : ∃ ob, h.get? a = some ob := by
  cases o with
  | lst xs => obtain ⟨vs, n, e, _⟩ := r; exact ⟨_, e⟩
  | dct xs => obtain ⟨vs, n, e, _⟩ := r; exact ⟨_, e⟩

section
variable {g : Gr} {A : Around} {s s₀ : Shared} {σ σ₀ : Store} {n : Nat} {env : Env} {ℓ : Loc}

theorem Post.upd {a : Addr} {o o' : AO} {h' : Heap} {tk : Nat} (S : SIg g σ s.heap) (hl : σ.lookup a = some o) (hs : Heap.SameBut a s.heap h') (r : KeepsF s.heap (dom σ) h' (dom σ) → RepO g.w.params h' (dom σ) a o') :
    Post g [] s σ { s with heap := h', toks := tk } (upd σ a o') := by
  have ha := dom_of hl
  have hn := S.new _ (mem_of_lookupA hl)
  have k : KeepsF s.heap (dom σ) h' (dom σ) := fun b ob e nb _ => ⟨(hs.2 b fun q => nb (q ▸ ha)).trans e, nb⟩
  refine ⟨⟨fun b ob e => (hs.2 b fun q => ?_).trans (S.base b ob e), ?_, fun p hp => ?_, fun p hp => ?_⟩, ⟨sameBut_there hs (repO_some (r k)), fun b ob e nb _ => ?_⟩, rfl, rfl⟩
  · rw [q, hn] at e; cases e
  · show (dom (Mine.upd σ a o')).Nodup
    rw [dom_upd]; exact S.nodup
  · have hp' : p ∈ Mine.upd σ a o' := hp
    rw [dom_upd]
    unfold Mine.upd at hp'
    obtain ⟨q, hq, rfl⟩ := List.mem_map.mp hp'
    by_cases hqa : q.1 = a
    · rw [if_pos hqa]; exact r k
    · rw [if_neg hqa]; exact (S.rep q hq).keep k (hs.2 _ hqa)
  · unfold Mine.upd at hp
    obtain ⟨q, hq, rfl⟩ := List.mem_map.mp hp
    by_cases hqa : q.1 = a
    · rw [if_pos hqa]; exact hn
    · rw [if_neg hqa]; exact S.new q hq
  · rw [dom_upd]
    exact ⟨(hs.2 b fun q => nb (q ▸ ha)).trans e, nb⟩

theorem Post.new {o : Obj} {ao : AO} (S : SIg g σ s.heap) (hf : o.isFreed = false) (r : ∀ h', h'.get? s.heap.objs.size = some o → KeepsF s.heap (dom σ) h' (s.heap.objs.size :: dom σ) → RepO g.w.params h' (s.heap.objs.size :: dom σ) s.heap.objs.size ao) :
    s.heap.objs.size ∉ dom σ ∧ Post g [] s σ { s with heap := s.heap.push o } ((s.heap.objs.size, ao) :: σ) := by
  have hn := get_none_of_ge (h := s.heap) (Nat.le_refl _)
  obtain ⟨h1, h2⟩ := new_off S hn
  have up : ∀ b ob, s.heap.get? b = some ob → (s.heap.push o).get? b = some ob := fun b ob e => Heap.get?_push_of_some o e
  have k : KeepsF s.heap (dom σ) (s.heap.push o) (s.heap.objs.size :: dom σ) := fun b ob e nb _ => ⟨up b ob e, fun q => by
    rcases List.mem_cons.mp q with rfl | q
    · rw [hn] at e; cases e
    · exact nb q⟩
  refine ⟨h1, ⟨fun b ob e => up _ _ (S.base b ob e), List.nodup_cons.mpr ⟨h1, S.nodup⟩, fun p hp => ?_, fun p hp => ?_⟩, ⟨fun b ob e => ⟨ob, up _ _ e⟩, fun b ob e nb _ => ⟨up _ _ e, fun q => ?_⟩⟩, rfl, rfl⟩
  · rcases List.mem_cons.mp hp with rfl | hp
    · exact r _ (Heap.get?_push_size _ hf) k
    · obtain ⟨ob, e⟩ := dom_some S (List.mem_map_of_mem (f := (·.1)) hp)
      exact (S.rep p hp).keep k ((up _ _ e).trans e.symm)
  · rcases List.mem_cons.mp hp with rfl | hp
    · exact h2
    · exact S.new p hp
  · rcases List.mem_cons.mp q with rfl | q
    · rw [hn] at e; cases e
    · exact nb q
theorem Post.frz {o : Obj} (S : SIg g σ s.heap) : Post g [] s σ { s with heap := s.heap.push o } σ :=
  ⟨SI.keeps S fun b ob e => Heap.get?_push_of_some o e, ⟨fun b ob e => ⟨ob, Heap.get?_push_of_some o e⟩, fun b ob e nb _ => ⟨Heap.get?_push_of_some o e, nb⟩⟩, rfl, rfl⟩
theorem new_off' (S : SIg g σ s.heap) : s.heap.objs.size ∉ dom σ := (new_off S (get_none_of_ge (Nat.le_refl _))).1

inductive View (σ : Store) : AV → AV → Prop
  | refl {d} : View σ d d
  | lst {a xs} : σ.lookup a = some (.lst xs) → View σ (.raw (.ref a)) (.lst xs)
theorem View.list {d : AV} {xs : List AV} {h : Heap} {v : Value} (w : View σ d (.lst xs)) (S : SIg g σ h) (r : RepV h (dom σ) v d) : ∃ a vs k, v = .ref a ∧ h.get? a = some (listOf vs.toArray k) ∧ RepL h (dom σ) vs xs := by
  cases w with
  | refl => cases r with | lst e nb rl => exact ⟨_, _, _, rfl, e, rl⟩
  | lst hl =>
    cases r
    obtain ⟨vs, k, e, rl⟩ := S.rep _ (mem_of_lookupA hl)
    exact ⟨_, _, _, rfl, e, rl⟩
theorem View.reads {d e : AV} {h : Heap} {v : Value} (w : View σ d e) (S : SIg g σ h) (r : RepV h (dom σ) v d) (q : isPy e = true) : ∃ as, Reads h v (py e) as := by
  cases w with
  | refl => exact reads_of r q
  | lst hl =>
    cases r
    obtain ⟨vs, k, e, rl⟩ := S.rep _ (mem_of_lookupA hl)
    obtain ⟨as, ra⟩ := readsAll_of rl (by simpa only [isPy] using q)
    exact ⟨_, by rw [py]; exact .list e rfl rfl ra⟩

open Classical in
theorem eq_view {d e d' e' : AV} {Q : AV → Store → Prop} (vd : View σ d d') (ve : View σ e e') (hd : small 9 d' = true) (he : small 9 e' = true) (h : Q (.bool (decide (d' = e'))) σ) : CmpOk g (n + 8) .Eq d e σ Q := by
  intro A s va vb hr hs ra rb
  have kd := small_ok d' 9 hd
  have ke := small_ok e' 9 he
  obtain ⟨as, r1⟩ := vd.reads hs ra kd.1
  obtain ⟨bs, r2⟩ := ve.reads hs rb ke.1
  have hq : PyData.eqv (py d') (py e') = decide (d' = e') := by
    have := py_eqv d' e' kd.1 ke.1
    by_cases hq : d' = e'
    · rw [decide_eq_true hq]; exact this.mpr hq
    · rw [decide_eq_false hq]; exact Bool.eq_false_iff.mpr fun x => hq (this.mp x)
  have hu : A.units + min (py d').depth (py e').depth < cLine := by have := hr.2.2; have := Nat.min_le_left (py d').depth (py e').depth; omega
  exact SeqAt.compareEq_reads r1 r2 kd.2.1 ke.2.1 hu (by rw [hq]; exact ⟨_, _, h, .bool _, .refl hs⟩)
open Classical in
theorem ne_view {d e d' e' : AV} {Q : AV → Store → Prop} (vd : View σ d d') (ve : View σ e e') (hd : small 9 d' = true) (he : small 9 e' = true) (h : Q (.bool (!decide (d' = e'))) σ) : CmpOk g (n + 9) .NotEq d e σ Q := by
  intro A s va vb hr hs ra rb
  have kd := small_ok d' 9 hd
  have ke := small_ok e' 9 he
  obtain ⟨as, r1⟩ := vd.reads hs ra kd.1
  obtain ⟨bs, r2⟩ := ve.reads hs rb ke.1
  have hq : PyData.eqv (py d') (py e') = decide (d' = e') := by
    have := py_eqv d' e' kd.1 ke.1
    by_cases hq : d' = e'
    · rw [decide_eq_true hq]; exact this.mpr hq
    · rw [decide_eq_false hq]; exact Bool.eq_false_iff.mpr fun x => hq (this.mp x)
  refine ne_dataH r1 r2 ?_ ?_ (by have := hr.2.2; (with_reducible exact Mine.om_un (by assumption) (by decide))) (by rw [hq]; exact ⟨_, _, h, .bool _, .refl hs⟩)
  · unfold SeqAt.shaped; rw [kd.2.1, Bool.true_and]; exact decide_eq_true (Nat.le_trans kd.2.2 (by decide))
  · unfold SeqAt.shaped; rw [ke.2.1, Bool.true_and]; exact decide_eq_true (Nat.le_trans ke.2.2 (by decide))
theorem pys_any : ∀ (l : List AV) (d : AV), isPys l = true → isPy d = true → ((pys l).any (fun y => PyData.eqv y (py d)) = true ↔ d ∈ l)
  | [], d, _, _ => by simp [pys]
  | e :: l, d, h, hd => by
    simp only [isPys, Bool.and_eq_true] at h
    have q := pys_any l d h.2 hd
    have q1 := py_eqv e d h.1 hd
    simp only [pys, List.any_cons, Bool.or_eq_true, q, q1, List.mem_cons]
    constructor
    · rintro (x | x)
      · exact .inl x.symm
      · exact .inr x
    · rintro (x | x)
      · exact .inl x.symm
      · exact .inr x
open Classical in
theorem in_view {d c : AV} {xs : List AV} {Q : AV → Store → Prop} (vc : View σ c (.lst xs)) (hd : small 8 d = true) (hx : smalls 8 xs = true) (h : Q (.bool (decide (d ∈ xs))) σ) : CmpOk g (n + 8) .In d c σ Q := by
  intro A s va vb hr hs ra rb
  have kd := small_ok d 8 hd
  have kx := smalls_ok xs 8 hx
  obtain ⟨as, r1⟩ := reads_of ra kd.1
  obtain ⟨bs, r2⟩ := vc.reads hs rb (by simpa only [isPy] using kx.1)
  rw [py] at r2
  have hq : ((pys xs).any fun y => PyData.eqv y (py d)) = decide (d ∈ xs) := by
    have := pys_any xs d kx.1 kd.1
    by_cases hq : d ∈ xs
    · rw [decide_eq_true hq]; exact this.mpr hq
    · rw [decide_eq_false hq]; exact Bool.eq_false_iff.mpr fun z => hq (this.mp z)
  have := hr.2.2
  have := Nat.min_le_right (PyData.depthAll (pys xs)) (py d).depth
  exact SeqAt.in_list_reads r2 r1 kx.2.1 kd.2.1 (by omega) (by rw [hq]; exact ⟨_, _, h, .bool _, .refl hs⟩)
open Classical in
theorem notin_view {d c : AV} {xs : List AV} {Q : AV → Store → Prop} (vc : View σ c (.lst xs)) (hd : small 8 d = true) (hx : smalls 8 xs = true) (h : Q (.bool (!decide (d ∈ xs))) σ) : CmpOk g (n + 8) .NotIn d c σ Q := by
  intro A s va vb hr hs ra rb
  have kd := small_ok d 8 hd
  have kx := smalls_ok xs 8 hx
  obtain ⟨as, r1⟩ := reads_of ra kd.1
  obtain ⟨bs, r2⟩ := vc.reads hs rb (by simpa only [isPy] using kx.1)
  rw [py] at r2
  have hq : ((pys xs).any fun y => PyData.eqv y (py d)) = decide (d ∈ xs) := by
    have := pys_any xs d kx.1 kd.1
    by_cases hq : d ∈ xs
    · rw [decide_eq_true hq]; exact this.mpr hq
    · rw [decide_eq_false hq]; exact Bool.eq_false_iff.mpr fun z => hq (this.mp z)
  have := hr.2.2
  have := Nat.min_le_right (PyData.depthAll (pys xs)) (py d).depth
  exact SeqAt.notIn_list_reads r2 r1 kx.2.1 kd.2.1 (by omega) (by rw [hq]; exact ⟨_, _, h, .bool _, .refl hs⟩)

theorem EV_tuple {es : List Expr} {k : Nat} {pos : Pos} {Q : AV → Store → Prop} (h : EL g n env pos es ℓ σ fun ds σ' => ds.length ≤ 1000 ∧ Q (.tup ds) σ') : EV g n env (.Tuple es k pos) ℓ σ Q := by
  intro A s hr hs hf
  refine wpAny_Tuple (wpAny_mono (h A s hr hs hf) ?_ fun _ _ f => f)
  rintro vs s₁ ⟨ds, σ₁, ⟨hl, q⟩, rl, p⟩
  have := rl.length
  refine ⟨by unfold sizeLine; (with_reducible exact Mine.om_eqle2 (by assumption) (by assumption) (by decide)), _, σ₁, q, .tup (Heap.get?_push_size _ rfl) (new_off' p.si) (rl.keep (Post.frz p.si).keepsF), p.trans (.frz p.si)⟩
theorem EV_list {es : List Expr} {pos : Pos} {Q : AV → Store → Prop} (h : EL g n env pos es ℓ σ fun ds σ' => ds.length ≤ 1000 ∧ Q (.lst ds) σ') : EV g n env (.List es pos) ℓ σ Q := by
  intro A s hr hs hf
  refine wpAny_List (wpAny_mono (h A s hr hs hf) ?_ fun _ _ f => f)
  rintro vs s₁ ⟨ds, σ₁, ⟨hl, q⟩, rl, p⟩
  have := rl.length
  refine ⟨by unfold sizeLine; (with_reducible exact Mine.om_eqle2 (by assumption) (by assumption) (by decide)), _, σ₁, q, .lst (Heap.get?_push_size _ rfl) (new_off' p.si) (rl.keep (Post.frz p.si).keepsF), p.trans (.frz p.si)⟩
theorem EV_listM {es : List Expr} {pos : Pos} {Q : AV → Store → Prop} (h : EL g n env pos es ℓ σ fun ds σ' => ds.length ≤ 1000 ∧ ∀ a, a ∉ dom σ' → Q (.raw (.ref a)) ((a, .lst ds) :: σ')) : EV g n env (.List es pos) ℓ σ Q := by
  intro A s hr hs hf
  refine wpAny_List (wpAny_mono (h A s hr hs hf) ?_ fun _ _ f => f)
  rintro vs s₁ ⟨ds, σ₁, ⟨hl, q⟩, rl, p⟩
  have := rl.length
  obtain ⟨h1, h2⟩ := Post.new (o := { cls := .type "list", data := .seq vs.toArray }) (ao := .lst ds) p.si rfl fun h' e k => ⟨vs, 0, e, rl.keep k⟩
  exact ⟨by unfold sizeLine; (with_reducible exact Mine.om_eqle2 (by assumption) (by assumption) (by decide)), _, _, q _ h1, .raw _, p.trans h2⟩
end
end Mine

end
/- part Core6 -/
section
open PySem PySem.W PyProof.Rows
set_option Elab.async false
namespace Mine
open PySem PySem.W PyProof.Rows PySem.Calls PySem.Spec

theorem erase_last {α : Type} : ∀ (l : List α) (k : Nat), l.length = k + 1 → l.eraseIdx k = l.take k
  | [], k, h => by simp at h
  | [x], k, h => by simp at h; subst h; rfl
  | x :: y :: r, 0, h => by simp at h
  | x :: y :: r, k + 1, h => by
    show x :: (y :: r).eraseIdx k = x :: (y :: r).take k
    rw [erase_last (y :: r) k (by simpa using h)]
section
variable {g : Gr} {A : Around} {s s₀ : Shared} {σ σ₀ : Store} {n : Nat} {env : Env} {ℓ : Loc}

noncomputable def ItemOk (g : Gr) (n : Nat) (value slice : Expr) (o i : AV) (σ : Store) (Q : AV → Store → Prop) : Prop :=
  ∀ A s vo vi, Room n A → SIg g σ s.heap → RepV s.heap (dom σ) vo o → RepV s.heap (dom σ) vi i → TR g A (subscriptTail value slice vo vi) s σ Q
theorem EV_sub {value slice : Expr} {pos : Pos} {Q : AV → Store → Prop} (h : EV g n env value ℓ σ fun o σ₁ => EV g n env slice ℓ σ₁ fun i σ₂ => ItemOk g n value slice o i σ₂ Q) : EV g n env (.Subscript value slice pos) ℓ σ Q := by
  intro A s hr hs hf
  refine Subscript_ (wpAny_mono (h A s hr hs hf) ?_ fun _ _ f => f)
  rintro va s₁ ⟨a, σ₁, h₁, ra, p₁⟩
  refine wpAny_mono (h₁ A s₁ hr p₁.si (hf.ext p₁.ext)) ?_ fun _ _ f => f
  rintro vb s₂ ⟨b, σ₂, h₂, rb, p₂⟩
  exact (h₂ A s₂ va vb hr p₂.si (ra.keep p₂.keepsF) rb).of_post (p₁.trans p₂)
theorem item_list {value slice : Expr} {o : AV} {xs : List AV} {k : Int} {d : AV} {Q : AV → Store → Prop} (w : View σ o (.lst xs)) (h0 : 0 ≤ k) (h1 : k < 2 ^ 63) (hx : xs[k.toNat]? = some d) (h : Q d σ)
    (hs : ∀ a u, subscripted slice false (.ref a) (.int k u) = operate [.ref a, .int k u] (getItem (.ref a) (.int k u)) := by intro _ _; with_unfolding_all rfl) : ItemOk g n value slice o (.int k) σ Q := by
  intro A s vo vi hr hS ro ri
  cases ri
  obtain ⟨a, vs, c, rfl, e, rl⟩ := w.list hS ro
  obtain ⟨v, hv, rv⟩ := rl.get hx
  have hl : s.heap.IsList a vs.toArray := ⟨_, e, rfl, c, rfl⟩
  exact tail_any hl.typeIs slot_list_getitem.lookup (wpAny_getItem_list hl h0 h1 (by simpa using hv) ⟨d, σ, h, rv, .refl hS⟩) (hs _ _)
theorem item_tup {value slice : Expr} {xs : List AV} {k : Int} {j : Nat} {d : AV} {Q : AV → Store → Prop} (h0 : -(2 ^ 63) ≤ k) (h1 : k < 2 ^ 63) (hj : seqIndex? k xs.length = some j) (hx : xs[j]? = some d) (h : Q d σ)
    (hs : ∀ a u, subscripted slice false (.ref a) (.int k u) = operate [.ref a, .int k u] (getItem (.ref a) (.int k u)) := by intro _ _; with_unfolding_all rfl) : ItemOk g n value slice (.tup xs) (.int k) σ Q := by
  intro A s vo vi hr hS ro ri
  cases ri
  cases ro with
  | @tup a vs c ds e nb rl =>
    obtain ⟨v, hv, rv⟩ := rl.get hx
    exact item_tupleT (l := vs) ⟨_, e, rfl, c, rfl⟩ h0 h1 (by rw [rl.length]; exact hj) hv ⟨d, σ, h, rv, .refl hS⟩ (hs _ _)

theorem setItem_list_exact {l : Addr} {items : Array Value} {c : Nat} {k : Int} {t : Tok} {v : Value} {Q : Unit → Shared → Prop} {E : Value → Shared → Prop} (hl : IsL s.heap l items c) (h0 : 0 ≤ k) (hfit : k < 2 ^ 63) (hn : k < items.size)
    (hQ : Q () { s with heap := s.heap.update l (Obj.mapSeq (·.setIfInBounds k.toNat v)) }) : wpAny (model g.prog g.w) A (setItem (.ref l) (.int k t) v) Q E s := by
  have hl' := hl.isList
  unfold setItem
  try with_reducible refine wpAny_holding ?_
  first | refine wpAny_bind (wpAny_pure ?_) | skip
  refine wpAny_bind (wpAny_sequenceKey hl'.typeIs (by decide) ?_)
  refine wpAny_bind (wpAny_callSpecial?_slot (name := Str.ofString "__setitem__") hl'.typeIs slot_list_setitem
    (wpAny_call_entry slot_list_setitem hl'.typeIs entry_list_setitem ?_ (args_list_setitem _ _ _)))
  show wpAny _ _ (Builtin.List.listSubscript? (.int k t) >>= _) _ _ s
  refine wpAny_bind (wpAny_listSubscript_int (fitsIndex_of h0 hfit) ?_)
  clear hfit
  obtain ⟨j, rfl⟩ := Int.eq_ofNat_of_zero_le h0
  have hj : j < items.size := by omega
  have hx' : items[j]? = some items[j] := Array.getElem?_eq_getElem hj
  show wpAny _ _ ((seqItemAt l j >>= fun r => pure (r.map (j, ·))) >>= _) _ _ s
  refine wpAny_bind (wpAny_bind (wpAny_seqItemAt hl rfl (wpAny_pure ?_)))
  rw [hx']
  show wpAny _ _ (setSeqItemAt l j v >>= _) _ _ s
  refine wpAny_bind (wpAny_setSeqItemAt hl rfl ?_)
  first
    | exact wpAny_bind (wpAny_pure (wpAny_pure ⟨.none, rfl, wpAny_pure hQ⟩))
    | exact wpAny_pure ⟨.none, rfl, wpAny_pure hQ⟩

theorem ES_store {o i e : Expr} {pos' pos : Pos} {Q : AF → Loc → Store → Prop}
    (h : EV g n env e ℓ σ fun d σ₁ => EV g n env o ℓ σ₁ fun od σ₂ => EV g n env i ℓ σ₂ fun id σ₃ => ∃ a xs k, od = .raw (.ref a) ∧ id = .int k ∧ σ₃.lookup a = some (.lst xs) ∧ 0 ≤ k ∧ k < xs.length ∧ xs.length < 1000000 ∧ Q .next ℓ (upd σ₃ a (.lst (xs.set k.toNat d))))
    (hs : swapsWith e (some (.Subscript o i pos')) pos.line env = pure false := by rfl) : ES g n env (.Assign [.Subscript o i pos'] e pos) ℓ σ Q := by
  refine ES_setitem (h.mono fun d σ₁ h₁ => h₁.mono fun od σ₂ h₂ => h₂.mono fun id σ₃ h₃ => ?_) hs
  obtain ⟨a, xs, k, rfl, rfl, hl, h0, h1, hz, q⟩ := h₃
  intro A s v ov iv hr hS rv ro ri
  cases ro; cases ri
  obtain ⟨vs, c, e, rl⟩ := hS.rep _ (mem_of_lookupA hl)
  have hlen := rl.length
  have e' : IsL s.heap a vs.toArray c := e
  refine setItem_list_exact e' h0 (by omega) (by simp; omega) ⟨_, q, Post.upd (tk := s.toks) hS hl (Heap.SameBut.update ..) fun k' => ?_⟩
  refine ⟨vs.set k.toNat v, c, ?_, (rl.set rv _).keep k'⟩
  have := e'.update (fun x => x.setIfInBounds k.toNat v)
  simpa using this

theorem len_list {o : AV} {xs : List AV} {Q : AV → Store → Prop} (w : View σ o (.lst xs)) (hz : xs.length < 1000000) (h : Q (.int xs.length) σ) : CALL g n (.builtin "len") [o] [] σ Q := by
  intro A s vs kvs hr hS ra ek rk
  have hk : kvs = [] := by simpa using ek
  subst hk
  obtain ⟨_, rfl, ro⟩ := ra.oneI
  · obtain ⟨a, vs, c, rfl, e, rl⟩ := w.list hS ro
    have hl : s.heap.IsList a vs.toArray := ⟨_, e, rfl, c, rfl⟩
    have hlen := rl.length
    exact call_len_list hl (by simp; omega) ⟨_, σ, h, by simpa [hlen] using RepV.int _ _, .tok hS _⟩
theorem TruOk_list {o : AV} {xs : List AV} {Q : Bool → Store → Prop} (w : View σ o (.lst xs)) (hz : xs.length < 1000000) (h : Q (!xs.isEmpty) σ) : TruOk g n o σ Q := by
  intro A s va hr hS ro
  obtain ⟨a, vs, c, rfl, e, rl⟩ := w.list hS ro
  have hl : s.heap.IsList a vs.toArray := ⟨_, e, rfl, c, rfl⟩
  have hlen := rl.length
  refine wpAny_truthy_list hl (by simp; omega) ⟨σ, ?_, .tok hS _⟩
  have : (vs.toArray.isEmpty) = xs.isEmpty := by
    cases rl <;> rfl
  rw [this]; exact h

theorem EV_meth {o : Expr} {name : Str} {apos pos : Pos} {es : List Expr} {T id : String} {Q : AV → Store → Prop} (pa : PlainAttrs T) (slot : Slot T name id) (hty : typeOf (.builtin id) = pure (.type "method_descriptor"))
    (hes : (backTo pos (starEach es env)).all (fun x => !x.1) = true) (hfew : es.length < 30) (hline : (apos.endLine == pos.line) = true) (hbase : attributeBase o name env (eval o env) = eval o env)
    (h : EV g n env o ℓ σ fun d σ₁ => (∀ (s : Shared) v, SIg g σ₁ s.heap → RepV s.heap (dom σ₁) v d → s.TypeIs v T ∧ ∀ a, v = .ref a → ∃ o, s.heap.get? a = some o ∧ o.dict = none) ∧
      EL g n env pos es ℓ σ₁ fun ds σ₂ => CALL g n (.builtin id) (d :: ds) [] σ₂ Q) : EV g n env (.Call (.Attribute o name apos) es [] pos) ℓ σ Q := by
  intro A s hr hs hf
  refine wpAny_Call_method_late (trees := backTo pos (starEach es env)) hbase ?_ hline rfl (wpAny_mono (h A s hr hs hf) ?_ fun _ _ f => f)
  · rw [hes]
    show (_ && decide (es.length + 0 < 30)) = true
    rw [Bool.true_and]; exact decide_eq_true hfew
  · rintro v s₁ ⟨d, σ₁, ⟨ht, q₁⟩, rv, p₁⟩
    obtain ⟨h1, h2⟩ := ht s₁ v p₁.si rv
    refine ⟨T, id, pa, slot, hty, h1, h2, ?_⟩
    refine callWith_builtin (any_of_all hes) (evalArgs_el hes (wpAny_mono (q₁ A s₁ hr p₁.si (hf.ext p₁.ext)) ?_ fun _ _ f => f))
    rintro vs s₂ ⟨ds, σ₂, q₂, rvs, p₂⟩
    exact (q₂ A s₂ (v :: vs) [] hr p₂.si (.cons (rv.keep p₂.keepsF) rvs) rfl .nil).of_post (p₁.trans p₂)
theorem type_lst {a : Addr} {xs : List AV} (hl : σ.lookup a = some (.lst xs)) : ∀ (s : Shared) v, SIg g σ s.heap → RepV s.heap (dom σ) v (.raw (.ref a)) → s.TypeIs v "list" ∧ ∀ a, v = .ref a → ∃ o, s.heap.get? a = some o ∧ o.dict = none := by
  intro s v S r
  cases r
  obtain ⟨vs, c, e, _⟩ := S.rep _ (mem_of_lookupA hl)
  exact ⟨⟨_, e, rfl⟩, fun b q => by cases q; exact ⟨_, e, rfl⟩⟩
theorem CALL_append {a : Addr} {xs : List AV} {d : AV} {Q : AV → Store → Prop} (hl : σ.lookup a = some (.lst xs)) (hz : xs.length < 1000000) (h : Q .none (upd σ a (.lst (xs ++ [d])))) : CALL g n (.builtin "list.append") [.raw (.ref a), d] [] σ Q := by
  intro A s vs kvs hr hS ra ek rk
  have hk : kvs = [] := by simpa using ek
  subst hk
  obtain ⟨_, v, rfl, ro, rv⟩ := ra.twoI
  obtain rfl := ro.rawI
  · · obtain ⟨vs, c, e, rl⟩ := hS.rep _ (mem_of_lookupA hl)
      have hlen := rl.length
      have e' : IsL s.heap a vs.toArray c := e
      refine call_meets PySem.F.slot_list_append ⟨_, e', rfl⟩ PySem.F.entry_list_append (PySem.F.args_list_append_2 _ _) (list_append a vs.toArray c v (by simp; unfold sizeLine; (with_reducible exact Mine.om_eqle (by assumption) (by assumption) (by decide)))) ⟨e', ?_⟩
      refine ⟨_, _, h, .none, Post.upd (tk := s.toks) hS hl (Heap.SameBut.update ..) fun k' => ⟨vs ++ [v], c + 1, ?_, ((rl.append (.cons rv .nil))).keep k'⟩⟩
      have := e'.update (fun x => x.push v)
      simpa using this
theorem CALL_pop {a : Addr} {xs : List AV} {d : AV} {Q : AV → Store → Prop} (hl : σ.lookup a = some (.lst (xs ++ [d]))) (hz : xs.length < 1000000) (h : Q d (upd σ a (.lst xs))) : CALL g n (.builtin "list.pop") [.raw (.ref a)] [] σ Q := by
  intro A s vs kvs hr hS ra ek rk
  have hk : kvs = [] := by simpa using ek
  subst hk
  obtain ⟨_, rfl, ro⟩ := ra.oneI
  obtain rfl := ro.rawI
  · · obtain ⟨vs, c, e, rl⟩ := hS.rep _ (mem_of_lookupA hl)
      have hlen := rl.length
      simp only [List.length_append, List.length_cons, List.length_nil] at hlen
      obtain ⟨v, hv, rv⟩ := rl.get (k := xs.length) (d := d) (by simp)
      have e' : IsL s.heap a vs.toArray c := e
      refine call_meets PySem.F.slot_list_pop ⟨_, e', rfl⟩ PySem.F.entry_list_pop (PySem.F.args_list_pop_1 _) (MeetsSeq.list_pop_last a vs.toArray c v (by simpa [hlen] using hv) (by simp; unfold sizeLine; omega)) ⟨e', ?_⟩
      have P : Post g [] s σ { s with heap := s.heap.update a (Obj.mapSeq fun xs => xs.eraseIdxIfInBounds (vs.toArray.size - 1)), toks := s.toks } (upd σ a (.lst xs)) := by
        refine Post.upd (tk := s.toks) hS hl (Heap.SameBut.update ..) fun k' => ⟨vs.take xs.length, c + 1, ?_, ?_⟩
        · have := e'.update (fun x => x.eraseIdxIfInBounds (vs.toArray.size - 1))
          rw [this]
          have e1 : vs.toArray.eraseIdxIfInBounds (vs.toArray.size - 1) = (vs.take xs.length).toArray := by
            have hlt : vs.toArray.size - 1 < vs.toArray.size := by simp; omega
            rw [Array.eraseIdxIfInBounds, dif_pos hlt]
            apply Array.ext'
            simp only [List.eraseIdx_toArray, List.size_toArray]
            rw [hlen]
            exact erase_last vs xs.length hlen
          rw [e1]
          have e2 : ((vs.take xs.length).toArray.size == vs.toArray.size) = false := by simp [hlen]
          rw [e2]; rfl
        · have := (RepL.take xs.length rl).keep k'
          simpa using this
      exact ⟨d, _, h, rv.keep P.keepsF, P⟩
end
end Mine

end
/- part Core7 -/
section
open PySem PySem.W PyProof.Rows
set_option Elab.async false
namespace Mine
open PySem PySem.W PyProof.Rows PySem.Calls PySem.Spec

noncomputable def ltI : List Int → List Int → Bool
  | [], [] => false
  | [], _ :: _ => true
  | _ :: _, [] => false
  | a :: x, b :: y => if a = b then ltI x y else decide (a < b)
inductive IntsV : List Value → List Int → Prop
  | nil : IntsV [] []
  | cons {i t vs l} : IntsV vs l → IntsV (.int i t :: vs) (i :: l)
theorem intsV_of {h : Heap} {D : List Addr} : ∀ {vs : List Value} {l : List Int}, RepL h D vs (l.map .int) → IntsV vs l
  | _, [], .nil => .nil
  | _, _ :: _, .cons x r => by cases x; exact .cons (intsV_of r)

section
variable {g : Gr} {A : Around} {s s₀ : Shared} {σ σ₀ : Store} {n : Nat} {env : Env} {ℓ : Loc} {E : Value → Shared → Prop}

theorem tuple_lt_tree {x y : List Int} {xs ys : List Value} {a b : Addr} {ca cb : Nat} {P : Fin → Shared → Prop} (ha : s.heap.get? a = some ({ cls := .type "tuple", data := .seq xs.toArray ca } : Obj)) (hb : s.heap.get? b = some ({ cls := .type "tuple", data := .seq ys.toArray cb } : Obj))
    (hx : IntsV xs x) (hy : IntsV ys y) (h : P (.done (.ret (.bool (ltI x y)))) s) : wpAny (model g.prog g.w) A (Builtin.«tuple.__lt__» ⟨[.ref a, .ref b], []⟩) P E s := by
  show wpAny _ _ (isInstance (.ref b) (.type "tuple") >>= _) _ _ s
  refine wpAny_bind (wpAny_isInstance (T := "tuple") ⟨_, hb, rfl⟩ isSubtype_tuple_tuple ?_)
  simp only [Bool.not_true, Bool.false_eq_true, if_false]
  refine wpAny_bind (wpAny_tupleItemsOf ha rfl ?_)
  refine wpAny_bind (wpAny_tupleItemsOf hb rfl ?_)
  refine wpAny_bind ?_
  refine wpAny_forIn_list _
    (fun rest r s' => r.1 = none ∧ s' = s ∧ ∃ x' y' xs' ys', rest = List.zip xs' ys' ∧ IntsV xs' x' ∧ IntsV ys' y' ∧ ltI x' y' = ltI x y ∧ (decide (xs'.length < ys'.length)) = decide (xs.length < ys.length))
    _ ?_ ?_ _ _ ⟨rfl, rfl, x, y, xs, ys, rfl, hx, hy, rfl, rfl⟩
  · rintro ⟨u, v⟩ rest r s' ⟨hr, rfl, x', y', xs', ys', hz, hx', hy', hdec, hlen⟩
    cases hx' with
    | nil => simp at hz
    | @cons i t xs'' x'' hx'' =>
      cases hy' with
      | nil => simp at hz
      | @cons j t' ys'' y'' hy'' =>
        simp only [List.zip_cons_cons, List.cons.injEq, Prod.mk.injEq] at hz
        obtain ⟨⟨rfl, rfl⟩, rfl⟩ := hz
        refine wpAny_bind (wpAny_eqBool_int ?_)
        by_cases hk : i = j
        · subst hk
          simp only [beq_self_eq_true, Bool.not_true, Bool.false_eq_true, if_false]
          refine wpAny_pure ⟨rfl, rfl, x'', y'', xs'', ys'', rfl, hx'', hy'', ?_, by simpa using hlen⟩
          rw [← hdec, ltI, if_pos rfl]
        · have hk' : (i == j) = false := by simpa using hk
          simp only [hk', Bool.not_false, if_true]
          rw [ltI, if_neg hk] at hdec
          refine wpAny_bind (wpAny_rule (wpAny_bind ?_))
          show wpAny _ _ (compareOp .Lt _ _) _ _ _
          refine PyProof.Rows.lt_int ?_
          rw [hdec]
          refine wpAny_bind (wpAny_pure (wpAny_pure ?_))
          exact wpAny_pure h
  · rintro ⟨r1, r2⟩ s' ⟨hr, rfl, x', y', xs', ys', hz, hx', hy', hdec, hlen⟩
    simp only at hr
    subst hr
    refine wpAny_pure ?_
    show P (.done (.ret (.bool (decide (xs.toArray.size < ys.toArray.size))))) s'
    have : decide (xs.toArray.size < ys.toArray.size) = ltI x y := by
      rw [← hdec]
      simp only [List.size_toArray]
      rw [← hlen]
      cases hx' with
      | nil =>
        cases hy' with
        | nil => simp [ltI]
        | cons _ => simp [ltI]
      | cons _ =>
        cases hy' with
        | nil => simp [ltI]
        | cons _ => simp at hz
    rw [this]; exact h

theorem lt_tup {x y : List Int} {Q : AV → Store → Prop} (h : Q (.bool (ltI x y)) σ) : CmpOk g (n + 1) .Lt (.tup (x.map .int)) (.tup (y.map .int)) σ Q := by
  intro A s va vb hr hs ra rb
  obtain ⟨a, vs, na, rfl, ea, _, la⟩ := ra.tupI
  obtain ⟨b, us, nb, rfl, eb, _, lb⟩ := rb.tupI
  · · refine cmp_ofLt (wpAny_richCompare_same_room (T := "tuple") (id := "tuple.__lt__") ⟨_, ea, rfl⟩ ⟨_, eb, rfl⟩ PySem.F.slot_tuple_lt ?_ (by have := hr.2.2; (with_reducible exact Mine.om_un0 (by assumption))))
      refine wpAny_call_entry PySem.F.slot_tuple_lt ⟨_, ea, rfl⟩ PySem.F.entry_tuple_lt ?_ (PySem.F.args_tuple_lt_2 _ _)
      exact tuple_lt_tree ea eb (intsV_of la) (intsV_of lb) ⟨_, rfl, by simp, _, _, h, .bool _, .refl hs⟩
end
end Mine
namespace Mine
open PySem PySem.W
theorem EB_sub {g : Gr} {n : Nat} {env : Env} {e : PySem.Expr} {ℓ ℓ' : Loc} {σ : Store} {Q : Bool → Store → Prop} (hs : Sub ℓ' ℓ) (h : EB g n env e ℓ' σ Q) : EB g n env e ℓ σ Q := fun A s r i f => h A s r i (f.sub hs)
theorem EV_subl {g : Gr} {n : Nat} {env : Env} {e : PySem.Expr} {ℓ ℓ' : Loc} {σ : Store} {Q : AV → Store → Prop} (hs : Sub ℓ' ℓ) (h : EV g n env e ℓ' σ Q) : EV g n env e ℓ σ Q := fun A s r i f => h A s r i (f.sub hs)
end Mine
namespace Mine
open PySem PySem.W PyProof.Rows PySem.Calls PySem.Spec
theorem map_fst_zip' {α β : Type} : ∀ {l : List α} {r : List β}, l.length = r.length → (l.zip r).map (·.1) = l
  | [], [], _ => rfl
  | a :: l, b :: r, h => by rw [List.zip_cons_cons, List.map_cons, map_fst_zip' (by simpa using h)]
  | [], _ :: _, h => by simp at h
  | _ :: _, [], h => by simp at h
theorem CALL_pos {g : Gr} {n : Nat} {σ : Store} (G : Gd g) {a : Addr} {oc : Value} {od : Option Addr} {osl : Array (Option Value)} {fd : FuncData} {body : List Stmt} {args : List AV} {Q : AV → Store → Prop} (names : List Str)
    (ho : g.K.lookup a = some ⟨oc, od, .func fd, osl⟩) (hbody : fd.body = .stmts body) (hcd : codeIn g.K fd.code fd.qualname = true) (hg : fd.globals = mainGlobals) (hbl : fd.builtins = builtinsNs) (hcl : fd.closure = [])
    (hk : fd.scope.kind = .function) (hco : fd.scope.isCoroutine = false) (hgen : fd.scope.isGenerator = false) (hfree : (fd.scope.names.all fun p => p.2 != .free) = true) (hnd : ((cellsFrom 0 fd.scope.names []).map (·.1)).Nodup)
    (hl : names.length = args.length) (hnl : names.Nodup) (hkinds : (names.all fun y => fd.scope.names.lookup y == some .local || fd.scope.names.lookup y == some .cell) = true)
    (hb : ∀ vs : List Value, vs.length = names.length → bindArgs fd ⟨vs, []⟩ = pure (names.zip vs))
    (h : ∀ L, EX g n (callEnvC fd L a) body (names.zip args) σ fun r _ σ' => Q (retOf r) σ') : CALL g (n + 1) (.ref a) args [] σ Q := by
  refine CALL_def G ho hbody hcd hg hbl hcl hk hco hgen hfree hnd (by rw [map_fst_zip' hl]; exact hnl) ?_ (BindOk.pos hl hb) h
  rw [List.all_eq_true] at hkinds ⊢
  intro y hy
  exact hkinds y.1 (by have := List.mem_map_of_mem (f := (·.1)) hy; rwa [map_fst_zip' hl] at this)
end Mine
namespace Mine
open PySem PySem.W PyProof.Rows PySem.Calls PySem.Spec
structure Upd (σ : Store) (a : Addr) (o : AO) (σ' : Store) : Prop where
  self : σ'.lookup a = some o
  old : ∀ b x, b ≠ a → σ.lookup b = some x → σ'.lookup b = some x
theorem Upd.refl {σ : Store} {a : Addr} {o : AO} (h : σ.lookup a = some o) : Upd σ a o σ := ⟨h, fun _ _ _ e => e⟩
theorem Upd.trans {σ σ' σ'' : Store} {a : Addr} {o o' : AO} (x : Upd σ a o σ') (y : Upd σ' a o' σ'') : Upd σ a o' σ'' := ⟨y.self, fun b z hb e => y.old b z hb (x.old b z hb e)⟩
theorem Upd.upd {σ : Store} {a : Addr} {o o' : AO} (h : σ.lookup a = some o) : Upd σ a o' (upd σ a o') := ⟨upd_self h, fun _ _ hb e => (upd_ne hb).trans e⟩
noncomputable def Grow (σ σ' : Store) : Prop := ∀ b x, σ.lookup b = some x → σ'.lookup b = some x
theorem Grow.refl {σ : Store} : Grow σ σ := fun _ _ e => e
theorem Grow.trans {σ σ' σ'' : Store} (x : Grow σ σ') (y : Grow σ' σ'') : Grow σ σ'' := fun b z e => y b z (x b z e)
theorem Grow.new {σ : Store} {a : Addr} {o : AO} (h : a ∉ dom σ) : Grow σ ((a, o) :: σ) := fun _ _ e => lookup_new e h
theorem Grow.upd {σ σ' : Store} {a : Addr} {o : AO} (x : Grow σ σ') {σ'' : Store} (y : Upd σ' a o σ'') (ha : σ.lookup a = none) : Grow σ σ'' := fun b z e => y.old b z (fun q => by rw [q, ha] at e; cases e) (x b z e)
end Mine

end
/- part Core8 -/
section
open PySem PySem.W PyProof.Rows
set_option Elab.async false
namespace Mine
open PySem PySem.W PyProof.Rows PySem.Calls PySem.Spec

noncomputable def Fl (o : Obj) : Prop := ∃ vs, o.data = .fields vs ∧ o.cls ≠ .type "range" ∧ (∀ n, o.cls = .type n → ["enumerate", "zip", "dict_itemiterator", "dict_reverseitemiterator", "odict_iterator", "itertools.zip_longest", "itertools.pairwise"].contains n = false) ∧ ∃ n, o.cls = .type n

inductive Itr (g : Gr) (A : Around) (s : Shared) (σ : Store) (items : List AV) (it : Value) (s' : Shared) (σ' : Store) : Prop
  | mk (I : Addr) (fp wr : List Addr) (P : Nat → Value → Prop) (St : Nat → Heap → Prop) (e : it = .ref I) (W : Walks g.prog g.w A I fp wr items.length P St) (st : St 0 s'.heap) (p : Post g [] s σ s' σ') (hI : I ∈ wr)
    (h1 : ∀ b ∈ wr, s.heap.get? b = none) (h2 : ∀ i h, St i h → ∀ b ∈ fp, ∃ o, h.get? b = some o ∧ (Fz o ∨ Fl o)) (h3 : ∀ i h, St i h → ∀ b ∈ wr, ∃ o, h.get? b = some o ∧ Fl o) (h4 : ∀ b ∈ fp, b ∉ dom σ')
    (h5 : ∀ h' D', KeepsF s'.heap (dom σ') h' D' → ∀ i v, i < items.length → P i v → ∃ d, items[i]? = some d ∧ RepV h' D' v d)
inductive RI (g : Gr) (A : Around) (s : Shared) (σ : Store) (Q : List AV → Store → Prop) (it : Value) (s₂ : Shared) : Prop
  | mk (items : List AV) (σ₂ : Store) (q : Q items σ₂) (x : Itr g A s σ items it s₂ σ₂)

noncomputable def IterOf (g : Gr) (n : Nat) (d : AV) (σ : Store) (items : List AV) : Prop :=
  ∀ A s v, Room n A → SIg g σ s.heap → RepV s.heap (dom σ) v d → wpAny (model g.prog g.w) A (pyIter v) (fun it s' => Itr g A s σ items it s' σ) (fun _ _ => False) s
noncomputable def EI (g : Gr) (n : Nat) (env : Env) (e : Expr) (ℓ : Loc) (σ : Store) (Q : List AV → Store → Prop) : Prop :=
  ∀ A s, Room n A → SIg g σ s.heap → FI g.hB s.heap (dom σ) env ℓ → wpAny (model g.prog g.w) A (eval e env) (fun x s₁ => wpAny (model g.prog g.w) A (pyIter x) (RI g A s σ Q) (fun _ _ => False) s₁) (fun _ _ => False) s
inductive RA (g : Gr) (env : Env) (s : Shared) (σ : Store) (Q : Loc → Prop) (s' : Shared) : Prop
  | mk (ℓ' : Loc) (q : Q ℓ') (fi : FI g.hB s'.heap (dom σ) env ℓ') (p : Post g (fa env) s σ s' σ)
noncomputable def ASG (g : Gr) (n : Nat) (env : Env) (t : Expr) (d : AV) (ℓ : Loc) (σ : Store) (Q : Loc → Prop) : Prop :=
  ∀ A s v, Room n A → SIg g σ s.heap → FI g.hB s.heap (dom σ) env ℓ → RepV s.heap (dom σ) v d → wpAny (model g.prog g.w) A (assign t env v) (fun _ s' => RA g env s σ Q s') (fun _ _ => False) s

section
variable {g : Gr} {A : Around} {s s₀ : Shared} {σ σ₀ : Store} {n : Nat} {env : Env} {ℓ : Loc}

theorem Fl.nf {o : Obj} (h : Fl o) : ¬ Fz o := by
  obtain ⟨vs, hd, hc, _⟩ := h
  intro f
  unfold Fz at f
  rw [hd] at f
  exact hc f
theorem Itr.weak {s₀ : Shared} {σ₀ : Store} {items : List AV} {it : Value} {s' : Shared} {σ' : Store} (p : Post g [] s₀ σ₀ s σ) (x : Itr g A s σ items it s' σ') : Itr g A s₀ σ₀ items it s' σ' := by
  obtain ⟨I, fp, wr, P, St, e, W, st, p', hI, h1, h2, h3, h4, h5⟩ := x
  refine ⟨I, fp, wr, P, St, e, W, st, p.trans p', hI, fun b hb => ?_, h2, h3, h4, h5⟩
  cases q : s₀.heap.get? b with
  | none => rfl
  | some o => obtain ⟨o', q'⟩ := p.ext.there b o q; rw [h1 b hb] at q'; cases q'
theorem EI_val {e : Expr} {Q : List AV → Store → Prop} (h : EV g n env e ℓ σ fun d σ₁ => ∃ items, IterOf g n d σ₁ items ∧ Q items σ₁) : EI g n env e ℓ σ Q := by
  intro A s hr hs hf
  refine wpAny_mono (h A s hr hs hf) ?_ fun _ _ f => f
  rintro v s₁ ⟨d, σ₁, ⟨items, hi, q⟩, rv, p₁⟩
  exact wpAny_mono (hi A s₁ v hr p₁.si rv) (fun it s₂ x => ⟨items, σ₁, q, x.weak p₁⟩) fun _ _ f => f

theorem ASG_name {x : Str} {px : Pos} {d : AV} {Q : Loc → Prop} (hk : env.kindOf x = some .local ∨ env.kindOf x = some .cell) (h : Q ((x, d) :: ℓ)) : ASG g n env (.Name x px) d ℓ σ Q := by
  intro A s v hr hs hf rv
  exact wpAny_assign_Name (store_ok hs hf hk rv fun s' hf' p => ⟨_, h, hf', p⟩)
noncomputable def puts : List Str → List AV → Loc → Loc
  | x :: xs, d :: ds, ℓ => puts xs ds ((x, d) :: ℓ)
  | _, _, ℓ => ℓ
theorem order_ok : ∀ (xs : List (Str × Pos)) (vs : List Value) (ds : List AV) (s : Shared) (ℓ : Loc) (Q : Unit → Shared → Prop), SIg g σ s.heap → FI g.hB s.heap (dom σ) env ℓ → RepL s.heap (dom σ) vs ds → xs.length = vs.length →
    (∀ x ∈ xs, env.kindOf x.1 = some .local ∨ env.kindOf x.1 = some .cell) → (∀ s', FI g.hB s'.heap (dom σ) env (puts (xs.map (·.1)) ds ℓ) → Post g (fa env) s σ s' σ → Q () s') →
    wpAny (model g.prog g.w) A (assignInOrder (xs.map fun x => assign (.Name x.1 x.2) env) vs) Q (fun _ _ => False) s
  | [], [], ds, s, ℓ, Q, hs, hf, rl, _, _, h => by
    cases rl
    exact wpAny_pure (h s hf (.refl hs))
  | (x, px) :: xs, v :: vs, ds, s, ℓ, Q, hs, hf, rl, hl, hk, h => by
    cases rl with
    | cons rv rr =>
      show wpAny _ _ (do holding vs (assign (.Name x px) env v); assignInOrder (xs.map fun x => assign (.Name x.1 x.2) env) vs) _ _ _
      refine wpAny_bind (wpAny_holding (wpAny_assign_Name (store_ok hs hf (hk _ (.head _)) rv fun s' hf' p => ?_)))
      exact order_ok xs vs _ s' _ Q p.si hf' (rr.keep (p.keepsX hf)) (by simpa using hl) (fun y hy => hk y (.tail _ hy)) fun s'' hf'' p' => h s'' hf'' (p.trans p')
  | [], _ :: _, _, _, _, _, _, _, _, hl, _, _ => by simp at hl
  | _ :: _, [], _, _, _, _, _, _, _, hl, _, _ => by simp at hl
theorem keep_newer {h h' : Heap} (hx : Heap.ExtBut h.objs.size h h') : ∀ b o, h.get? b = some o → h'.get? b = some o := fun b o e => hx b o (Nat.ne_of_lt (Heap.lt_size e)) e
theorem Post.keeps {B : List Addr} {h' : Heap} (hs : SIg g σ s.heap) (hk : ∀ b o, s.heap.get? b = some o → h'.get? b = some o) : Post g B s σ { s with heap := h' } σ :=
  ⟨SI.keeps hs hk, ⟨fun b o e => ⟨o, hk _ _ e⟩, fun b o e nb _ => ⟨hk _ _ e, nb⟩⟩, rfl, rfl⟩
theorem ASG_tup {xs : List (Str × Pos)} {k : Nat} {pos : Pos} {ds : List AV} {elts : List Expr} {Q : Loc → Prop} (helts : assignEach elts env = xs.map fun x => (false, assign (.Name x.1 x.2) env)) (hl : xs.length = ds.length)
    (hk : ∀ x ∈ xs, env.kindOf x.1 = some .local ∨ env.kindOf x.1 = some .cell) (h : Q (puts (xs.map (·.1)) ds ℓ)) : ASG g n env (.Tuple elts k pos) (.tup ds) ℓ σ Q := by
  intro A s v hr hs hf rv
  cases rv with
  | tup e nb rl =>
    refine wpAny_assign_Tuple hr.1 ⟨_, e, rfl, _, rfl⟩ (by rw [helts]; simp [hl, rl.length]) ?_ fun h' hx => ?_
    · rw [helts, List.findIdx?_eq_none_iff]
      intro x hx
      obtain ⟨y, _, rfl⟩ := List.mem_map.mp hx
      rfl
    · have p := Post.keeps (B := []) hs (keep_newer hx)
      have em : (assignEach elts env).map (·.2) = xs.map fun x => assign (.Name x.1 x.2) env := by rw [helts, List.map_map]; rfl
      rw [em]
      exact order_ok xs _ ds _ ℓ _ p.si (hf.ext p.ext) (rl.keep p.keepsF) (by rw [hl, rl.length]) hk fun s' hf' p' => ⟨_, h, hf', p.up.trans p'⟩

theorem letGo_ok {t : Expr} {I : Addr} {v : Value} {o : Obj} {Q : Unit → Shared → Prop} {E : Value → Shared → Prop} (e : s.heap.get? I = some o) (f : Fl o) (h : Q () s) : wpAny (model g.prog g.w) A (letOwnedTupleGo t (.ref I) v) Q E s := by
  obtain ⟨vs, hd, _, hc, m, hm⟩ := f
  have key : wpAny (model g.prog g.w) A (do
      let (.ref r, .ref a) := (Value.ref I, v) | return
      let o ← load r
      match o.cls, o.data with
      | .type n, .fields vs =>
        if ["enumerate", "zip", "dict_itemiterator", "dict_reverseitemiterator", "odict_iterator", "itertools.zip_longest", "itertools.pairwise"].contains n && vs[0]? == some (rawInt a) then
          rule "for.unpacks-the-owned-tuple"
          updateField r 0 .none
      | _, _ => pure () : Sem Unit) Q E s := by
    cases v with
    | ref a =>
      refine wpAny_bind (wpAny_load e ?_)
      rw [hm, hd]
      dsimp only
      rw [hc m hm]
      exact wpAny_pure h
    | _ => exact wpAny_pure h
  cases t with
  | Tuple _ _ _ => exact key
  | List _ _ => exact key
  | _ => exact wpAny_pure h

theorem FI.chg {hB h h' : Heap} {D : List Addr} {W : List Addr} (F : FI hB h D env ℓ) (hk : ∀ b o, b ∉ W → h.get? b = some o → h'.get? b = some o) (hW : ∀ b ∈ W, b ∉ fa env) (k : KeepsF h D h' D) : FI hB h' D env ℓ where
  new := F.new
  kind := F.kind
  glob := F.glob
  blt := F.blt
  off := F.off
  ns := by
    obtain ⟨m, hn, hm⟩ := F.ns
    refine ⟨m, hn.at' fun o e => hk _ _ (fun q => hW _ q (List.mem_cons_self ..)) e, fun y d hky hl => ?_⟩
    obtain ⟨v, e, r⟩ := hm y d hky hl
    exact ⟨v, e, r.keep k⟩
  cell := by
    intro p hp
    obtain ⟨v, ⟨o, ho, hd⟩, r⟩ := F.cell p hp
    refine ⟨v, ⟨o, hk _ _ (fun q => hW _ q (List.mem_cons_of_mem _ (List.mem_map_of_mem hp))) ho, hd⟩, fun d hkp hl => ?_⟩
    obtain ⟨u, e, q⟩ := r d hkp hl
    exact ⟨u, e, q.keep k⟩
  has := F.has
  inj := F.inj
  uniq := F.uniq
theorem SI.chg {P : Params} {hB h h' : Heap} {W : List Addr} (x : SI P hB σ h) (hk : ∀ b o, b ∉ W → h.get? b = some o → h'.get? b = some o) (hW : ∀ b ∈ W, b ∉ dom σ ∧ hB.get? b = none) (k : KeepsF h (dom σ) h' (dom σ)) : SI P hB σ h' where
  base := fun b o e => hk b o (fun q => by rw [(hW b q).2] at e; cases e) (x.base b o e)
  nodup := x.nodup
  rep := fun p hp => by
    have hd : p.1 ∈ dom σ := List.mem_map_of_mem hp
    have r := x.rep p hp
    cases q : p.2 with
    | lst xs => rw [q] at r; obtain ⟨vs, n, e, z⟩ := r; exact ⟨vs, n, hk _ _ (fun z => (hW _ z).1 hd) e, z.keep k⟩
    | dct xs => rw [q] at r; obtain ⟨vs, n, e, nd, z⟩ := r; exact ⟨vs, n, hk _ _ (fun z => (hW _ z).1 hd) e, nd, z.keep k⟩
  new := x.new

inductive ForSt (g : Gr) (B : List Addr) (s : Shared) (σ : Store) (s₂ : Shared) (σ₂ : Store) (fp : List Addr) (St : Nat → Heap → Prop) (env : Env) (J : Nat → Loc → Store → Prop) (m k : Nat) (s' : Shared) : Prop
  | mk (i : Nat) (ℓ' : Loc) (σ' : Store) (ek : k = m + 1 - i) (hi : i ≤ m) (hJ : J i ℓ' σ') (st : St i s'.heap) (fi : FI g.hB s'.heap (dom σ') env ℓ') (p : Post g B s σ s' σ') (kp : KeepsF s₂.heap (dom σ₂) s'.heap (dom σ')) (off : ∀ b ∈ fp, b ∉ dom σ')
noncomputable abbrev forQ (J : Nat → Loc → Store → Prop) (Q : AF → Loc → Store → Prop) (i : Nat) : AF → Loc → Store → Prop
  | .next => J (i + 1)
  | .cont => J (i + 1)
  | .brk => Q .next
  | .ret d => Q (.ret d)
theorem ES_for {target iter : Expr} {body : List Stmt} {pos : Pos} {Q : AF → Loc → Store → Prop}
    (h : EI g n env iter ℓ σ fun items σ₁ => ∃ J : Nat → Loc → Store → Prop, J 0 ℓ σ₁ ∧
      (∀ i d ℓ' σ', items[i]? = some d → J i ℓ' σ' → ASG g n env target d ℓ' σ' fun ℓ'' => EX g n env body ℓ'' σ' (forQ J Q i)) ∧
      ∀ ℓ' σ', J items.length ℓ' σ' → Q .next ℓ' σ')
    (hs : ∀ x, foldedSetIterable iter env x = pure x := by intro _; rfl) : ES g n env (.For target iter body [] pos) ℓ σ Q := by
  intro A s hr hi hf
  refine wpAny_For (wpAny_mono (h A s hr hi hf) ?_ fun _ _ f => f) hs
  intro x s₁ h₁
  refine wpAny_mono h₁ ?_ fun _ _ f => f
  rintro it s₂ ⟨items, σ₂, ⟨J, hJ, turn, fin⟩, I, fp, wr, P, St, rfl, W, st, p₂, hI, hnew, hfp, hwr, hoff, hrep⟩
  have hf₂ := hf.ext p₂.ext
  refine codeAny_forLoop_any (ForSt g (fa env) s σ s₂ σ₂ fp St env J items.length) ?_ (items.length + 1)
    ⟨0, ℓ, σ₂, by omega, by (with_reducible exact Nat.zero_le _), hJ, st, hf₂, p₂.up, fun b o e nb _ => ⟨e, nb⟩, hoff⟩
  rintro k s₃ ⟨i, ℓ₃, σ₃, rfl, hile, hJ₃, st₃, hf₃, p₃, k₃, off₃⟩
  have hwf : ∀ b ∈ wr, b ∉ fa env := fun b hb => by
    obtain ⟨o, e, f⟩ := hwr i _ st₃ b hb
    obtain ⟨vs, hd, _⟩ := f
    exact fa_not_fl hf₃ e hd
  have hwB : ∀ b ∈ wr, g.hB.get? b = none := fun b hb => by
    cases q : g.hB.get? b with
    | none => rfl
    | some o => have := hi.base _ _ q; rw [hnew b hb] at this; cases this
  have step : ∀ h' : Heap, (∀ b o, b ∉ wr → s₃.heap.get? b = some o → h'.get? b = some o) → KeepsF s₃.heap (dom σ₃) h' (dom σ₃) ∧ FI g.hB h' (dom σ₃) env ℓ₃ ∧ ∀ tk, Post g (fa env) s σ { s₃ with heap := h', toks := tk } σ₃ := fun h' hk => by
    have k' : KeepsF s₃.heap (dom σ₃) h' (dom σ₃) := fun b o e nb f => ⟨hk b o (fun q => by
      obtain ⟨o', e', f'⟩ := hwr i _ st₃ b q
      rw [e] at e'; cases e'
      exact f'.nf f) e, nb⟩
    refine ⟨k', hf₃.chg hk hwf k', fun tk => ⟨SI.chg p₃.si hk (fun b hb => ⟨off₃ b (W.sub b hb), hwB b hb⟩) k', ⟨fun b o e => ?_, fun b o e nb nf => ?_⟩, p₃.gens, p₃.os⟩⟩
    · obtain ⟨o', e'⟩ := p₃.ext.there b o e
      exact ⟨o', hk b o' (fun z => by rw [hnew b z] at e; cases e) e'⟩
    have q := p₃.ext.keep b o e nb nf
    exact ⟨hk b o (fun z => by rw [hnew b z] at e; cases e) q.1, q.2⟩
  by_cases hlt : i < items.length
  · refine W.item i s₃ _ _ hlt st₃ fun v h₄ tk₄ hP st₄ hk₄ => ?_
    obtain ⟨k₄, hf₄, p₄⟩ := step h₄ hk₄
    obtain ⟨o₄, e₄, f₄⟩ := hwr (i + 1) _ st₄ I hI
    obtain ⟨d, hd, rv⟩ := hrep h₄ (dom σ₃) (fun b o e nb f => let ⟨e', nb'⟩ := k₃ b o e nb f; k₄ b o e' nb' f) i v hlt hP
    have P4 := p₄ tk₄
    refine letGo_ok e₄ f₄ ?_
    refine wpAny_mono (turn i d ℓ₃ σ₃ hd hJ₃ A { s₃ with heap := h₄, toks := tk₄ } v hr P4.si hf₄ rv) ?_ fun _ _ f => f.elim
    rintro _ s₅ ⟨ℓ₅, q₅, hf₅, p₅⟩
    refine wpAny_mono (q₅ A s₅ hr p₅.si hf₅) ?_ fun _ _ f => f.elim
    rintro f s₆ ⟨r, ℓ₆, σ₆, q₆, rf, hf₆, p₆⟩
    have p56 := p₅.trans p₆
    have P6 := P4.trans p56
    have k56 : KeepsF h₄ (dom σ₃) s₆.heap (dom σ₆) := p56.keepsX hf₄
    have st₆ : St (i + 1) s₆.heap := W.frame _ _ _ st₄ fun b hb o e => by
      refine (p56.ext.keep b o e (off₃ b hb) ?_).1
      obtain ⟨o', e', f'⟩ := hfp (i + 1) _ st₄ b hb
      rw [e] at e'; cases e'
      rcases f' with f' | ⟨vs, hd, _⟩
      · exact fa_not_fz hf₄ e f'
      · exact fa_not_fl hf₄ e hd
    have off₆ : ∀ b ∈ fp, b ∉ dom σ₆ := fun b hb => by
      obtain ⟨o', e', f'⟩ := hfp (i + 1) _ st₄ b hb
      refine (p56.ext.keep b o' e' (off₃ b hb) ?_).2
      rcases f' with f' | ⟨vs, hd, _⟩
      · exact fa_not_fz hf₄ e' f'
      · exact fa_not_fl hf₄ e' hd
    have kall : KeepsF s₂.heap (dom σ₂) s₆.heap (dom σ₆) := fun b o e nb f => by
      obtain ⟨e1, n1⟩ := k₃ b o e nb f
      obtain ⟨e2, n2⟩ := k₄ b o e1 n1 f
      exact k56 b o e2 n2 f
    cases rf with
    | next => exact ⟨items.length + 1 - (i + 1), by omega, i + 1, ℓ₆, σ₆, rfl, by (with_reducible exact Nat.succ_le_of_lt (by assumption)), q₆, st₆, hf₆, P6, kall, off₆⟩
    | cont => exact ⟨items.length + 1 - (i + 1), by omega, i + 1, ℓ₆, σ₆, rfl, by (with_reducible exact Nat.succ_le_of_lt (by assumption)), q₆, st₆, hf₆, P6, kall, off₆⟩
    | brk => exact ⟨_, ℓ₆, σ₆, q₆, .next, hf₆, P6⟩
    | ret rv => exact ⟨_, ℓ₆, σ₆, q₆, .ret rv, hf₆, P6⟩
  · have hie : i = items.length := by omega
    subst hie
    refine W.done s₃ _ _ st₃ fun h₄ tk₄ hk₄ => ?_
    obtain ⟨k₄, hf₄, p₄⟩ := step h₄ hk₄
    exact wpAny_execs_nil ⟨_, ℓ₃, σ₃, fin _ _ hJ₃, .next, hf₄, p₄ tk₄⟩
end
end Mine

end
/- part Core9 -/
section
open PySem PySem.W PyProof.Rows
set_option Elab.async false
namespace Mine
open PySem PySem.W PyProof.Rows PySem.Calls PySem.Spec

noncomputable def intsA (l : List Int) : List AV := l.map .int
noncomputable def rangeL (a : Int) (n : Nat) : List Int := (List.range n).map fun (i : Nat) => a + (i : Int)

section
variable {g : Gr} {A : Around} {s s₀ : Shared} {σ σ₀ : Store} {n : Nat} {env : Env} {ℓ : Loc}

theorem fl_of {o : Obj} {c : String} {vs : Array Value} (hc : o.cls = .type c) (hd : o.data = .fields vs) (h : ["range", "enumerate", "zip", "dict_itemiterator", "dict_reverseitemiterator", "odict_iterator", "itertools.zip_longest", "itertools.pairwise"].contains c = false) : Fl o := by
  simp only [List.contains_cons, List.contains_nil, Bool.or_false, Bool.or_eq_false_iff] at h
  refine ⟨vs, hd, fun e => ?_, fun m e => ?_, c, hc⟩
  · rw [hc] at e; cases e; simp at h
  · rw [hc] at e; cases e
    simp only [List.contains_cons, List.contains_nil, Bool.or_false, Bool.or_eq_false_iff]
    exact h.2

theorem iter_lst {d : AV} {xs : List AV} (w : d = .lst xs) : IterOf g n d σ xs := by
  subst w
  intro A s v hr hS rv
  cases rv with
  | @lst a vs c ds e nb rl =>
    have hl : s.heap.IsList a vs.toArray := ⟨_, e, rfl, c, rfl⟩
    have hne : a ≠ s.heap.objs.size := Nat.ne_of_lt (Heap.lt_size e)
    have hn := get_none_of_ge (h := s.heap) (Nat.le_refl _)
    have W := Walks.list (prog := g.prog) (w := g.w) hr.1 s.heap.objs.size a hne vs.toArray
    have hlen : vs.toArray.size = xs.length := by simpa using rl.length
    rw [hlen] at W
    refine wpAny_pyIter_list hl ⟨_, _, _, _, _, rfl, W, ⟨⟨_, Heap.get?_push_size _ rfl, rfl, rfl⟩, hl.at fun o e => Heap.get?_push_of_some _ e⟩, .frz hS, by simp, ?_, ?_, ?_, ?_, ?_⟩
    · intro b hb
      rw [List.mem_singleton.mp hb]; exact hn
    · intro i h st b hb
      rcases List.mem_cons.mp hb with rfl | hb
      · obtain ⟨⟨o, ho, hc, hd⟩, _⟩ := st
        exact ⟨o, ho, .inr (fl_of hc hd (by decide))⟩
      · rw [List.mem_singleton.mp hb]
        obtain ⟨_, o, ho, hc, k, hd⟩ := st
        exact ⟨o, ho, .inl (by unfold Fz; rw [hd]; trivial)⟩
    · intro i h st b hb
      rw [List.mem_singleton.mp hb]
      obtain ⟨⟨o, ho, hc, hd⟩, _⟩ := st
      exact ⟨o, ho, fl_of hc hd (by decide)⟩
    · intro b hb
      rcases List.mem_cons.mp hb with rfl | hb
      · exact new_off' hS
      · rw [List.mem_singleton.mp hb]; exact nb
    · intro h' D' k i v hi hP
      obtain ⟨d, hd, rv⟩ := rl.getV (by simpa using hP)
      exact ⟨d, hd, (rv.keep (Post.frz hS).keepsF).keep k⟩

theorem iter_tup {xs : List AV} : IterOf g n (.tup xs) σ xs := by
  intro A s v hr hS rv
  cases rv with
  | @tup a vs c ds e nb rl =>
    have hl : s.heap.IsTuple a vs.toArray := ⟨_, e, rfl, c, rfl⟩
    have hne : a ≠ s.heap.objs.size := Nat.ne_of_lt (Heap.lt_size e)
    have hn := get_none_of_ge (h := s.heap) (Nat.le_refl _)
    have W := Walks.tuple (prog := g.prog) (w := g.w) hr.1 s.heap.objs.size a hne vs.toArray
    have hlen : vs.toArray.size = xs.length := by simpa using rl.length
    rw [hlen] at W
    refine wpAny_pyIter_tuple hl ⟨_, _, _, _, _, rfl, W, ⟨⟨_, Heap.get?_push_size _ rfl, rfl, rfl⟩, hl.at fun o e => Heap.get?_push_of_some _ e⟩, .frz hS, by simp, ?_, ?_, ?_, ?_, ?_⟩
    · intro b hb
      rw [List.mem_singleton.mp hb]; exact hn
    · intro i h st b hb
      rcases List.mem_cons.mp hb with rfl | hb
      · obtain ⟨⟨o, ho, hc, hd⟩, _⟩ := st
        exact ⟨o, ho, .inr (fl_of hc hd (by decide))⟩
      · rw [List.mem_singleton.mp hb]
        obtain ⟨_, o, ho, hc, k, hd⟩ := st
        exact ⟨o, ho, .inl (by unfold Fz; rw [hd]; trivial)⟩
    · intro i h st b hb
      rw [List.mem_singleton.mp hb]
      obtain ⟨⟨o, ho, hc, hd⟩, _⟩ := st
      exact ⟨o, ho, fl_of hc hd (by decide)⟩
    · intro b hb
      rcases List.mem_cons.mp hb with rfl | hb
      · exact new_off' hS
      · rw [List.mem_singleton.mp hb]; exact nb
    · intro h' D' k i v hi hP
      obtain ⟨d, hd, rv⟩ := rl.getV (by simpa using hP)
      exact ⟨d, hd, (rv.keep (Post.frz hS).keepsF).keep k⟩

theorem intsA_get {l : List Int} {i : Nat} (h : i < l.length) : (intsA l)[i]? = some (.int l[i]) := by simp [intsA, h]

theorem itr_range {a c : Int} {m : Nat} {l : List Int} (hl : l.length = m) (hi : ∀ i (h : i < l.length), l[i] = a + (i : Int) * c) (hr : Room n A) (hS : SIg g σ s.heap) :
    Itr g A s σ (intsA l) (.ref s.heap.objs.size) { s with heap := s.heap.push { cls := .type "range_iterator", data := .fields #[rawInt a, rawInt (m : Int), rawInt c] } } σ := by
  have hn := get_none_of_ge (h := s.heap) (Nat.le_refl _)
  have W := Walks.range (prog := g.prog) (w := g.w) hr.1 s.heap.objs.size a c m
  have hlen : m = (intsA l).length := by simp [intsA, hl]
  rw [hlen] at W
  refine ⟨_, _, _, _, _, rfl, W, ?_, .frz hS, by simp, ?_, ?_, ?_, ?_, ?_⟩
  · have : IsRangeIter (s.heap.push { cls := .type "range_iterator", data := .fields #[rawInt a, rawInt (m : Int), rawInt c] }) s.heap.objs.size a (m : Int) c := Heap.get?_push_size _ rfl
    simpa [← hlen] using this
  · intro b hb
    rw [List.mem_singleton.mp hb]; exact hn
  · intro i h st b hb
    rw [List.mem_singleton.mp hb]
    exact ⟨_, st, .inr (fl_of rfl rfl (by decide))⟩
  · intro i h st b hb
    rw [List.mem_singleton.mp hb]
    exact ⟨_, st, fl_of rfl rfl (by decide)⟩
  · intro b hb
    rw [List.mem_singleton.mp hb]; exact new_off' hS
  · rintro h' D' k i v hlt ⟨t, rfl⟩
    have hlt' : i < l.length := by simpa [intsA] using hlt
    exact ⟨_, intsA_get hlt', by rw [hi i hlt']; exact .int _ _⟩
theorem iter_rng {a b : Int} (h1 : -(2 ^ 62) ≤ a) (h2 : a < 2 ^ 62) (h3 : -(2 ^ 62) ≤ b) (h4 : b < 2 ^ 62) : IterOf g n (.rng a b) σ (intsA (rangeL a (b - a).toNat)) := by
  intro A s v hr hS rv
  cases rv with
  | rng e nb =>
    refine wpAny_pyIter_range e (small_one h1 h2 h3 h4) ?_
    rw [rangeSize_nat]
    exact itr_range (by simp [rangeL]) (by simp [rangeL]) hr hS
theorem CALL_range1 {k : Int} {Q : AV → Store → Prop} (h : Q (.rng 0 k) σ) : CALL g n (.type "range") [.int k] [] σ Q := by
  intro A s vs kvs hr hS ra ek rk
  have hk : kvs = [] := by simpa using ek
  subst hk
  cases ra with
  | cons ro rr =>
    cases rr
    cases ro
    refine call_range_1 ⟨_, σ, h, .rng (IsRange.new ..) (new_off' hS), ⟨(Post.frz hS).si, (Post.frz hS).ext, rfl, rfl⟩⟩

theorem sub_rit_reversed : isSubtype (.type "range_iterator") (.type "reversed") = pure false := by rw [isSubtype_type]; kernel_rfl
noncomputable def rritObj (k : Int) : Obj := { cls := .type "range_iterator", data := .fields #[rawInt (k - 1), rawInt k, rawInt (-1)] }
theorem call_range_reversed {r : Addr} {k : Int} {t u v : Tok} {Q : Value → Shared → Prop} {E : Value → Shared → Prop} (hr : IsRange s.heap r 0 k 1 t u v) (h0 : 0 ≤ k) (h1 : k < 2 ^ 62) (h : Q (.ref s.heap.objs.size) { s with heap := s.heap.push (rritObj k) }) :
    wpAny (model g.prog g.w) A (call (.builtin "range.__reversed__") [.ref r]) Q E s := by
  have hT : s.TypeIs (.ref r) "range" := ⟨_, hr, rfl⟩
  refine wpAny_call_entry PySem.F.slot_range_reversed hT PySem.F.entry_range_reversed ?_ (PySem.F.args_range_reversed_1 _)
  unfold Builtin.«range.__reversed__»
  refine wpAny_bind (wpAny_of_eq (a := Value.ref r) rfl ?_)
  have hf : wpAny (model g.prog g.w) A.in1 (Builtin.Range.rangeFields (.ref r)) (fun x s' => x = (0, k, 1) ∧ s' = s) E s := by
    unfold Builtin.Range.rangeFields
    refine wpAny_bind (wpAny_field hr rfl (x := .int 0 t) rfl ?_)
    refine wpAny_bind (wpAny_of_eq (a := some 0) rfl ?_)
    refine wpAny_bind (wpAny_field hr rfl (x := .int k u) rfl ?_)
    refine wpAny_bind (wpAny_of_eq (a := some k) rfl ?_)
    refine wpAny_bind (wpAny_field hr rfl (x := .int 1 v) rfl ?_)
    refine wpAny_bind (wpAny_of_eq (a := some 1) rfl ?_)
    exact wpAny_pure ⟨rfl, rfl⟩
  refine wpAny_bind (wpAny_mono hf ?_ fun _ _ f => f)
  rintro _ _ ⟨rfl, rfl⟩
  have e : Builtin.Range.rangeSize 0 k 1 = k := by rw [rangeSize_one]; split <;> omega
  have hsm : (Builtin.Range.rangeFitsLong 0 && Builtin.Range.rangeFitsLong k && Builtin.Range.rangeFitsLong 1 && Builtin.Range.rangeFitsLong (-1) && Builtin.Range.rangeFitsLong (0 - 1) && Builtin.Range.rangeFitsLong (Builtin.Range.rangeSize 0 k 1)) = true := by
    rw [e]
    simp only [Builtin.Range.rangeFitsLong, Bool.and_eq_true, decide_eq_true_eq]
    omega
  dsimp only
  rw [hsm]
  simp only [Bool.not_true, Bool.false_eq_true, if_false, if_true]
  rw [e]
  have e2 : (0 : Int) + (k - 1) * 1 = k - 1 := by omega
  rw [e2]
  exact wpAny_bind (wpAny_newObj_type (wpAny_pure ⟨_, rfl, h⟩))
theorem code_reversed_newR {r : Addr} {k : Int} {t u v : Tok} {Q₁ : Value → Shared → Prop} {E : Value → Shared → Prop} (hr : IsRange s.heap r 0 k 1 t u v) (h0 : 0 ≤ k) (h1 : k < 2 ^ 62) (h : Q₁ (.ref s.heap.objs.size) { s with heap := s.heap.push (rritObj k) }) :
    codeAny (model g.prog g.w) A (.call (.builtin "reversed.__new__") ⟨[.type "reversed", .ref r], []⟩) (wants Q₁ E) s := by
  have hT : s.TypeIs (.ref r) "range" := ⟨_, hr, rfl⟩
  refine codeAny_of_tree ?_
  show wpAny _ A.in1 (do checkBuiltinCall "reversed.__new__" ⟨[.type "reversed", .ref r], []⟩; again (.builtin "reversed.__new__" ⟨[.type "reversed", .ref r], []⟩)) _ _ s
  refine wpAny_bind (wpAny_of_eq (PySem.F.newCall_reversed_1 _) (wpAny_pure ⟨plainId_quiet PySem.F.plain_reversed_new _, codeAny_builtin PySem.F.entry_reversed_new ?_⟩))
  rw [Around.under_plainId PySem.F.plain_reversed_new _]
  unfold Builtin.«reversed.__new__»
  refine wpAny_bind (wpAny_of_eq (newClass_reversed _) ?_)
  try dsimp only
  refine wpAny_bind (wpAny_of_eq (a := ()) (by first | rfl | kernel_rfl) ?_)
  refine wpAny_bind (wpAny_of_eq (a := ()) (by first | rfl | kernel_rfl) ?_)
  try dsimp only
  refine wpAny_bind (wpAny_specialOf hT PySem.F.slot_range_reversed.lookup ?_)
  try dsimp only
  refine wpAny_bind (wpAny_of_eq (PySem.F.slot_range_reversed.bind _) ?_)
  try dsimp only
  first
  | rw [if_neg (show ¬ ((Value.builtin "range.__reversed__" == Value.none) = true) from Bool.false_ne_true)]
  | (show wpAny _ _ (if (Value.builtin "range.__reversed__" == Value.none) = true then _ else _) _ _ _; rw [if_neg (show ¬ ((Value.builtin "range.__reversed__" == Value.none) = true) from Bool.false_ne_true)])
  refine wpAny_bind (wpAny_rule ?_)
  refine wpAny_bind (m := runValue (.call (.builtin "range.__reversed__") ⟨[.ref r], []⟩)) (show wpAny _ _ (call (.builtin "range.__reversed__") [.ref r]) _ _ _ from call_range_reversed hr h0 h1 ?_)
  first
  | exact wpAny_pure h
  | exact wpAny_bind (wpAny_pure (wpAny_pure h))
theorem call_reversed_range {r : Addr} {k : Int} {t u v : Tok} {Q : Value → Shared → Prop} {E : Value → Shared → Prop} (hr : IsRange s.heap r 0 k 1 t u v) (h0 : 0 ≤ k) (h1 : k < 2 ^ 62) (h : Q (.ref s.heap.objs.size) { s with heap := s.heap.push (rritObj k) }) :
    wpAny (model g.prog g.w) A (call (.type "reversed") [.ref r]) Q E s := by
  refine callType_other (U := "range_iterator") (Q₁ := fun obj s₁ => obj = .ref s.heap.objs.size ∧ s₁ = { s with heap := s.heap.push (rritObj k) }) (by decide +kernel) PySem.F.create_reversed ⟨_, _, PySem.F.mro_reversed⟩ PySem.F.made_reversed sub_rit_reversed (PySem.F.typeCall_reversed_1 _) (code_reversed_newR hr h0 h1 ⟨rfl, rfl⟩) ?_
  rintro obj s₁ ⟨rfl, rfl⟩
  exact ⟨⟨_, Heap.get?_push_size _ rfl, rfl⟩, h⟩
noncomputable def downL (n : Nat) : List Int := (List.range n).map fun (i : Nat) => (n : Int) - 1 - (i : Int)
theorem EI_rev {p pos : Pos} {e : Expr} {Q : List AV → Store → Prop}
    (hn : EV g n env (.Name (Str.ofString "reversed") p) ℓ σ fun d σ₁ => d = .raw (.type "reversed") ∧ EV g n env e ℓ σ₁ fun d σ₂ => ∃ k : Nat, d = .rng 0 k ∧ k < 1000000 ∧ Q (intsA (downL k)) σ₂)
    (hes : starEach [e] env = [(false, eval e env)] := by rfl) : EI g n env (.Call (.Name (Str.ofString "reversed") p) [e] [] pos) ℓ σ Q := by
  intro A s hr hs hf
  refine wpAny_Call_Name_kw (wpAny_mono (hn A s hr hs hf) ?_ fun _ _ f => f)
  rintro v s₁ ⟨d, σ₁, ⟨rfl, q₁⟩, rv, p₁⟩
  cases rv
  have hall : (backTo pos (starEach [e] env)).all (fun x => !x.1) = true := by rw [hes]; rfl
  refine PyProof.Rows.callWith_type (any_of_all hall) (evalArgs_el hall (wpAny_items_cons (wpAny_mono (q₁ A s₁ hr p₁.si (hf.ext p₁.ext)) ?_ fun _ _ f => f) (by rw [hes]; rfl)))
  rintro v s₂ ⟨d, σ₂, ⟨k, rfl, hk, q⟩, rv, p₂⟩
  refine wpAny_items_nil ?_
  cases rv with
  | rng e nb =>
    refine call_reversed_range e (by (with_reducible exact Int.natCast_nonneg _)) (by (with_reducible exact Mine.om_cast (by assumption) (by decide))) ?_
    have hit : IsRangeIter (s₂.heap.push (rritObj k)) s₂.heap.objs.size ((k : Int) - 1) k (-1) := Heap.get?_push_size _ rfl
    refine wpAny_pyIter_rangeiter hit ⟨_, σ₂, q, Itr.weak (p₁.trans p₂) ?_⟩
    exact itr_range (by simp [downL]) (by intro i h; simp [downL]; omega) hr p₂.si

noncomputable def bytesL (b : Array UInt8) : List Int := b.toList.map fun c => (c.toNat : Int)
theorem iter_bytes {b : Array UInt8} : IterOf g n (.bytes b) σ (intsA (bytesL b)) := by
  intro A s v hr hS rv
  cases rv with
  | bytes _ t =>
    refine KBw.pyIter_bytes ?_
    have hn := get_none_of_ge (h := s.heap) (Nat.le_refl _)
    have W := KBw.walks (prog := g.prog) (w := g.w) hr.1 s.heap.objs.size b t
    have hlen : b.size = (intsA (bytesL b)).length := by simp [intsA, bytesL]
    rw [hlen] at W
    refine ⟨_, _, _, _, _, rfl, W, ⟨_, Heap.get?_push_size _ rfl, rfl, rfl⟩, .frz hS, by simp, ?_, ?_, ?_, ?_, ?_⟩
    · intro b hb
      rw [List.mem_singleton.mp hb]; exact hn
    · intro i h st b hb
      rw [List.mem_singleton.mp hb]
      obtain ⟨o, ho, hc, hd⟩ := st
      exact ⟨_, ho, .inr (fl_of hc hd (by decide))⟩
    · intro i h st b hb
      rw [List.mem_singleton.mp hb]
      obtain ⟨o, ho, hc, hd⟩ := st
      exact ⟨_, ho, fl_of hc hd (by decide)⟩
    · intro b hb
      rw [List.mem_singleton.mp hb]; exact new_off' hS
    · rintro h' D' k i v hlt ⟨c, u, hc, rfl⟩
      exact ⟨.int c.toNat, by simp [intsA, bytesL, hc], .int _ _⟩
end
end Mine

end
/- part Core10 -/
section
open PySem PySem.W PyProof.Rows
set_option Elab.async false
namespace Mine
open PySem PySem.W PyProof.Rows PySem.Calls PySem.Spec
section
variable {g : Gr} {A : Around} {s s₀ : Shared} {σ σ₀ : Store} {n : Nat} {env : Env} {ℓ : Loc}

noncomputable def EAll (g : Gr) (n : Nat) (env : Env) (op : BoolOp) (es : List Expr) (ℓ : Loc) (σ : Store) (Q : Bool → Store → Prop) : Prop :=
  ∀ A s, Room n A → SIg g σ s.heap → FI g.hB s.heap (dom σ) env ℓ → TB g A (allTrue op es env) s σ Q
theorem EB_bool {op : BoolOp} {es : List Expr} {pos : Pos} {Q : Bool → Store → Prop} (h : EAll g n env op es ℓ σ Q) : EB g n env (.BoolOp op es pos) ℓ σ Q := fun A s hr hs hf => wpAny_isTrue_BoolOp (h A s hr hs hf)
theorem EAll_andnil {Q : Bool → Store → Prop} (h : Q true σ) : EAll g n env .And [] ℓ σ Q := fun _ _ _ hs _ => wpAny_allTrue_And_nil ⟨σ, h, .refl hs⟩
theorem EAll_ornil {Q : Bool → Store → Prop} (h : Q false σ) : EAll g n env .Or [] ℓ σ Q := fun _ _ _ hs _ => wpAny_allTrue_Or_nil ⟨σ, h, .refl hs⟩
theorem EAll_and {x : Expr} {rest : List Expr} {Q : Bool → Store → Prop} (h : EB g n env x ℓ σ fun b σ₁ => (b = true → EAll g n env .And rest ℓ σ₁ Q) ∧ (b = false → Q false σ₁)) : EAll g n env .And (x :: rest) ℓ σ Q := by
  intro A s hr hs hf
  refine wpAny_allTrue_And_cons (wpAny_mono (h A s hr hs hf) ?_ fun _ _ f => f)
  rintro b s₁ ⟨σ₁, q, p⟩
  cases b with
  | true => exact (q.1 rfl A s₁ hr p.si (hf.ext p.ext)).of_post p
  | false => exact ⟨σ₁, q.2 rfl, p⟩
theorem EAll_or {x : Expr} {rest : List Expr} {Q : Bool → Store → Prop} (h : EB g n env x ℓ σ fun b σ₁ => (b = false → EAll g n env .Or rest ℓ σ₁ Q) ∧ (b = true → Q true σ₁)) : EAll g n env .Or (x :: rest) ℓ σ Q := by
  intro A s hr hs hf
  refine wpAny_allTrue_Or_cons (wpAny_mono (h A s hr hs hf) ?_ fun _ _ f => f)
  rintro b s₁ ⟨σ₁, q, p⟩
  cases b with
  | false => exact (q.1 rfl A s₁ hr p.si (hf.ext p.ext)).of_post p
  | true => exact ⟨σ₁, q.2 rfl, p⟩
theorem EB_value {e : Expr} {Q : Bool → Store → Prop} (h : EV g n env e ℓ σ fun c σ₃ => TruOk g n c σ₃ Q)
    (he : isTrue e env (eval e env) = (do let v ← eval e env; standAt e.pos; holding [v] (truthy v)) := by rfl) : EB g n env e ℓ σ Q := by
  intro A s hr hs hf
  refine wpAny_isTrue_value (wpAny_mono (h A s hr hs hf) ?_ fun _ _ f => f) he
  rintro vc s₃ ⟨c, σ₃, h₃, rc, p₃⟩
  exact (h₃ A s₃ vc hr p₃.si rc).of_post p₃
end
end Mine

end
/- part H1b -/
section
open PySem PySem.W PyProof.Rows
set_option Elab.async false
set_option maxRecDepth 100000
namespace Mine
open PySem PySem.W PyProof.Rows PySem.Calls PySem.Spec

noncomputable abbrev G1 (w : World) (hB : Heap) : Gr := ⟨PySem.Challenge.rw_oy0072_02.row.prog, w, hB, frag w.params⟩
noncomputable abbrev st (x : String) : Str := Str.ofString x

noncomputable def tupI (t : List Int) : AV := .tup (t.map .int)
noncomputable def sdF (lt : List Int → List Int → Bool) (x : List Int) (s : Nat) : Nat → List (List Int) → List (List Int) := fun pos xs =>
  if h : s < pos then
    match xs[(pos - 1) / 2]? with
    | some y => if lt x y then sdF lt x s ((pos - 1) / 2) (xs.set pos y) else xs.set pos x
    | none => xs.set pos x
  else xs.set pos x
termination_by pos => pos
decreasing_by omega

section
variable {w : World} {hB : Heap} {n : Nat} {σ : Store} {Q : AV → Store → Prop}
set_option maxHeartbeats 1000000

theorem siftdown_spec (G : Gd (G1 w hB)) {a : Addr} {xs : List (List Int)} {x : List Int} {s p : Nat} (hl : σ.lookup a = some (.lst (xs.map tupI))) (hp : xs[p]? = some x) (hz : xs.length < 1000000)
    (h : ∀ σ', Upd σ a (.lst ((sdF ltI x s p xs).map tupI)) σ' → Q .none σ') : CALL (G1 w hB) (n + 3) (.ref 49) [.raw (.ref a), .int s, .int p] [] σ Q := by
  refine CALL_pos G (a := 49) [st "heap", st "startpos", st "pos"] rfl rfl rfl rfl rfl rfl rfl rfl rfl rfl (by decide) rfl (by decide) rfl ?_ ?_
  · rintro (_ | ⟨v1, _ | ⟨v2, _ | ⟨v3, _ | ⟨_, _⟩⟩⟩⟩) h <;> first | rfl | (simp at h)
  intro L
  have hpl : p < xs.length := (List.getElem?_eq_some_iff.mp hp).1
  refine EX_cons (ES_assign (.inl rfl) ?_)
  refine EV_sub (EV_name rfl rfl ?_)
  refine EV_name rfl rfl ?_
  refine item_list (.lst hl) (by (with_reducible exact Int.natCast_nonneg _)) (by (with_reducible exact Mine.om_casta (by assumption) (by assumption) (by decide))) (d := tupI x) (by simp [hp]) ?_
  refine EX_cons (ES.mono (Q := fun r ℓ' σ'' => r = .next ∧ ∃ (k : Nat) (ys : List (List Int)), k < ys.length ∧ ys.length < 1000000 ∧ Sub [(st "heap", .raw (.ref a)), (st "startpos", .int s), (st "pos", .int k), (st "newitem", tupI x)] ℓ' ∧ Upd σ a (.lst (ys.map tupI)) σ'' ∧ ys.set k x = sdF ltI x s p xs) ?_ ?_)
  rotate_left
  · rintro _ ℓ' σ'' ⟨rfl, k, ys, hq, hy, hs', hσ', hfin⟩
    refine EX_sub hs' (EX_cons (ES_store ?_))
    refine EV_name rfl rfl ?_
    refine EV_name rfl rfl ?_
    refine EV_name rfl rfl ?_
    refine ⟨a, _, k, rfl, rfl, hσ'.self, by (with_reducible exact Int.natCast_nonneg _), by simpa using hq, by simpa using hy, ?_⟩
    refine EX_nil ?_
    refine h _ (hσ'.trans ?_)
    have e : (ys.map tupI).set (k : Int).toNat (tupI x) = (sdF ltI x s p xs).map tupI := by rw [← hfin]; simp [List.map_set]
    rw [e]
    exact Upd.upd hσ'.self
  refine ES_while (fun k ℓ σ' => ∃ (q : Nat) (ys : List (List Int)), k = q ∧ Sub [(st "heap", .raw (.ref a)), (st "startpos", .int s), (st "pos", .int q), (st "newitem", tupI x)] ℓ ∧ q < ys.length ∧ ys.length < 1000000 ∧ Upd σ a (.lst (ys.map tupI)) σ' ∧ sdF ltI x s q ys = sdF ltI x s p xs) ?_ p ?_
  · rintro k ℓ σ' ⟨q, ys, rfl, hsub, hq, hy, hσ, he⟩
    refine EB_sub hsub ?_
    refine EB_cmp (EV_name rfl rfl ?_)
    refine EV_name rfl rfl ?_
    refine gt_ii (TruOk_bool ⟨fun hb => ?_, fun hb => ?_⟩)
    · have hb' : s < k := by simpa using hb
      have hlt : (k - 1) / 2 < ys.length := by omega
      refine EX_sub hsub (EX_cons (ES_assign (.inl rfl) ?_))
      refine EV_binop (EV_binop (EV_name rfl rfl ?_))
      refine EV_int (sub_ii ?_)
      refine EV_int (shr_ii (by decide) ?_)
      have e1 : Int.fdiv ((k : Int) - 1) (2 ^ (1 : Int).toNat) = (((k - 1) / 2 : Nat) : Int) := by
        rw [show ((2 : Int) ^ (1 : Int).toNat) = 2 from rfl, Int.fdiv_eq_ediv_of_nonneg _ (by decide)]; omega
      rw [e1]
      refine EX_cons (ES_assign (.inl rfl) ?_)
      refine EV_sub (EV_name rfl rfl ?_)
      refine EV_name rfl rfl ?_
      refine item_list (.lst hσ.self) (by (with_reducible exact Int.natCast_nonneg _)) (by (with_reducible exact Mine.om_casta (by assumption) (by assumption) (by decide))) (d := tupI (ys[(k - 1) / 2])) (by rw [Int.toNat_natCast, List.getElem?_map, List.getElem?_eq_getElem hlt]; rfl) ?_
      refine EX_cons (ES_if ?_)
      refine EB_cmp (EV_name rfl rfl ?_)
      refine EV_name rfl rfl ?_
      refine lt_tup (TruOk_bool ⟨fun hc => ?_, fun hc => ?_⟩)
      · refine EX_cons (ES_store ?_)
        refine EV_name rfl rfl ?_
        refine EV_name rfl rfl ?_
        refine EV_name rfl rfl ?_
        refine ⟨a, _, k, rfl, rfl, hσ.self, by (with_reducible exact Int.natCast_nonneg _), by simpa using hq, by simpa using hy, ?_⟩
        refine EX_cons (ES_assign (.inl rfl) ?_)
        refine EV_name rfl rfl ?_
        refine EX_cons (ES_cont ?_)
        refine ⟨(k - 1) / 2, by omega, (k - 1) / 2, ys.set k ys[(k - 1) / 2], rfl, ⟨rfl, rfl, rfl, rfl, trivial⟩, by simp; (with_reducible assumption), by simpa using hy, ?_, ?_⟩
        · have e : (ys.map tupI).set (k : Int).toNat (tupI ys[(k - 1) / 2]) = (ys.set k ys[(k - 1) / 2]).map tupI := by simp [List.map_set]
          rw [e]
          exact hσ.trans (Upd.upd hσ.self)
        · rw [← he]
          conv => rhs; rw [sdF]
          simp [hb', hlt, hc]
      · refine EX_nil ?_
        refine EX_cons (ES_brk ?_)
        refine ⟨rfl, k, ys, hq, hy, ⟨rfl, rfl, rfl, rfl, trivial⟩, hσ, ?_⟩
        rw [← he, sdF]
        simp [hb', hlt, hc]
    · have hb' : ¬ s < k := by simpa using hb
      refine ⟨rfl, k, ys, hq, hy, hsub, hσ, ?_⟩
      rw [← he, sdF]
      simp [hb']
  · exact ⟨p, xs, rfl, ⟨rfl, rfl, rfl, rfl, trivial⟩, hpl, hz, .refl hl, rfl⟩

end
theorem sdF_length (lt : List Int → List Int → Bool) (x : List Int) (s : Nat) : ∀ (p : Nat) (xs : List (List Int)), (sdF lt x s p xs).length = xs.length := by
  intro p
  induction p using Nat.strongRecOn with
  | ind p ih =>
    intro xs
    rw [sdF]
    split
    · split
      · split
        · rw [ih _ (by omega)]; simp
        · simp
      · simp
    · simp
noncomputable def suL (lt : List Int → List Int → Bool) (p : Nat) (xs : List (List Int)) : Nat × List (List Int) :=
  if 2 * p + 1 < xs.length then
    let c := if 2 * p + 2 < xs.length ∧ lt (xs.getD (2 * p + 1) []) (xs.getD (2 * p + 2) []) = false then 2 * p + 2 else 2 * p + 1
    suL lt c (xs.set p (xs.getD c []))
  else (p, xs)
termination_by xs.length - p
decreasing_by
  rw [List.length_set]
  split <;> omega
noncomputable def suF (lt : List Int → List Int → Bool) (p : Nat) (xs : List (List Int)) : List (List Int) :=
  sdF lt (xs.getD p []) p (suL lt p xs).1 ((suL lt p xs).2.set (suL lt p xs).1 (xs.getD p []))
theorem suL_len (lt : List Int → List Int → Bool) : ∀ (k p : Nat) (xs : List (List Int)), xs.length - p ≤ k → p < xs.length → (suL lt p xs).2.length = xs.length ∧ (suL lt p xs).1 < xs.length := by
  intro k
  induction k with
  | zero => intro p xs h1 h2; omega
  | succ k ih =>
    intro p xs h1 h2
    rw [suL]
    split
    · have := ih (if 2 * p + 2 < xs.length ∧ lt (xs.getD (2 * p + 1) []) (xs.getD (2 * p + 2) []) = false then 2 * p + 2 else 2 * p + 1) (xs.set p (xs.getD (if 2 * p + 2 < xs.length ∧ lt (xs.getD (2 * p + 1) []) (xs.getD (2 * p + 2) []) = false then 2 * p + 2 else 2 * p + 1) [])) (by rw [List.length_set]; split <;> omega) (by rw [List.length_set]; split <;> omega)
      rw [List.length_set] at this
      exact this
    · exact ⟨rfl, h2⟩
theorem suF_length {lt : List Int → List Int → Bool} {p : Nat} {xs : List (List Int)} (h : p < xs.length) : (suF lt p xs).length = xs.length := by
  rw [suF, sdF_length, List.length_set]
  exact (suL_len lt _ p xs (Nat.le_refl _) h).1
theorem getD_at {xs : List (List Int)} {k : Nat} (h : k < xs.length) : (xs.map tupI)[k]? = some (tupI (xs.getD k [])) := by
  rw [List.getElem?_map, List.getElem?_eq_getElem h, List.getD_eq_getElem?_getD, List.getElem?_eq_getElem h]; rfl

section
variable {w : World} {hB : Heap} {n : Nat} {σ : Store} {Q : AV → Store → Prop}
set_option maxHeartbeats 1000000
theorem siftup_spec (G : Gd (G1 w hB)) {a : Addr} {xs : List (List Int)} {p : Nat} (hl : σ.lookup a = some (.lst (xs.map tupI))) (hp : p < xs.length) (hz : xs.length < 1000000)
    (h : ∀ σ', Upd σ a (.lst ((suF ltI p xs).map tupI)) σ' → Q .none σ') : CALL (G1 w hB) (n + 4) (.ref 56) [.raw (.ref a), .int p] [] σ Q := by
  refine CALL_pos G (a := 56) [st "heap", st "pos"] rfl rfl rfl rfl rfl rfl rfl rfl rfl rfl (by decide) rfl (by decide) rfl ?_ ?_
  · rintro (_ | ⟨v1, _ | ⟨v2, _ | ⟨_, _⟩⟩⟩) h <;> first | rfl | (simp at h)
  intro L
  refine EX_cons (ES_assign (.inl rfl) ?_)
  refine EV_bcall G rfl rfl (by decide) rfl rfl (?_)
  refine EL_cons (EV_name rfl rfl (EL_nil ?_))
  refine len_list (.lst hl) (by simpa using hz) ?_
  refine EX_cons (ES_assign (.inl rfl) (EV_name rfl rfl ?_))
  refine EX_cons (ES_assign (.inl rfl) ?_)
  refine EV_sub (EV_name rfl rfl (EV_name rfl rfl ?_))
  refine item_list (.lst hl) (by (with_reducible exact Int.natCast_nonneg _)) (by (with_reducible exact Mine.om_casta (by assumption) (by assumption) (by decide))) (d := tupI (xs.getD p [])) (by rw [Int.toNat_natCast]; exact getD_at hp) ?_
  refine EX_cons (ES_assign (.inl rfl) ?_)
  refine EV_binop (EV_binop (EV_int (EV_name rfl rfl (mul_ii (.of_left (by decide)) (EV_int (add_ii ?_))))))
  refine EX_cons (ES.mono (Q := fun r ℓ' σ'' => r = .next ∧ ∃ (k : Nat) (ys : List (List Int)), suL ltI p xs = (k, ys) ∧ Sub [(st "heap", .raw (.ref a)), (st "startpos", .int p), (st "pos", .int k), (st "newitem", tupI (xs.getD p []))] ℓ' ∧ Upd σ a (.lst (ys.map tupI)) σ'') ?_ ?_)
  rotate_left
  · rintro _ ℓ' σ'' ⟨rfl, k, ys, he, hs', hσ'⟩
    have hlen := suL_len ltI _ p xs (Nat.le_refl _) hp
    rw [he] at hlen
    refine EX_sub hs' (EX_cons (ES_store ?_))
    refine EV_name rfl rfl (EV_name rfl rfl (EV_name rfl rfl ?_))
    refine ⟨a, _, k, rfl, rfl, hσ'.self, by (with_reducible exact Int.natCast_nonneg _), by simp [hlen], by simpa [hlen] using hz, ?_⟩
    have e : (ys.map tupI).set (k : Int).toNat (tupI (xs.getD p [])) = (ys.set k (xs.getD p [])).map tupI := by simp [List.map_set]
    rw [e]
    have hu := Upd.upd (o' := .lst ((ys.set k (xs.getD p [])).map tupI)) hσ'.self
    refine EX_cons (ES_expr ?_)
    refine EV_gcall G rfl rfl rfl rfl (?_)
    refine EL_cons (EV_name rfl rfl (EL_cons (EV_name rfl rfl (EL_cons (EV_name rfl rfl (EL_nil ?_))))))
    refine siftdown_spec G hu.self (x := xs.getD p []) (by simp [hlen]) (by simpa [hlen] using hz) fun σ₃ h₃ => ?_
    refine EX_nil (h _ ?_)
    have := (hσ'.trans hu).trans h₃
    rw [suF, he]
    exact this
  refine ES_while (fun k ℓ σ' => ∃ (q : Nat) (ys : List (List Int)), k = xs.length - q ∧ q < ys.length ∧ ys.length = xs.length ∧ suL ltI q ys = suL ltI p xs ∧
    Sub [(st "heap", .raw (.ref a)), (st "startpos", .int p), (st "pos", .int q), (st "newitem", tupI (xs.getD p [])), (st "endpos", .int xs.length), (st "childpos", .int (2 * q + 1))] ℓ ∧ Upd σ a (.lst (ys.map tupI)) σ') ?_ (xs.length - p)
    ⟨p, xs, rfl, hp, rfl, rfl, ⟨rfl, rfl, rfl, rfl, by rw [List.length_map]; rfl, rfl, trivial⟩, .refl hl⟩
  rintro k ℓ σ' ⟨q, ys, rfl, hq, hy, he, hsub, hσ⟩
  refine EB_sub hsub ?_
  refine EB_cmp (EV_name rfl rfl (EV_name rfl rfl (lt_ii (TruOk_bool ⟨fun hb => ?_, fun hb => ?_⟩))))
  · have hb' : 2 * q + 1 < ys.length := by have := of_decide_eq_true hb; omega
    refine EX_sub hsub (EX_cons (ES_assign (.inl rfl) ?_))
    refine EV_binop (EV_name rfl rfl (EV_int (add_ii ?_)))
    refine EX_cons (ES.mono (Q := fun r ℓ' σ'' => r = .next ∧ σ'' = σ' ∧ ∃ c : Nat, c < ys.length ∧ q < c ∧ suL ltI q ys = suL ltI c (ys.set q (ys.getD c [])) ∧
      Sub [(st "heap", .raw (.ref a)), (st "startpos", .int p), (st "pos", .int q), (st "newitem", tupI (xs.getD p [])), (st "endpos", .int xs.length), (st "childpos", .int c)] ℓ') ?_ ?_)
    · refine ES_if (EB_bool (EAll_and ?_))
      refine EB_cmp (EV_name rfl rfl (EV_name rfl rfl (lt_ii (TruOk_bool ⟨fun hc => ?_, fun hc => ⟨nofun, fun _ => ?_⟩⟩))))
      · have hc' : 2 * q + 2 < ys.length := by have := of_decide_eq_true hc; omega
        refine EAll_and (EB_not ?_)
        refine EB_cmp (EV_sub (EV_name rfl rfl (EV_name rfl rfl ?_)))
        refine item_list (.lst hσ.self) (by omega) (by omega) (d := tupI (ys.getD (2 * q + 1) [])) (by rw [show (2 * (q : Int) + 1).toNat = 2 * q + 1 by omega]; exact getD_at hb') ?_
        refine EV_sub (EV_name rfl rfl (EV_name rfl rfl ?_))
        refine item_list (.lst hσ.self) (by omega) (by omega) (d := tupI (ys.getD (2 * q + 2) [])) (by rw [show (2 * (q : Int) + 1 + 1).toNat = 2 * q + 2 by omega]; exact getD_at hc') ?_
        refine lt_tup (TruOk_bool ⟨fun hd => EAll_andnil ⟨fun _ => ?_, nofun⟩, fun hd => ⟨nofun, fun _ => ?_⟩⟩)
        · have hd' : ltI (ys.getD (2 * q + 1) []) (ys.getD (2 * q + 2) []) = false := by simpa using hd
          refine EX_cons (ES_assign (.inl rfl) (EV_name rfl rfl (EX_nil ?_)))
          refine ⟨rfl, rfl, 2 * q + 2, hc', by omega, ?_, ⟨rfl, rfl, rfl, rfl, rfl, ?_, trivial⟩⟩
          · conv => lhs; rw [suL]
            simp only [hb', hc', hd', if_true, and_self]
          · show some (AV.int (2 * (q : Int) + 1 + 1)) = some (AV.int ((2 * q + 2 : Nat) : Int))
            congr 2
        · have hd' : ltI (ys.getD (2 * q + 1) []) (ys.getD (2 * q + 2) []) = true := by simpa using hd
          refine EX_nil ⟨rfl, rfl, 2 * q + 1, hb', by omega, ?_, ⟨rfl, rfl, rfl, rfl, rfl, ?_, trivial⟩⟩
          · conv => lhs; rw [suL]
            simp only [hb', hc', hd', if_true, Bool.true_eq_false, and_false, if_false]
          · show some (AV.int (2 * (q : Int) + 1)) = some (AV.int ((2 * q + 1 : Nat) : Int))
            congr 2
      · have hc' : ¬ 2 * q + 2 < ys.length := by have := of_decide_eq_false hc; omega
        refine EX_nil ⟨rfl, rfl, 2 * q + 1, hb', by omega, ?_, ⟨rfl, rfl, rfl, rfl, rfl, ?_, trivial⟩⟩
        · conv => lhs; rw [suL]
          simp only [hb', hc', if_true, false_and, if_false]
        · show some (AV.int (2 * (q : Int) + 1)) = some (AV.int ((2 * q + 1 : Nat) : Int))
          congr 2
    · rintro _ ℓ' _ ⟨rfl, rfl, c, hcl, hqc, hsu, hs'⟩
      refine EX_sub hs' (EX_cons (ES_store ?_))
      refine EV_sub (EV_name rfl rfl (EV_name rfl rfl ?_))
      refine item_list (.lst hσ.self) (by (with_reducible exact Int.natCast_nonneg _)) (by omega) (d := tupI (ys.getD c [])) (by rw [Int.toNat_natCast]; exact getD_at hcl) ?_
      refine EV_name rfl rfl (EV_name rfl rfl ?_)
      refine ⟨a, _, q, rfl, rfl, hσ.self, by (with_reducible exact Int.natCast_nonneg _), by simpa using hq, by simpa [hy] using hz, ?_⟩
      refine EX_cons (ES_assign (.inl rfl) (EV_name rfl rfl ?_))
      refine EX_cons (ES_assign (.inl rfl) ?_)
      refine EV_binop (EV_binop (EV_int (EV_name rfl rfl (mul_ii (.of_left (by decide)) (EV_int (add_ii (EX_nil ?_)))))))
      have e : (ys.map tupI).set (q : Int).toNat (tupI (ys.getD c [])) = (ys.set q (ys.getD c [])).map tupI := by simp [List.map_set]
      rw [e]
      exact ⟨xs.length - c, by omega, c, ys.set q (ys.getD c []), rfl, by simpa using hcl, by simpa using hy, by rw [← hsu, he], ⟨rfl, rfl, rfl, rfl, rfl, rfl, trivial⟩, hσ.trans (Upd.upd hσ.self)⟩
  · have hb' : ¬ 2 * q + 1 < ys.length := by have := of_decide_eq_false hb; omega
    refine ⟨rfl, q, ys, ?_, ?_, hσ⟩
    · rw [← he, suL, if_neg hb']
    · exact ⟨hsub.1, hsub.2.1, hsub.2.2.1, hsub.2.2.2.1, trivial⟩
end
end Mine

end
/- part H2b -/
section
open PySem PySem.W PyProof.Rows
set_option Elab.async false
set_option maxRecDepth 100000
namespace Mine
open PySem PySem.W PyProof.Rows PySem.Calls PySem.Spec

noncomputable def pushF (xs : List (List Int)) (t : List Int) : List (List Int) := sdF ltI t 0 xs.length (xs ++ [t])
noncomputable def popF (xs : List (List Int)) (last : List Int) : List (List Int) := match xs with
  | [] => []
  | _ :: _ => suF ltI 0 (xs.set 0 last)
noncomputable def heapF (xs : List (List Int)) : Nat → List (List Int)
  | 0 => xs
  | k + 1 => heapF (suF ltI k xs) k
noncomputable def heapifyF (xs : List (List Int)) : List (List Int) := heapF xs (xs.length / 2)

section
variable {w : World} {hB : Heap} {n : Nat} {σ : Store} {Q : AV → Store → Prop}
set_option maxHeartbeats 1000000
theorem heappush_spec (G : Gd (G1 w hB)) {a : Addr} {xs : List (List Int)} {t : List Int} (hl : σ.lookup a = some (.lst (xs.map tupI))) (hz : xs.length < 100000)
    (h : ∀ σ', Upd σ a (.lst ((pushF xs t).map tupI)) σ' → Q .none σ') : CALL (G1 w hB) (n + 5) (.ref 28) [.raw (.ref a), tupI t] [] σ Q := by
  refine CALL_pos G (a := 28) [st "heap", st "item"] rfl rfl rfl rfl rfl rfl rfl rfl rfl rfl (by decide) rfl (by decide) rfl ?_ ?_
  · rintro (_ | ⟨v1, _ | ⟨v2, _ | ⟨_, _⟩⟩⟩) h <;> first | rfl | (simp at h)
  intro L
  refine EX_cons (ES_expr ?_)
  refine EV_meth PySem.F.plainAttrs_list PySem.F.slot_list_append PySem.F.type_list_append rfl (by decide) rfl rfl (EV_name rfl rfl ⟨type_lst hl, ?_⟩)
  refine EL_cons (EV_name rfl rfl (EL_nil ?_))
  refine CALL_append hl (by simp; (with_reducible exact Nat.lt_of_lt_of_le (by assumption) (by decide))) ?_
  have e : xs.map tupI ++ [tupI t] = (xs ++ [t]).map tupI := by simp
  rw [e]
  have hu := Upd.upd (o' := .lst ((xs ++ [t]).map tupI)) hl
  refine EX_cons (ES_expr ?_)
  refine EV_gcall G rfl rfl rfl rfl (?_)
  refine EL_cons (EV_name rfl rfl (EL_cons (EV_int (EL_cons ?_))))
  refine EV_binop (EV_bcall G rfl rfl (by decide) rfl rfl (?_))
  refine EL_cons (EV_name rfl rfl (EL_nil ?_))
  refine len_list (.lst hu.self) (by simp; omega) ?_
  refine EV_int (sub_ii (EL_nil ?_))
  have e2 : ((((xs ++ [t]).map tupI).length : Nat) : Int) - 1 = ((xs.length : Nat) : Int) := by simp
  rw [e2]
  refine siftdown_spec (s := 0) G hu.self (x := t) (by simp) (by simp; omega) fun σ₃ h₃ => ?_
  exact EX_nil (h _ (hu.trans h₃))
theorem heappop_spec (G : Gd (G1 w hB)) {a : Addr} {xs : List (List Int)} {t : List Int} (hl : σ.lookup a = some (.lst ((xs ++ [t]).map tupI))) (hz : xs.length < 100000)
    (h : ∀ σ', Upd σ a (.lst ((popF xs t).map tupI)) σ' → Q (tupI ((xs ++ [t]).getD 0 [])) σ') : CALL (G1 w hB) (n + 5) (.ref 35) [.raw (.ref a)] [] σ Q := by
  refine CALL_pos G (a := 35) [st "heap"] rfl rfl rfl rfl rfl rfl rfl rfl rfl rfl (by decide) rfl (by decide) rfl ?_ ?_
  · rintro (_ | ⟨v1, _ | ⟨_, _⟩⟩) h <;> first | rfl | (simp at h)
  intro L
  rw [List.map_append, List.map_cons, List.map_nil] at hl
  refine EX_cons (ES_assign (.inl rfl) ?_)
  refine EV_meth PySem.F.plainAttrs_list PySem.F.slot_list_pop PySem.F.type_list_pop rfl (by decide) rfl rfl (EV_name rfl rfl ⟨type_lst hl, ?_⟩)
  refine EL_nil (CALL_pop hl (by simp; (with_reducible exact Nat.lt_of_lt_of_le (by assumption) (by decide))) ?_)
  have hu := Upd.upd (o' := .lst (xs.map tupI)) hl
  refine EX_cons (ES_if (EB_value (EV_name rfl rfl (TruOk_list (.lst hu.self) (by simp; (with_reducible exact Nat.lt_of_lt_of_le (by assumption) (by decide))) ⟨fun hb => ?_, fun hb => ?_⟩))))
  · cases xs with
    | nil => simp at hb
    | cons y ys =>
      refine EX_cons (ES_assign (.inl rfl) ?_)
      refine EV_sub (EV_name rfl rfl (EV_int ?_))
      refine item_list (.lst hu.self) (by omega) (by omega) (d := tupI y) rfl ?_
      refine EX_cons (ES_store (EV_name rfl rfl (EV_name rfl rfl (EV_int ?_))))
      refine ⟨a, _, 0, rfl, rfl, hu.self, by omega, by simp, by simp at hz ⊢; (with_reducible exact Nat.lt_of_lt_of_le (by assumption) (by decide)), ?_⟩
      have e : ((y :: ys).map tupI).set (0 : Int).toNat (tupI t) = (((y :: ys).set 0 t)).map tupI := by simp
      rw [e]
      have hu2 := hu.trans (Upd.upd (o' := .lst (((y :: ys).set 0 t).map tupI)) hu.self)
      refine EX_cons (ES_expr ?_)
      refine EV_gcall G rfl rfl rfl rfl (?_)
      refine EL_cons (EV_name rfl rfl (EL_cons (EV_int (EL_nil ?_))))
      refine siftup_spec (p := 0) G hu2.self (by simp) (by simp at hz ⊢; (with_reducible exact Nat.lt_of_lt_of_le (by assumption) (by decide))) fun σ₃ h₃ => ?_
      refine EX_cons (ES_ret (EV_name rfl rfl ?_))
      exact h _ (hu2.trans h₃)
  · cases xs with
    | cons y ys => simp at hb
    | nil =>
      refine EX_nil (EX_cons (ES_ret (EV_name rfl rfl ?_)))
      exact h _ hu
theorem heapify_spec (G : Gd (G1 w hB)) {a : Addr} {xs : List (List Int)} (hl : σ.lookup a = some (.lst (xs.map tupI))) (hz : xs.length < 100000)
    (h : ∀ σ', Upd σ a (.lst ((heapifyF xs).map tupI)) σ' → Q .none σ') : CALL (G1 w hB) (n + 5) (.ref 42) [.raw (.ref a)] [] σ Q := by
  refine CALL_pos G (a := 42) [st "x"] rfl rfl rfl rfl rfl rfl rfl rfl rfl rfl (by decide) rfl (by decide) rfl ?_ ?_
  · rintro (_ | ⟨v1, _ | ⟨_, _⟩⟩) h <;> first | rfl | (simp at h)
  intro L
  refine EX_cons (ES_assign (.inl rfl) ?_)
  refine EV_bcall G rfl rfl (by decide) rfl rfl (?_)
  refine EL_cons (EV_name rfl rfl (EL_nil ?_))
  refine len_list (.lst hl) (by simp; (with_reducible exact Nat.lt_of_lt_of_le (by assumption) (by decide))) ?_
  refine EX_cons (ES_for (EI_rev (EV_builtin G rfl rfl (by decide) rfl ⟨rfl, ?_⟩)))
  refine EV_tcall G rfl rfl (by decide) rfl rfl (?_)
  refine EL_cons (EV_binop (EV_name rfl rfl (EV_int (fdiv_ii (by decide) (by decide) (EL_nil (CALL_range1 ?_))))))
  have e1 : Int.fdiv (((xs.map tupI).length : Nat) : Int) 2 = ((xs.length / 2 : Nat) : Int) := by
    rw [Int.fdiv_eq_ediv_of_nonneg _ (by decide)]; simp
  rw [e1]
  refine ⟨xs.length / 2, rfl, by omega, fun i ℓ' σ' => ∃ ys : List (List Int), ys.length = xs.length ∧ i ≤ xs.length / 2 ∧ Sub [(st "x", .raw (.ref a))] ℓ' ∧ Upd σ a (.lst (ys.map tupI)) σ' ∧ heapF ys (xs.length / 2 - i) = heapifyF xs, ?_, ?_, ?_⟩
  · exact ⟨xs, rfl, by (with_reducible exact Nat.zero_le _), ⟨rfl, trivial⟩, .refl hl, rfl⟩
  · rintro i d ℓ' σ' hd ⟨ys, hy, hi, hsub, hσ, he⟩
    have hlt : i < (downL (xs.length / 2)).length := by
      have := (List.getElem?_eq_some_iff.mp hd).1
      simpa [intsA] using this
    have hlt' : i < xs.length / 2 := by simpa [downL] using hlt
    rw [intsA_get hlt] at hd
    cases hd
    have ed : (downL (xs.length / 2))[i] = ((xs.length / 2 - 1 - i : Nat) : Int) := by simp [downL]; omega
    rw [ed]
    refine ASG_name (.inl rfl) ?_
    refine EX_sub (ℓ' := [(st "x", .raw (.ref a)), (st "i", .int ((xs.length / 2 - 1 - i : Nat) : Int))]) ⟨hsub.1, rfl, trivial⟩ ?_
    refine EX_cons (ES_expr ?_)
    refine EV_gcall G rfl rfl rfl rfl (?_)
    refine EL_cons (EV_name rfl rfl (EL_cons (EV_name rfl rfl (EL_nil ?_))))
    refine siftup_spec G hσ.self (by omega) (by (with_reducible exact Mine.om_eqlt (by assumption) (by assumption) (by decide))) fun σ₃ h₃ => EX_nil ?_
    refine ⟨suF ltI (xs.length / 2 - 1 - i) ys, by rw [suF_length (by omega)]; exact hy, by (with_reducible exact Nat.succ_le_of_lt (by assumption)), ⟨rfl, trivial⟩, hσ.trans h₃, ?_⟩
    rw [← he]
    have : xs.length / 2 - i = (xs.length / 2 - 1 - i) + 1 := by omega
    rw [this, heapF]
    congr 1; omega
  · rintro ℓ' σ' ⟨ys, hy, hi, hsub, hσ, he⟩
    refine EX_nil (h _ ?_)
    have e3 : (intsA (downL (xs.length / 2))).length = xs.length / 2 := by simp [intsA, downL]
    rw [e3, Nat.sub_self] at he
    rw [← he]
    exact hσ
end
end Mine

end
/- part Core11 -/
section
open PySem PySem.W PyProof.Rows
set_option Elab.async false
namespace Mine
open PySem PySem.W PyProof.Rows PySem.Calls PySem.Spec

structure ItrOn (g : Gr) (A : Around) (s : Shared) (items : List AV) (s₂ : Shared) (σ₂ : Store) (I : Addr) (fp wr : List Addr) (P : Nat → Value → Prop) (St : Nat → Heap → Prop) : Prop where
  W : Walks g.prog g.w A I fp wr items.length P St
  hI : I ∈ wr
  new : ∀ b ∈ wr, s.heap.get? b = none
  hfp : ∀ i h, St i h → ∀ b ∈ fp, ∃ o, h.get? b = some o ∧ (Fz o ∨ Fl o)
  hwr : ∀ i h, St i h → ∀ b ∈ wr, ∃ o, h.get? b = some o ∧ Fl o
  rep : ∀ h' D', KeepsF s₂.heap (dom σ₂) h' D' → ∀ i v, i < items.length → P i v → ∃ d, items[i]? = some d ∧ RepV h' D' v d
structure LoopSt (g : Gr) (B : List Addr) (s : Shared) (σ : Store) (s₂ : Shared) (σ₂ : Store) (fp : List Addr) (St : Nat → Heap → Prop) (env : Env) (i : Nat) (ℓ' : Loc) (σ' : Store) (s' : Shared) : Prop where
  st : St i s'.heap
  fi : FI g.hB s'.heap (dom σ') env ℓ'
  post : Post g B s σ s' σ'
  keep : KeepsF s₂.heap (dom σ₂) s'.heap (dom σ')
  off : ∀ b ∈ fp, b ∉ dom σ'

inductive NextSt (g : Gr) (B : List Addr) (s : Shared) (σ : Store) (s₂ : Shared) (σ₂ : Store) (fp : List Addr) (St : Nat → Heap → Prop) (env : Env) (items : List AV) (I : Addr) (i : Nat) (ℓ₃ : Loc) (σ₃ : Store) (s₃ : Shared) (v : Value) (s₄ : Shared) : Prop
  | mk (d : AV) (o : Obj) (hd : items[i]? = some d) (eI : s₄.heap.get? I = some o) (fI : Fl o) (hf : FI g.hB s₄.heap (dom σ₃) env ℓ₃) (S : SIg g σ₃ s₄.heap) (rv : RepV s₄.heap (dom σ₃) v d) (k : KeepsF s₃.heap (dom σ₃) s₄.heap (dom σ₃))
      (go : ∀ s₆ σ₆ ℓ₆ B₁, (∀ b ∈ B₁, b ∈ fa env) → (∀ b ∈ B₁, b ∈ B) → Post g B₁ s₄ σ₃ s₆ σ₆ → FI g.hB s₆.heap (dom σ₆) env ℓ₆ → LoopSt g B s σ s₂ σ₂ fp St env (i + 1) ℓ₆ σ₆ s₆)
section
variable {g : Gr} {A : Around} {s s₂ : Shared} {σ σ₂ : Store} {n : Nat} {env : Env} {ℓ : Loc} {items : List AV} {I : Addr} {fp wr : List Addr} {P : Nat → Value → Prop} {St : Nat → Heap → Prop}

theorem next_ok {B : List Addr} {i : Nat} {ℓ₃ : Loc} {σ₃ : Store} {s₃ : Shared} (hi : SIg g σ s.heap) (X : ItrOn g A s items s₂ σ₂ I fp wr P St) (L : LoopSt g B s σ s₂ σ₂ fp St env i ℓ₃ σ₃ s₃) (hle : i ≤ items.length) :
    wpAny (model g.prog g.w) A (pyNext (.ref I)) (fun r s₄ => match r with
      | none => i = items.length ∧ FI g.hB s₄.heap (dom σ₃) env ℓ₃ ∧ Post g B s σ s₄ σ₃ ∧ KeepsF s₃.heap (dom σ₃) s₄.heap (dom σ₃)
      | some v => NextSt g B s σ s₂ σ₂ fp St env items I i ℓ₃ σ₃ s₃ v s₄) (fun _ _ => False) s₃ := by
  obtain ⟨st₃, hf₃, p₃, k₃, off₃⟩ := L
  obtain ⟨W, hI, hnew, hfp, hwr, hrep⟩ := X
  have hwf : ∀ b ∈ wr, b ∉ fa env := fun b hb => by
    obtain ⟨o, e, f⟩ := hwr i _ st₃ b hb
    obtain ⟨vs, hd, _⟩ := f
    exact fa_not_fl hf₃ e hd
  have hwB : ∀ b ∈ wr, g.hB.get? b = none := fun b hb => by
    cases q : g.hB.get? b with
    | none => rfl
    | some o => have := hi.base _ _ q; rw [hnew b hb] at this; cases this
  have step : ∀ h' : Heap, (∀ b o, b ∉ wr → s₃.heap.get? b = some o → h'.get? b = some o) → KeepsF s₃.heap (dom σ₃) h' (dom σ₃) ∧ FI g.hB h' (dom σ₃) env ℓ₃ ∧ ∀ tk, Post g B s σ { s₃ with heap := h', toks := tk } σ₃ := fun h' hk => by
    have k' : KeepsF s₃.heap (dom σ₃) h' (dom σ₃) := fun b o e nb f => ⟨hk b o (fun q => by
      obtain ⟨o', e', f'⟩ := hwr i _ st₃ b q
      rw [e] at e'; cases e'
      exact f'.nf f) e, nb⟩
    refine ⟨k', hf₃.chg hk hwf k', fun tk => ⟨SI.chg p₃.si hk (fun b hb => ⟨off₃ b (W.sub b hb), hwB b hb⟩) k', ⟨fun b o e => ?_, fun b o e nb nf => ?_⟩, p₃.gens, p₃.os⟩⟩
    · obtain ⟨o', e'⟩ := p₃.ext.there b o e
      exact ⟨o', hk b o' (fun z => by rw [hnew b z] at e; cases e) e'⟩
    have q := p₃.ext.keep b o e nb nf
    exact ⟨hk b o (fun z => by rw [hnew b z] at e; cases e) q.1, q.2⟩
  by_cases hlt : i < items.length
  · refine W.item i s₃ _ _ hlt st₃ fun v h₄ tk₄ hP st₄ hk₄ => ?_
    obtain ⟨k₄, hf₄, p₄⟩ := step h₄ hk₄
    obtain ⟨o₄, e₄, f₄⟩ := hwr (i + 1) _ st₄ I hI
    obtain ⟨d, hd, rv⟩ := hrep h₄ (dom σ₃) (fun b o e nb f => let ⟨e', nb'⟩ := k₃ b o e nb f; k₄ b o e' nb' f) i v hlt hP
    have P4 := p₄ tk₄
    refine ⟨d, o₄, hd, e₄, f₄, hf₄, P4.si, rv, k₄, fun s₆ σ₆ ℓ₆ B₁ hB₁ hBB p56 hf₆ => ?_⟩
    have k56 : KeepsF h₄ (dom σ₃) s₆.heap (dom σ₆) := fun b o e nD f => p56.ext.keep b o e nD fun q => fa_not_fz hf₄ e f (hB₁ b q)
    have nf : ∀ b ∈ fp, ∀ o', h₄.get? b = some o' → b ∉ fa env := fun b hb o' e' => by
      obtain ⟨o'', e'', f'⟩ := hfp (i + 1) _ st₄ b hb
      rw [e'] at e''; cases e''
      rcases f' with f' | ⟨vs, hd, _⟩
      · exact fa_not_fz hf₄ e' f'
      · exact fa_not_fl hf₄ e' hd
    refine ⟨W.frame _ _ _ st₄ fun b hb o e => (p56.ext.keep b o e (off₃ b hb) fun q => nf b hb o e (hB₁ b q)).1, hf₆, ?_, fun b o e nb f => ?_, fun b hb => ?_⟩
    · exact P4.trans (p56.weak fun b hb o e => hBB b hb)
    · obtain ⟨e1, n1⟩ := k₃ b o e nb f
      obtain ⟨e2, n2⟩ := k₄ b o e1 n1 f
      exact k56 b o e2 n2 f
    · obtain ⟨o', e', _⟩ := hfp (i + 1) _ st₄ b hb
      exact (p56.ext.keep b o' e' (off₃ b hb) fun q => nf b hb o' e' (hB₁ b q)).2
  · have hie : i = items.length := by omega
    subst hie
    refine W.done s₃ _ _ st₃ fun h₄ tk₄ hk₄ => ?_
    obtain ⟨k₄, hf₄, p₄⟩ := step h₄ hk₄
    exact ⟨rfl, hf₄, p₄ tk₄, k₄⟩
end

noncomputable def ASGc (g : Gr) (n : Nat) (env : Env) (t : Expr) (d : AV) (ℓ : Loc) (σ : Store) (Q : Loc → Prop) : Prop :=
  ∀ A s v, Room n A → SIg g σ s.heap → FI g.hB s.heap (dom σ) env ℓ → RepV s.heap (dom σ) v d → wpAny (model g.prog g.w) A (assign t env v) (fun _ s' => ∃ ℓ', Q ℓ' ∧ FI g.hB s'.heap (dom σ) env ℓ' ∧ Post g [env.locals] s σ s' σ) (fun _ _ => False) s
section
variable {g : Gr} {A : Around} {s s₂ : Shared} {σ σ₂ : Store} {n : Nat} {env : Env} {ℓ : Loc}
theorem store_okL {x : Str} {v : Value} {d : AV} {Q : Unit → Shared → Prop} (hs : SIg g σ s.heap) (hf : FI g.hB s.heap (dom σ) env ℓ) (hk : env.kindOf x = some .local) (rv : RepV s.heap (dom σ) v d)
    (h : ∀ s', FI g.hB s'.heap (dom σ) env ((x, d) :: ℓ) → Post g [env.locals] s σ s' σ → Q () s') : wpAny (model g.prog g.w) A (storeName env x v) Q (fun _ _ => False) s := by
  obtain ⟨m, hn, hm⟩ := hf.ns
  have hL := hf.off _ (List.mem_cons_self ..)
  refine wpAny_storeName_local hk hn (fun h' hn' hsb => h _ ?_ ?_) (by rw [hf.kind]; rfl)
  · have k := keepsF_ns (D := dom σ) hn hsb
    refine ⟨hf.new, hf.kind, hf.glob, hf.blt, hf.off, ⟨_, hn', fun y d' hky hl => ?_⟩, fun p hp => ?_, hf.has, hf.inj, hf.uniq⟩
    · rw [List.lookup_cons] at hl
      by_cases hyx : y = x
      · subst hyx
        rw [show (y == y) = true from beq_self_eq_true y] at hl
        cases hl
        exact ⟨v, if_pos rfl, rv.keep k⟩
      · rw [show (y == x) = false from beq_eq_false_iff_ne.mpr hyx] at hl
        obtain ⟨v', e, r⟩ := hm y d' hky hl
        exact ⟨v', (if_neg hyx).trans e, r.keep k⟩
    · obtain ⟨v', hc, r⟩ := hf.cell p hp
      have hne : p.2 ≠ env.locals := fun q => by
        obtain ⟨o, ho, hd⟩ := hc
        obtain ⟨o', es, ep, ho', hd', _⟩ := hn
        rw [q, ho'] at ho; cases ho; rw [hd'] at hd; cases hd
      refine ⟨v', hc.sameBut hsb hne, fun d' hkp hl => ?_⟩
      rw [List.lookup_cons] at hl
      have hpx : p.1 ≠ x := fun q => by rw [q, hk] at hkp; rcases hkp with e | e <;> cases e
      rw [show (p.1 == x) = false from beq_eq_false_iff_ne.mpr hpx] at hl
      obtain ⟨u, e, q⟩ := r d' hkp hl
      exact ⟨u, e, q.keep k⟩
  · exact ⟨SI.sameBut hs hsb hL (hf.new _ (List.mem_cons_self ..)) (keepsF_ns hn hsb), ⟨sameBut_there hsb (let ⟨o, _, _, e, _⟩ := hn'; ⟨o, e⟩), fun b o e nD nB => ⟨(hsb.2 b fun q => nB (q ▸ List.mem_cons_self ..)).trans e, nD⟩⟩, rfl, rfl⟩
theorem ASGc_name {x : Str} {px : Pos} {d : AV} {Q : Loc → Prop} (hk : env.kindOf x = some .local) (h : Q ((x, d) :: ℓ)) : ASGc g n env (.Name x px) d ℓ σ Q := by
  intro A s v hr hs hf rv
  exact wpAny_assign_Name (store_okL hs hf hk rv fun s' hf' p => ⟨_, h, hf', p⟩)
theorem order_okL : ∀ (xs : List (Str × Pos)) (vs : List Value) (ds : List AV) (s : Shared) (ℓ : Loc) (Q : Unit → Shared → Prop), SIg g σ s.heap → FI g.hB s.heap (dom σ) env ℓ → RepL s.heap (dom σ) vs ds → xs.length = vs.length →
    (∀ x ∈ xs, env.kindOf x.1 = some .local) → (∀ s', FI g.hB s'.heap (dom σ) env (puts (xs.map (·.1)) ds ℓ) → Post g [env.locals] s σ s' σ → Q () s') →
    wpAny (model g.prog g.w) A (assignInOrder (xs.map fun x => assign (.Name x.1 x.2) env) vs) Q (fun _ _ => False) s
  | [], [], ds, s, ℓ, Q, hs, hf, rl, _, _, h => by
    cases rl
    exact wpAny_pure (h s hf (.refl hs))
  | (x, px) :: xs, v :: vs, ds, s, ℓ, Q, hs, hf, rl, hl, hk, h => by
    cases rl with
    | cons rv rr =>
      show wpAny _ _ (do holding vs (assign (.Name x px) env v); assignInOrder (xs.map fun x => assign (.Name x.1 x.2) env) vs) _ _ _
      refine wpAny_bind (wpAny_holding (wpAny_assign_Name (store_okL hs hf (hk _ (.head _)) rv fun s' hf' p => ?_)))
      have kp : KeepsF s.heap (dom σ) s'.heap (dom σ) := fun b o e nD f => p.ext.keep b o e nD fun q => fa_not_fz hf e f (by rw [List.mem_singleton.mp q]; exact List.mem_cons_self ..)
      exact order_okL xs vs _ s' _ Q p.si hf' (rr.keep kp) (by simpa using hl) (fun y hy => hk y (.tail _ hy)) fun s'' hf'' p' => h s'' hf'' (p.trans p')
  | [], _ :: _, _, _, _, _, _, _, _, hl, _, _ => by simp at hl
  | _ :: _, [], _, _, _, _, _, _, _, hl, _, _ => by simp at hl
theorem ASGc_tup {xs : List (Str × Pos)} {k : Nat} {pos : Pos} {ds : List AV} {elts : List Expr} {Q : Loc → Prop} (helts : assignEach elts env = xs.map fun x => (false, assign (.Name x.1 x.2) env)) (hl : xs.length = ds.length)
    (hk : ∀ x ∈ xs, env.kindOf x.1 = some .local) (h : Q (puts (xs.map (·.1)) ds ℓ)) : ASGc g n env (.Tuple elts k pos) (.tup ds) ℓ σ Q := by
  intro A s v hr hs hf rv
  cases rv with
  | tup e nb rl =>
    refine wpAny_assign_Tuple hr.1 ⟨_, e, rfl, _, rfl⟩ (by rw [helts]; simp [hl, rl.length]) ?_ fun h' hx => ?_
    · rw [helts, List.findIdx?_eq_none_iff]
      intro x hx
      obtain ⟨y, _, rfl⟩ := List.mem_map.mp hx
      rfl
    · have p := Post.keeps (B := []) hs (keep_newer hx)
      have em : (assignEach elts env).map (·.2) = xs.map fun x => assign (.Name x.1 x.2) env := by rw [helts, List.map_map]; rfl
      rw [em]
      exact order_okL xs _ ds _ ℓ _ p.si (hf.ext p.ext) (rl.keep p.keepsF) (by rw [hl, rl.length]) hk fun s' hf' p' => ⟨_, h, hf', p.up.trans p'⟩
end

noncomputable def ETests (g : Gr) (n : Nat) (env : Env) (ifs : List Expr) (ℓ : Loc) (σ : Store) (Q : Bool → Store → Prop) : Prop := match ifs with
  | [] => Q true σ
  | [c] => EB g n env c ℓ σ Q
  | _ => False
noncomputable def CT (g : Gr) (n : Nat) (env : Env) (elt : Expr) (a : Addr) : List Comprehension → Loc → Store → (Loc → Store → Prop) → Prop
  | [], ℓ, σ, Q => EV g n env elt ℓ σ fun d σ' => ∃ ys, σ'.lookup a = some (.lst ys) ∧ ys.length < 100000 ∧ Q ℓ (upd σ' a (.lst (ys ++ [d])))
  | ⟨target, iter, ifs, as⟩ :: rest, ℓ, σ, Q => as = 0 ∧ (∀ x, foldedSetIterable iter env x = pure x) ∧ EI g n env iter ℓ σ fun items σ₁ => ∃ J : Nat → Loc → Store → Prop, J 0 ℓ σ₁ ∧
      (∀ i d ℓ' σ', items[i]? = some d → J i ℓ' σ' → ASGc g n env target d ℓ' σ' fun ℓ'' => ETests g n env ifs ℓ'' σ' fun b σ'' => (b = true → CT g n env elt a rest ℓ'' σ'' (J (i + 1))) ∧ (b = false → J (i + 1) ℓ'' σ'')) ∧
      ∀ ℓ' σ', J items.length ℓ' σ' → Q ℓ' σ'

theorem compTurn_at {elt : Expr} {gens : List Comprehension} {scope : Scope} {pos : Pos} {depth : Nat} {it acc : Value} {env : Env} {target iter : Expr} {ifs : List Expr} (hg : gens[depth]? = some ⟨target, iter, ifs, 0⟩) :
    compTurn (.ListComp elt gens scope pos) depth it acc env = (do
      standAt iter.pos
      match ← pyNext it with
      | none => pure (.done .next)
      | some v =>
        letOwnedTupleGo target it v
        assign target env v
        let mut ok := true
        for c in ifs do
          if ok then ok ← isTrue c env (eval c env)
        if ok then
          match gens[depth + 1]? with
          | some g' =>
            let x ← eval g'.iter env
            standAt g'.iter.pos
            let x ← if g'.is_async != 0 then foldedIterable g'.iter x else foldedSetIterable g'.iter env x
            let _ ← runOwn (.compStart (.ListComp elt gens scope pos) (depth + 1) (← holding [x] (if g'.is_async != 0 then asyncIter x else pyIter x)) acc env) env
          | none => (do let _ ← call (.builtin "list.append") [acc, ← eval elt env])
        again (.compLoop (.ListComp elt gens scope pos) depth it acc env)) := by
  unfold compTurn
  dsimp only
  rw [hg]
  rfl

section
variable {g : Gr} {A : Around} {s s₂ : Shared} {σ σ₂ : Store} {n : Nat} {env : Env} {ℓ : Loc} {items : List AV} {I : Addr} {fp wr : List Addr} {P : Nat → Value → Prop} {St : Nat → Heap → Prop}

theorem tests_ok {ifs : List Expr} {Q : Bool → Store → Prop} (h : ETests g n env ifs ℓ σ Q) (hr : Room n A) (hs : SIg g σ s.heap) (hf : FI g.hB s.heap (dom σ) env ℓ) :
    TB g A (forIn ifs true fun c r => if r = true then do let ok ← isTrue c env (eval c env); pure (ForInStep.yield ok) else pure (ForInStep.yield r)) s σ Q := by
  match ifs, h with
  | [], h => exact wpAny_tests_nil ⟨σ, h, .refl hs⟩
  | [c], h => exact wpAny_tests_one (h A s hr hs hf)

inductive CompSt (g : Gr) (s : Shared) (σ : Store) (s₂ : Shared) (σ₂ : Store) (fp : List Addr) (St : Nat → Heap → Prop) (env : Env) (J : Nat → Loc → Store → Prop) (m k : Nat) (s' : Shared) : Prop
  | mk (i : Nat) (ℓ' : Loc) (σ' : Store) (ek : k = m + 1 - i) (hi : i ≤ m) (hJ : J i ℓ' σ') (L : LoopSt g [env.locals] s σ s₂ σ₂ fp St env i ℓ' σ' s')
inductive CompEnd (g : Gr) (s : Shared) (σ : Store) (env : Env) (J : Loc → Store → Prop) (s' : Shared) : Prop
  | mk (ℓ' : Loc) (σ' : Store) (hJ : J ℓ' σ') (fi : FI g.hB s'.heap (dom σ') env ℓ') (p : Post g [env.locals] s σ s' σ')
theorem comp_loop {elt : Expr} {gens : List Comprehension} {scope : Scope} {pos : Pos} {a : Addr} (hr : Room n A) : ∀ (rest : List Comprehension) (depth : Nat) (target iter : Expr) (ifs : List Expr) {s s₂ s₃ : Shared} {σ σ₂ σ₃ : Store} {ℓ₃ : Loc} {items : List AV} {I : Addr} {fp wr : List Addr} {P : Nat → Value → Prop} {St : Nat → Heap → Prop} {Q : Loc → Store → Prop} {J : Nat → Loc → Store → Prop} {R : Result → Shared → Prop},
    gens[depth]? = some ⟨target, iter, ifs, 0⟩ → gens.drop (depth + 1) = rest → SIg g σ s.heap → ItrOn g A s items s₂ σ₂ I fp wr P St → LoopSt g [env.locals] s σ s₂ σ₂ fp St env 0 ℓ₃ σ₃ s₃ → J 0 ℓ₃ σ₃ →
    (∀ i d ℓ' σ', items[i]? = some d → J i ℓ' σ' → ASGc g n env target d ℓ' σ' fun ℓ'' => ETests g n env ifs ℓ'' σ' fun b σ'' => (b = true → CT g n env elt a rest ℓ'' σ'' (J (i + 1))) ∧ (b = false → J (i + 1) ℓ'' σ'')) →
    (∀ ℓ' σ', J items.length ℓ' σ' → Q ℓ' σ') →
    (∀ s' ℓ' σ', Q ℓ' σ' → FI g.hB s'.heap (dom σ') env ℓ' → Post g [env.locals] s σ s' σ' → R (.ok .next) s') →
    codeAny (model g.prog g.w) A (.compLoop (.ListComp elt gens scope pos) depth (.ref I) (.ref a) env) R s₃ := by
  intro rest
  induction rest with
  | nil =>
    intro depth target iter ifs s s₂ s₃ σ σ₂ σ₃ ℓ₃ items I fp wr P St Q J R hg hrest hi X L hJ turn fin hR
    have hg1 : gens[depth + 1]? = none := by
      rw [List.getElem?_eq_none_iff]
      have := congrArg List.length hrest
      simp at this; omega
    refine codeAny_loop rfl (CompSt g s σ s₂ σ₂ fp St env J items.length) ?_ (items.length + 1) ⟨0, ℓ₃, σ₃, by omega, by (with_reducible exact Nat.zero_le _), hJ, L⟩
    rintro k s' ⟨i, ℓ', σ', rfl, hle, hJ', L'⟩
    show wpAny _ A ((compTurn (.ListComp elt gens scope pos) depth (.ref I) (.ref a) env).onRaise (fun x => do noteFrame x env; theTreesLotGoes x)) _ _ s'
    refine wpAny_noted ?_
    rw [compTurn_at hg]
    refine wpAny_bind (wpAny_standAt (wpAny_bind (wpAny_mono (next_ok hi X L' hle) ?_ fun _ _ f => f.elim)))
    intro r s₄ h₄
    cases r with
    | none =>
      obtain ⟨rfl, hf₄, p₄, _⟩ := h₄
      exact wpAny_pure (hR _ _ _ (fin _ _ hJ') hf₄ p₄)
    | some v =>
      obtain ⟨d, o, hd, eI, fI, hf₄, S₄, rv, k₄, go⟩ := h₄
      refine wpAny_bind (letGo_ok eI fI ?_)
      refine wpAny_bind (wpAny_mono (turn i d ℓ' σ' hd hJ' A s₄ v hr S₄ hf₄ rv) ?_ fun _ _ f => f.elim)
      rintro _ s₅ ⟨ℓ₅, q₅, hf₅, p₅⟩
      refine wpAny_bind (wpAny_mono (tests_ok q₅ hr p₅.si hf₅) ?_ fun _ _ f => f.elim)
      rintro ok s₆ ⟨σ₆, q₆, p₆⟩
      have hf₆ := hf₅.ext p₆.ext
      cases ok with
      | false =>
        refine wpAny_pure ⟨rfl, items.length + 1 - (i + 1), by omega, i + 1, ℓ₅, σ₆, rfl, ?_, q₆.2 rfl, go s₆ σ₆ ℓ₅ [env.locals] (by intro b hb; rw [List.mem_singleton.mp hb]; exact List.mem_cons_self ..) (fun b hb => hb) (p₅.trans p₆.up) hf₆⟩
        have := (List.getElem?_eq_some_iff.mp hd).1; (with_reducible exact Nat.succ_le_of_lt (by assumption))
      | true =>
        rw [hg1]
        refine wpAny_bind (wpAny_bind (wpAny_mono (q₆.1 rfl A s₆ hr p₆.si hf₆) ?_ fun _ _ f => f.elim))
        rintro y s₇ ⟨e, σ₇, ⟨ys, hl, hz, hJ₇⟩, ry, p₇⟩
        have C := CALL_append (g := g) (n := n) (d := e) (Q := fun _ σ₈ => J (i + 1) ℓ₅ σ₈) hl (by (with_reducible exact Nat.lt_of_lt_of_le (by assumption) (by decide))) hJ₇ A s₇ [.ref a, y] [] hr p₇.si (.cons (.raw _) (.cons ry .nil)) rfl .nil
        refine wpAny_bind (wpAny_mono C ?_ fun _ _ f => f.elim)
        rintro _ s₈ ⟨_, σ₈, hJ₈, _, p₈⟩
        refine wpAny_pure (wpAny_pure ⟨rfl, items.length + 1 - (i + 1), by omega, i + 1, ℓ₅, σ₈, rfl, ?_, hJ₈, go s₈ σ₈ ℓ₅ [env.locals] (by intro b hb; rw [List.mem_singleton.mp hb]; exact List.mem_cons_self ..) (fun b hb => hb) (((p₅.trans p₆.up).trans p₇.up).trans p₈.up) ((hf₆.ext p₇.ext).ext p₈.ext)⟩)
        have := (List.getElem?_eq_some_iff.mp hd).1; (with_reducible exact Nat.succ_le_of_lt (by assumption))
  | cons g' rest ih =>
    intro depth target iter ifs s s₂ s₃ σ σ₂ σ₃ ℓ₃ items I fp wr P St Q J R hg hrest hi X L hJ turn fin hR
    have hg1 : gens[depth + 1]? = some g' := by
      have : (gens.drop (depth + 1))[0]? = some g' := by rw [hrest]; rfl
      simpa using this
    have hrest' : gens.drop (depth + 1 + 1) = rest := by
      have : (gens.drop (depth + 1)).drop 1 = rest := by rw [hrest]; rfl
      rw [List.drop_drop] at this
      exact this
    obtain ⟨target', iter', ifs', as⟩ := g'
    refine codeAny_loop rfl (CompSt g s σ s₂ σ₂ fp St env J items.length) ?_ (items.length + 1) ⟨0, ℓ₃, σ₃, by omega, by (with_reducible exact Nat.zero_le _), hJ, L⟩
    rintro k s' ⟨i, ℓ', σ', rfl, hle, hJ', L'⟩
    show wpAny _ A ((compTurn (.ListComp elt gens scope pos) depth (.ref I) (.ref a) env).onRaise (fun x => do noteFrame x env; theTreesLotGoes x)) _ _ s'
    refine wpAny_noted ?_
    rw [compTurn_at hg]
    refine wpAny_bind (wpAny_standAt (wpAny_bind (wpAny_mono (next_ok hi X L' hle) ?_ fun _ _ f => f.elim)))
    intro r s₄ h₄
    cases r with
    | none =>
      obtain ⟨rfl, hf₄, p₄, _⟩ := h₄
      exact wpAny_pure (hR _ _ _ (fin _ _ hJ') hf₄ p₄)
    | some v =>
      obtain ⟨d, o, hd, eI, fI, hf₄, S₄, rv, k₄, go⟩ := h₄
      refine wpAny_bind (letGo_ok eI fI ?_)
      refine wpAny_bind (wpAny_mono (turn i d ℓ' σ' hd hJ' A s₄ v hr S₄ hf₄ rv) ?_ fun _ _ f => f.elim)
      rintro _ s₅ ⟨ℓ₅, q₅, hf₅, p₅⟩
      refine wpAny_bind (wpAny_mono (tests_ok q₅ hr p₅.si hf₅) ?_ fun _ _ f => f.elim)
      rintro ok s₆ ⟨σ₆, q₆, p₆⟩
      have hf₆ := hf₅.ext p₆.ext
      cases ok with
      | false =>
        refine wpAny_pure ⟨rfl, items.length + 1 - (i + 1), by omega, i + 1, ℓ₅, σ₆, rfl, ?_, q₆.2 rfl, go s₆ σ₆ ℓ₅ [env.locals] (by intro b hb; rw [List.mem_singleton.mp hb]; exact List.mem_cons_self ..) (fun b hb => hb) (p₅.trans p₆.up) hf₆⟩
        have := (List.getElem?_eq_some_iff.mp hd).1; (with_reducible exact Nat.succ_le_of_lt (by assumption))
      | true =>
        rw [hg1]
        obtain ⟨rfl, hfold, hEI⟩ := q₆.1 rfl
        refine wpAny_bind (wpAny_mono (hEI A s₆ hr p₆.si hf₆) ?_ fun _ _ f => f.elim)
        intro x s₇ h₇
        refine wpAny_bind (wpAny_standAt ?_)
        show wpAny _ _ (foldedSetIterable iter' env x >>= _) _ _ _
        rw [hfold x]
        refine wpAny_bind (wpAny_pure (wpAny_bind (wpAny_holding (wpAny_mono h₇ ?_ fun _ _ f => f.elim))))
        rintro it s₈ ⟨items', σ₈, ⟨J', hJ0, turn', fin'⟩, I', fp', wr', P', St', rfl, W', st', p₈, hI', n1, n2, n3, n4, n5⟩
        have X' : ItrOn g A s₆ items' s₈ σ₈ I' fp' wr' P' St' := ⟨W', hI', n1, n2, n3, n5⟩
        have hf₈ := hf₆.ext p₈.ext
        have L8 : LoopSt g [env.locals] s₆ σ₆ s₈ σ₈ fp' St' env 0 ℓ₅ σ₈ s₈ := ⟨st', hf₈, p₈.up, fun b o e nb _ => ⟨e, nb⟩, n4⟩
        refine wpAny_bind (wpAny_runOwn ?_)
        have loop : codeAny (model g.prog g.w) A (.compLoop (.ListComp elt gens scope pos) (depth + 1) (.ref I') (.ref a) env) _ s₈ :=
          ih (depth + 1) target' iter' ifs' (Q := J (i + 1)) hg1 hrest' p₆.si X' L8 hJ0 turn' fin' (R := fun r s' => match r with | .ok _ => CompEnd g s₆ σ₆ env (J (i + 1)) s' | .error _ => False) fun s' ℓ' σ' q f p => ⟨ℓ', σ', q, f, p⟩
        have start : codeAny (model g.prog g.w) A (.compStart (.ListComp elt gens scope pos) (depth + 1) (.ref I') (.ref a) env) (fun r s' => match r with | .ok _ => CompEnd g s₆ σ₆ env (J (i + 1)) s' | .error _ => False) s₈ := by
          refine codeAny_of_tree ?_
          show wpAny _ _ ((compStart (.ListComp elt gens scope pos) (depth + 1) (.ref I') (.ref a) env).onRaise (fun x => do noteFrame x env; standAt theWindowsPlace)) _ _ s₈
          refine wpAny_notedAt ?_
          unfold compStart
          show wpAny _ _ (if (gens[depth + 1]?.elim false fun x => x.is_async != 0) = true then _ else _) _ _ _
          rw [hg1]
          rw [if_neg (by simp)]
          refine wpAny_bind (wpAny_askSetting (wpAny_ite ?_))
          split
          · exact wpAny_pure ⟨rfl, loop⟩
          · refine wpAny_bind (wpAny_rule ?_)
            have hcl : (clausesOf (.ListComp elt gens scope pos))[depth + 1]? = some ⟨target', iter', ifs', 0⟩ := hg1
            rw [hcl]
            exact wpAny_bind (wpAny_standAt (wpAny_bind (W'.self 0 s₈ _ _ st' (wpAny_pure ⟨rfl, loop⟩))))
        refine codeAny_mono start fun r s₉ h₉ => ?_
        cases r with
        | error e => exact h₉.elim
        | ok f =>
          obtain ⟨ℓ₉, σ₉, hJ₉, hf₉, p₉⟩ := h₉
          refine wpAny_pure ⟨rfl, items.length + 1 - (i + 1), by omega, i + 1, ℓ₉, σ₉, rfl, ?_, hJ₉, go s₉ σ₉ ℓ₉ [env.locals] (by intro b hb; rw [List.mem_singleton.mp hb]; exact List.mem_cons_self ..) (fun b hb => hb) ((p₅.trans p₆.up).trans p₉) hf₉⟩
          have := (List.getElem?_eq_some_iff.mp hd).1; (with_reducible exact Nat.succ_le_of_lt (by assumption))
end
end Mine

end
/- part Core12 -/
section
open PySem PySem.W PyProof.Rows
set_option Elab.async false
namespace Mine
open PySem PySem.W PyProof.Rows PySem.Calls PySem.Spec

noncomputable def del (σ : Store) (a : Addr) : Store := σ.filter fun p => p.1 != a
theorem del_mem {σ : Store} {a : Addr} {p : Addr × AO} : p ∈ del σ a ↔ p ∈ σ ∧ p.1 ≠ a := by simp [del]
theorem del_dom {σ : Store} {a b : Addr} : b ∈ dom (del σ a) ↔ b ∈ dom σ ∧ b ≠ a := by
  constructor
  · intro h
    obtain ⟨p, hp, rfl⟩ := List.mem_map.mp h
    obtain ⟨h1, h2⟩ := del_mem.mp hp
    exact ⟨List.mem_map_of_mem h1, h2⟩
  · rintro ⟨h, hne⟩
    obtain ⟨p, hp, rfl⟩ := List.mem_map.mp h
    exact List.mem_map_of_mem (del_mem.mpr ⟨hp, hne⟩)
theorem del_new {σ : Store} {a : Addr} {o : AO} (h : a ∉ dom σ) : del ((a, o) :: σ) a = σ := by
  unfold del
  rw [List.filter_cons, if_neg (by simp)]
  rw [List.filter_eq_self]
  intro p hp
  have : p.1 ≠ a := fun e => h (e ▸ List.mem_map_of_mem hp)
  simpa using this
theorem del_lookup {a b : Addr} (hb : b ≠ a) : ∀ {σ : Store}, (del σ a).lookup b = σ.lookup b
  | [] => rfl
  | (k, v) :: r => by
    unfold del
    rw [List.filter_cons]
    by_cases hk : k = a
    · subst hk
      rw [if_neg (by simp), List.lookup_cons, beq_eq_false_iff_ne.mpr hb]
      exact del_lookup hb
    · rw [if_pos (by simpa using hk), List.lookup_cons, List.lookup_cons]
      cases b == k
      · exact del_lookup hb
      · rfl

section
variable {g : Gr} {A : Around} {s s₂ : Shared} {σ σ₂ : Store} {n : Nat} {env : Env} {ℓ : Loc}

theorem keepsF_del {h : Heap} {a : Addr} : KeepsF h (dom σ) h (dom (del σ a)) := fun _ _ e nb _ => ⟨e, fun q => nb (del_dom.mp q).1⟩
theorem SI.del {P : Params} {hB h : Heap} {a : Addr} (x : SI P hB σ h) : SI P hB (Mine.del σ a) h where
  base := x.base
  nodup := by
    have : (Mine.del σ a).map (·.1) = (σ.map (·.1)).filter (fun b => b != a) := by
      unfold Mine.del
      rw [List.filter_map]; rfl
    show ((Mine.del σ a).map (·.1)).Nodup
    rw [this]
    exact x.nodup.filter _
  rep := fun p hp => (x.rep p (del_mem.mp hp).1).keep keepsF_del rfl
  new := fun p hp => x.new p (del_mem.mp hp).1
theorem freeze {h : Heap} {a : Addr} {xs : List AV} (S : SIg g σ h) (hl : σ.lookup a = some (.lst xs)) : RepV h (dom (del σ a)) (.ref a) (.lst xs) := by
  obtain ⟨vs, k, e, rl⟩ := S.rep _ (mem_of_lookupA hl)
  exact .lst e (fun q => (del_dom.mp q).2 rfl) (rl.keep keepsF_del)

structure CompSide (env : Env) (scope : Scope) (cl : List (Str × Addr)) (ℓ ℓc : Loc) : Prop where
  clos : closureFor scope env = pure cl
  cell : ∀ y ∈ scope.names, y.2 ≠ .cell
  kind : scope.kind = .function
  names : ∀ x ∈ scope.names, x.2 = .local → scope.names.lookup x.1 = some .local
  clm : ∀ p ∈ cl, env.cells.lookup p.1 = some p.2
  kc : ∀ p ∈ cl, env.kindOf p.1 = some .cell ∨ env.kindOf p.1 = some .free
  nd : (cl.map (·.1)).Nodup
  has : ∀ x, (relabel scope env).names.lookup x = some .cell ∨ (relabel scope env).names.lookup x = some .free → (cl.lookup x).isSome = true
  sub : Sub ℓc ℓ
  kl : ∀ p ∈ ℓc, (relabel scope env).names.lookup p.1 ≠ some .local

theorem comp_core {elt target iter : Expr} {ifs : List Expr} {rest : List Comprehension} {scope : Scope} {pos ipos : Pos} {cl : List (Str × Addr)} {ℓc : Loc} {use : Option (Value → Sem Unit)} {Qv : Value → Shared → Prop} {Q : AV → Store → Prop}
    (hs : ∀ x, foldedSetIterable iter env x = pure x) (X : CompSide env scope cl ℓ ℓc) (hr : Room n A) (hi : SIg g σ s.heap) (hf : FI g.hB s.heap (dom σ) env ℓ)
    (h : EI g n env iter ℓ σ fun items σ₁ => ∀ C a, a ∉ dom σ₁ → ∃ J : Nat → Loc → Store → Prop, J 0 ℓc ((a, .lst []) :: σ₁) ∧
      (∀ i d ℓ' σ', items[i]? = some d → J i ℓ' σ' → ASGc g n (compEnvC scope cl C env) target d ℓ' σ' fun ℓ'' => ETests g n (compEnvC scope cl C env) ifs ℓ'' σ' fun b σ'' => (b = true → CT g n (compEnvC scope cl C env) elt a rest ℓ'' σ'' (J (i + 1))) ∧ (b = false → J (i + 1) ℓ'' σ'')) ∧
      ∀ ℓ' σ', J items.length ℓ' σ' → ∃ ys, σ'.lookup a = some (.lst ys) ∧ Q (.lst ys) (del σ' a))
    (hu : match use with
      | none => ∀ a s' σ' ys, Q (.lst ys) σ' → RepV s'.heap (dom σ') (.ref a) (.lst ys) → Post g [] s σ s' σ' → Qv (.ref a) s'
      | some u => ∀ a s' σ' ys, Q (.lst ys) σ' → RepV s'.heap (dom σ') (.ref a) (.lst ys) → Post g [] s σ s' σ' → wpAny (model g.prog g.w) A (u (.ref a)) (fun _ s'' => (∃ B : List Addr, (∀ b ∈ B, ∃ o, s.heap.get? b = some o) ∧ ∀ b o, s'.heap.get? b = some o → b ∉ B → b ∉ dom σ' → s''.heap.get? b = some o) ∧ ∀ h' C, s.heap.get? C = none → C ∉ dom σ' → (∃ m, s''.heap.Ns C m) → Heap.SameBut C s''.heap h' → Qv .none { s'' with heap := h' }) (fun _ _ => False) s') :
    wpAny (model g.prog g.w) A (comprehension (.ListComp elt (⟨target, iter, ifs, 0⟩ :: rest) scope pos) scope env ipos (newList []) false (eval iter env) use) Qv (fun _ _ => False) s := by
  refine wpAny_comprehension_free rfl hs X.clos X.kind X.names (wpAny_mono (h A s hr hi hf) ?_ fun _ _ f => f)
  intro x s₁ h₁
  refine wpAny_mono h₁ ?_ fun _ _ f => f
  rintro it s₂ ⟨items, σ₂, hbody, I, fp, wr, P, St, rfl, W, st, p₂, hI, hnew, hfp, hwr, hoff, hrep⟩
  have hf₂ := hf.ext p₂.ext
  refine wpAny_newObj_type ?_ (by size_fits)
  obtain ⟨ha, pa⟩ := Post.new (s := s₂) (o := { cls := .type "list", data := .seq ([] : List Value).toArray }) (ao := .lst []) p₂.si rfl fun h' e k => ⟨[], 0, e, .nil⟩
  obtain ⟨J, hJ, turn, fin⟩ := hbody (s₂.heap.objs.size + 1) s₂.heap.objs.size ha
  refine wpAny_newFunctionEnv X.cell (by intro y hy; simp at hy) (fun h₄ hns₄ hsb₄ => ?_) X.kind
  have hsz : ({ s₂ with heap := s₂.heap.push { cls := .type "list", data := .seq ([] : List Value).toArray } } : Shared).heap.objs.size = s₂.heap.objs.size + 1 := Heap.size_push ..
  rw [hsz] at hns₄ hsb₄
  dsimp only at hns₄ hsb₄ ⊢
  have hsz' : (s₂.heap.push { cls := .type "list", data := .seq ([] : List Value).toArray }).objs.size = s₂.heap.objs.size + 1 := Heap.size_push ..
  rw [hsz']
  generalize hH : s₂.heap.push { cls := .type "list", data := .seq ([] : List Value).toArray } = H at *
  generalize hC : s₂.heap.objs.size + 1 = C at *
  generalize ha' : s₂.heap.objs.size = a at *
  have hCH : H.get? C = none := get_none_of_ge (by omega)
  have old : ∀ b o, H.get? b = some o → h₄.get? b = some o := fun b o e => hsb₄.extBut b o (fun q => by rw [q, hCH] at e; cases e) (Heap.get?_push_of_some _ e)
  have p₄ : Post g [] s₂ σ₂ { s₂ with heap := h₄, toks := s₂.toks + ([] : List (Str × Value)).length } ((a, .lst []) :: σ₂) := by
    have := pa.trans (Post.keeps (B := []) pa.si old)
    exact ⟨this.si, this.ext, this.gens, this.os⟩
  have Cs : s.heap.get? C = none := by
    cases q : s.heap.get? C with
    | none => rfl
    | some o => obtain ⟨o', e'⟩ := (p₂.trans pa).ext.there C o q; exact nomatch (hCH.symm.trans e')
  have CD : C ∉ dom ((a, .lst []) :: σ₂) := (new_off pa.si hCH).1
  have cB : g.hB.get? C = none := (new_off pa.si hCH).2
  have F₄ : FI g.hB h₄ (dom ((a, .lst []) :: σ₂)) (compEnvC scope cl C env) ℓc := by
    have hfo := hf₂.ext p₄.ext
    have inE : ∀ p ∈ cl, p ∈ env.cells := fun p hp => mem_of_lookup (X.clm p hp)
    refine ⟨fun b hb => ?_, X.kind, hfo.glob, hfo.blt, fun b hb => ?_, ⟨_, hns₄, fun y d hky hl => ?_⟩, fun p hp => ?_, X.has, ?_, fun p hp => lookup_of_mem_nodup X.nd hp⟩
    · rcases List.mem_cons.mp hb with rfl | hb
      · exact cB
      · obtain ⟨p, hp, rfl⟩ := List.mem_map.mp hb
        exact hfo.new _ (List.mem_cons_of_mem _ (List.mem_map_of_mem (inE p hp)))
    · rcases List.mem_cons.mp hb with rfl | hb
      · exact CD
      · obtain ⟨p, hp, rfl⟩ := List.mem_map.mp hb
        exact hfo.off _ (List.mem_cons_of_mem _ (List.mem_map_of_mem (inE p hp)))
    · exact absurd hky (X.kl _ (mem_of_lookup hl))
    · obtain ⟨v, hv, r⟩ := hfo.cell p (inE p hp)
      exact ⟨v, hv, fun d _ hl => r d (X.kc p hp) (X.sub.get hl)⟩
    · have nd := X.nd
      have mem := inE
      clear hbody turn fin
      generalize cl = c at nd mem
      induction c with
      | nil => exact .nil
      | cons p r ih =>
        rw [List.map_cons, List.nodup_cons] at nd
        refine .cons (fun q hq e => nd.1 ?_) (ih nd.2 fun q hq => mem q (.tail _ hq))
        have : p.1 = q.1 := name_of_addr hfo.inj (c := p.2) (mem p (.head _)) (by rw [e]; exact mem q (.tail _ hq))
        rw [this]; exact List.mem_map_of_mem hq
  have X' : ItrOn g A s items s₂ σ₂ I fp wr P St := ⟨W, hI, hnew, hfp, hwr, hrep⟩
  have offs : ∀ b ∈ fp, b ∉ dom ((a, .lst []) :: σ₂) := fun b hb => by
    obtain ⟨o, e, _⟩ := hfp 0 _ st b hb
    exact (p₄.ext.keep b o e (hoff b hb) (by simp)).2
  have L4 : LoopSt g [(compEnvC scope cl C env).locals] s σ s₂ σ₂ fp St (compEnvC scope cl C env) 0 ℓc ((a, .lst []) :: σ₂) { s₂ with heap := h₄, toks := s₂.toks + ([] : List (Str × Value)).length } :=
    ⟨W.frame _ _ _ st fun b hb o e => (p₄.ext.keep b o e (hoff b hb) (by simp)).1, F₄, (p₂.trans p₄).up, p₄.keepsF, offs⟩
  have loop : ∀ R : Result → Shared → Prop, (∀ s' ℓ' σ', (∃ ys, σ'.lookup a = some (.lst ys) ∧ Q (.lst ys) (del σ' a)) → FI g.hB s'.heap (dom σ') (compEnvC scope cl C env) ℓ' → Post g [C] s σ s' σ' → R (.ok .next) s') →
      codeAny (model g.prog g.w) A (.compLoop (.ListComp elt (⟨target, iter, ifs, 0⟩ :: rest) scope pos) 0 (.ref I) (.ref a) (compEnvC scope cl C env)) R { s₂ with heap := h₄, toks := s₂.toks + ([] : List (Str × Value)).length } := fun R hR =>
    comp_loop hr rest 0 target iter ifs (Q := fun _ σ' => ∃ ys, σ'.lookup a = some (.lst ys) ∧ Q (.lst ys) (del σ' a)) rfl rfl hi X' L4 hJ turn fin hR
  refine codeAny_compStart_list (loop _ ?fin) (W.self 0 _ _ _ L4.st (loop _ ?fin))
  rintro s' ℓ' σ' ⟨ys, hl, hq⟩ hf' p'
  have rv := freeze p'.si hl
  obtain ⟨m, hn, _⟩ := hf'.ns
  have CD' : C ∉ dom σ' := hf'.off _ (List.mem_cons_self ..)
  have after : ∀ h'', Heap.SameBut C s'.heap h'' → RepV h'' (dom (del σ' a)) (.ref a) (.lst ys) ∧ Post g [] s σ { s' with heap := h'' } (del σ' a) := fun h'' hsb => by
    have k := keepsF_ns (D := dom (del σ' a)) hn hsb
    have S' : SIg g (del σ' a) s'.heap := SI.del p'.si
    refine ⟨rv.keep k, SI.sameBut S' hsb (fun q => CD' (del_dom.mp q).1) cB k, ⟨fun b o e => ?_, fun b o e nb _ => ?_⟩, p'.gens, p'.os⟩
    · obtain ⟨o', e'⟩ := p'.ext.there b o e
      exact ⟨o', (hsb.2 b fun q => by rw [q, Cs] at e; cases e).trans e'⟩
    · have hbC : b ≠ C := fun q => by rw [q, Cs] at e; cases e
      obtain ⟨e', n'⟩ := p'.ext.keep b o e nb (by simpa using hbC)
      exact ⟨(hsb.2 b hbC).trans e', fun q => n' (del_dom.mp q).1⟩
  cases use with
  | none =>
    refine ⟨m, hn, fun h'' hsb => ?_⟩
    obtain ⟨r2, p2⟩ := after h'' hsb
    exact hu a _ _ _ hq r2 p2
  | some u =>
    obtain ⟨r2, p2⟩ := after s'.heap (.refl ..)
    refine wpAny_mono (hu a s' _ _ hq r2 p2) ?_ fun _ _ f => f
    rintro _ s'' ⟨⟨B, hB, hk⟩, hfin⟩
    have CB : C ∉ B := fun q => by obtain ⟨o, e⟩ := hB C q; rw [Cs] at e; cases e
    have hn'' : s''.heap.Ns C m := hn.at' fun o e => hk C o e CB fun q => CD' (del_dom.mp q).1
    exact ⟨m, hn'', fun h' hsb => hfin h' C Cs (fun q => CD' (del_dom.mp q).1) ⟨m, hn''⟩ hsb⟩

theorem EV_comp {elt target iter : Expr} {ifs : List Expr} {rest : List Comprehension} {scope : Scope} {pos : Pos} {cl : List (Str × Addr)} {Q : AV → Store → Prop} (ℓc : Loc) (X : CompSide env scope cl ℓ ℓc)
    (h : EI g n env iter ℓ σ fun items σ₁ => ∀ C a, a ∉ dom σ₁ → ∃ J : Nat → Loc → Store → Prop, J 0 ℓc ((a, .lst []) :: σ₁) ∧
      (∀ i d ℓ' σ', items[i]? = some d → J i ℓ' σ' → ASGc g n (compEnvC scope cl C env) target d ℓ' σ' fun ℓ'' => ETests g n (compEnvC scope cl C env) ifs ℓ'' σ' fun b σ'' => (b = true → CT g n (compEnvC scope cl C env) elt a rest ℓ'' σ'' (J (i + 1))) ∧ (b = false → J (i + 1) ℓ'' σ'')) ∧
      ∀ ℓ' σ', J items.length ℓ' σ' → ∃ ys, σ'.lookup a = some (.lst ys) ∧ Q (.lst ys) (del σ' a))
    (hs : ∀ x, foldedSetIterable iter env x = pure x := by intro _; rfl) : EV g n env (.ListComp elt (⟨target, iter, ifs, 0⟩ :: rest) scope pos) ℓ σ Q := by
  intro A s hr hi hf
  exact comp_core (use := none) hs X hr hi hf h fun a s' σ' ys q r p => ⟨_, σ', q, r, p⟩
theorem ES_comp {elt target iter : Expr} {ifs : List Expr} {rest : List Comprehension} {scope : Scope} {x : Str} {px pos spos : Pos} {cl : List (Str × Addr)} {Q : AF → Loc → Store → Prop} (ℓc : Loc) (X : CompSide env scope cl ℓ ℓc) (hx : env.kindOf x = some .local)
    (hsw : swapsWith (.ListComp elt (⟨target, iter, ifs, 0⟩ :: rest) scope pos) (some (.Name x px)) spos.line env = pure true)
    (h : EI g n env iter ℓ σ fun items σ₁ => ∀ C a, a ∉ dom σ₁ → ∃ J : Nat → Loc → Store → Prop, J 0 ℓc ((a, .lst []) :: σ₁) ∧
      (∀ i d ℓ' σ', items[i]? = some d → J i ℓ' σ' → ASGc g n (compEnvC scope cl C env) target d ℓ' σ' fun ℓ'' => ETests g n (compEnvC scope cl C env) ifs ℓ'' σ' fun b σ'' => (b = true → CT g n (compEnvC scope cl C env) elt a rest ℓ'' σ'' (J (i + 1))) ∧ (b = false → J (i + 1) ℓ'' σ'')) ∧
      ∀ ℓ' σ', J items.length ℓ' σ' → ∃ ys, σ'.lookup a = some (.lst ys) ∧ Q .next ((x, .lst ys) :: ℓ) (del σ' a))
    (hs : ∀ x, foldedSetIterable iter env x = pure x := by intro _; rfl) : ES g n env (.Assign [.Name x px] (.ListComp elt (⟨target, iter, ifs, 0⟩ :: rest) scope pos) spos) ℓ σ Q := by
  intro A s hr hi hf
  unfold XR
  rw [exec_Assign_Name_used _ _ _ _ hsw]
  refine wpAny_bind (wpAny_standAt (wpAny_bind ?_))
  show wpAny _ A (do let _ ← comprehension (.ListComp elt (⟨target, iter, ifs, 0⟩ :: rest) scope pos) scope env _ (newList []) false (eval iter env) (some (assign (.Name x px) env))) _ _ s
  refine wpAny_bind (wpAny_mono (comp_core (use := some (assign (.Name x px) env)) (Q := fun d σ' => ∃ ys, d = .lst ys ∧ Q .next ((x, .lst ys) :: ℓ) σ') (Qv := fun _ s' => RX g env s σ Q .next s') hs X hr hi hf ?_ ?_) (fun _ s' hq => wpAny_pure (wpAny_pure hq)) fun _ _ e => e)
  · intro A s hr hi hf
    refine wpAny_mono (h A s hr hi hf) (fun x s₁ h₁ => wpAny_mono h₁ ?_ fun _ _ f => f) fun _ _ f => f
    rintro it s₂ ⟨items, σ₂, q, itr⟩
    refine ⟨items, σ₂, fun C a ha => ?_, itr⟩
    obtain ⟨J, h1, h2, h3⟩ := q C a ha
    refine ⟨J, h1, h2, fun ℓ' σ' hJ => ?_⟩
    obtain ⟨ys, e, q⟩ := h3 ℓ' σ' hJ
    exact ⟨ys, e, ys, rfl, q⟩
  · rintro a s' σ' ys ⟨_, ⟨⟩, q⟩ r p
    have hf' := hf.ext p.ext
    refine wpAny_assign_Name (store_okL p.si hf' hx r fun s'' hf'' p'' => ⟨⟨[env.locals], ?_, ?_⟩, ?_⟩)
    · intro b hb
      rw [List.mem_singleton.mp hb]
      obtain ⟨m, ⟨o, _, _, e, _⟩, _⟩ := hf.ns
      exact ⟨o, e⟩
    · intro b o e nb nd
      exact (p''.ext.keep b o e nd nb).1
    · rintro h' C Cs Cd ⟨m, hn⟩ hsb
      have k := keepsF_ns (D := dom σ') hn hsb
      have Cf : C ∉ fa env := fun hc => by
        rcases List.mem_cons.mp hc with rfl | hc
        · obtain ⟨m, ⟨o, _, _, e, _⟩, _⟩ := hf.ns
          rw [Cs] at e; cases e
        · obtain ⟨q, hq, rfl⟩ := List.mem_map.mp hc
          obtain ⟨v, ⟨o, e, _⟩, _⟩ := hf.cell q hq
          rw [Cs] at e; cases e
      have CB : g.hB.get? C = none := by
        cases q : g.hB.get? C with
        | none => rfl
        | some o => have := hi.base _ _ q; rw [Cs] at this; cases this
      have f3 : FI g.hB h' (dom σ') env ((x, .lst ys) :: ℓ) := hf''.chg (W := [C]) (fun b o nb e => (hsb.2 b (by simpa using nb)).trans e) (by intro b hb; rw [List.mem_singleton.mp hb]; exact Cf) k
      refine ⟨.next, _, σ', q, .next, f3, ?_⟩
      have P2 : Post g (fa env) s σ s'' σ' := p.up.trans (p''.weak fun b hb _ _ => by rw [List.mem_singleton.mp hb]; exact List.mem_cons_self ..)
      refine ⟨SI.sameBut p''.si hsb Cd CB k, ⟨fun b o e => ?_, fun b o e nb nf => ?_⟩, P2.gens, P2.os⟩
      · obtain ⟨o', e'⟩ := P2.ext.there b o e
        exact ⟨o', (hsb.2 b fun q => by rw [q, Cs] at e; cases e).trans e'⟩
      · obtain ⟨e', n'⟩ := P2.ext.keep b o e nb nf
        exact ⟨(hsb.2 b fun q => by rw [q, Cs] at e; cases e).trans e', n'⟩

noncomputable def MapStep (g : Gr) (n : Nat) (cenv : Env) (target : Expr) (ifs : List Expr) (elt : Expr) (ℓc : Loc) (σ₁ : Store) (items : List AV) (f : AV → List AV) : Prop :=
  ∀ a ys, a ∉ dom σ₁ → ∀ d ∈ items, ASGc g n cenv target d ℓc ((a, .lst ys) :: σ₁) fun ℓ'' => Sub ℓc ℓ'' ∧ ETests g n cenv ifs ℓ'' ((a, .lst ys) :: σ₁) fun b σ'' => σ'' = (a, .lst ys) :: σ₁ ∧
    (b = true → EV g n cenv elt ℓ'' ((a, .lst ys) :: σ₁) fun e σ'' => σ'' = (a, .lst ys) :: σ₁ ∧ f d = [e]) ∧ (b = false → f d = [])
theorem upd_head {a : Addr} {o o' : AO} {σ : Store} (h : a ∉ dom σ) : upd ((a, o) :: σ) a o' = (a, o') :: σ := by
  unfold upd
  rw [List.map_cons, if_pos rfl]
  congr 1
  have : ∀ p ∈ σ, (if p.1 = a then (a, o') else p) = p := fun p hp => if_neg fun (e : p.1 = a) => h (e ▸ List.mem_map_of_mem hp)
  rw [List.map_congr_left this]
  simp
theorem map_loop {elt target : Expr} {ifs : List Expr} {cenv : Env} {ℓc : Loc} {items : List AV} {f : AV → List AV} {a : Addr} {Q : AV → Store → Prop} (hz : items.length < 100000) (hf1 : ∀ d ∈ items, (f d).length ≤ 1) (hself : Sub ℓc ℓc) (h : MapStep g n cenv target ifs elt ℓc σ items f) (ha : a ∉ dom σ) (hq : Q (.lst (items.flatMap f)) σ) :
    ∃ J : Nat → Loc → Store → Prop, J 0 ℓc ((a, .lst []) :: σ) ∧
      (∀ i d ℓ' σ', items[i]? = some d → J i ℓ' σ' → ASGc g n cenv target d ℓ' σ' fun ℓ'' => ETests g n cenv ifs ℓ'' σ' fun b σ'' => (b = true → CT g n cenv elt a [] ℓ'' σ'' (J (i + 1))) ∧ (b = false → J (i + 1) ℓ'' σ'')) ∧
      ∀ ℓ' σ', J items.length ℓ' σ' → ∃ ys, σ'.lookup a = some (.lst ys) ∧ Q (.lst ys) (del σ' a) := by
  have flen : ∀ l : List AV, (∀ d ∈ l, (f d).length ≤ 1) → (l.flatMap f).length ≤ l.length := by
    intro l
    induction l with
    | nil => intro _; simp
    | cons d r ih =>
      intro h
      have := ih fun e he => h e (.tail _ he)
      have := h d (.head _)
      simp only [List.flatMap_cons, List.length_append, List.length_cons]
      omega
  refine ⟨fun i ℓ' σ' => i ≤ items.length ∧ σ' = (a, .lst ((items.take i).flatMap f)) :: σ ∧ Sub ℓc ℓ', ⟨by (with_reducible exact Nat.zero_le _), by simp, hself⟩, ?_, ?_⟩
  · rintro i d ℓ' σ' hd ⟨hle, rfl, hsub⟩
    have hdm := List.mem_of_getElem? hd
    have hlt := (List.getElem?_eq_some_iff.mp hd).1
    have htk : (items.take (i + 1)).flatMap f = (items.take i).flatMap f ++ f d := by
      rw [List.take_add_one, hd, List.flatMap_append]; simp
    intro A s v hr hs hfi rv
    refine wpAny_mono (h a _ ha d hdm A s v hr hs (hfi.sub hsub) rv) ?_ fun _ _ f => f
    rintro _ s' ⟨ℓ'', ⟨hsub'', q⟩, hf', p⟩
    refine ⟨ℓ'', ?_, hf', p⟩
    have conv : ∀ Q₁ Q₂ : Bool → Store → Prop, (∀ b σ, Q₁ b σ → Q₂ b σ) → ETests g n cenv ifs ℓ'' ((a, .lst ((items.take i).flatMap f)) :: σ) Q₁ → ETests g n cenv ifs ℓ'' ((a, .lst ((items.take i).flatMap f)) :: σ) Q₂ := by
      intro Q₁ Q₂ hq h
      match ifs, h with
      | [], h => exact hq _ _ h
      | [c], h => exact fun A s hr hs hf => wpAny_mono (h A s hr hs hf) (fun _ _ ⟨σ', q, p⟩ => ⟨σ', hq _ _ q, p⟩) fun _ _ f => f
    refine conv _ _ ?_ q
    rintro b σ'' ⟨rfl, h1, h2⟩
    refine ⟨fun hb => ?_, fun hb => ?_⟩
    · refine (h1 hb).mono ?_
      rintro e σ'' ⟨rfl, he⟩
      refine ⟨(items.take i).flatMap f, by simp, ?_, by (with_reducible exact Nat.succ_le_of_lt (by assumption)), ?_, hsub''⟩
      · have := flen (items.take i) fun x hx => hf1 x (List.mem_of_mem_take hx)
        rw [List.length_take] at this; omega
      · rw [upd_head ha, htk, he]
    · refine ⟨by (with_reducible exact Nat.succ_le_of_lt (by assumption)), ?_, hsub''⟩
      rw [htk, h2 hb]; simp
  · rintro ℓ' σ' ⟨_, rfl, _⟩
    refine ⟨items.flatMap f, by simp, ?_⟩
    rw [del_new ha]
    exact hq

theorem EV_map {elt target iter : Expr} {ifs : List Expr} {scope : Scope} {pos : Pos} {cl : List (Str × Addr)} {Q : AV → Store → Prop} (ℓc : Loc) (X : CompSide env scope cl ℓ ℓc) (hself : Sub ℓc ℓc)
    (h : EI g n env iter ℓ σ fun items σ₁ => ∃ f : AV → List AV, items.length < 100000 ∧ (∀ d ∈ items, (f d).length ≤ 1) ∧ (∀ C, MapStep g n (compEnvC scope cl C env) target ifs elt ℓc σ₁ items f) ∧ Q (.lst (items.flatMap f)) σ₁)
    (hs : ∀ x, foldedSetIterable iter env x = pure x := by intro _; rfl) : EV g n env (.ListComp elt [⟨target, iter, ifs, 0⟩] scope pos) ℓ σ Q := by
  refine EV_comp ℓc X ?_ hs
  intro A s hr hi hf
  refine wpAny_mono (h A s hr hi hf) (fun x s₁ h₁ => wpAny_mono h₁ ?_ fun _ _ f => f) fun _ _ f => f
  rintro it s₂ ⟨items, σ₂, ⟨f, hz, hf1, hm, hq⟩, itr⟩
  exact ⟨items, σ₂, fun C a ha => map_loop hz hf1 hself (hm C) ha hq, itr⟩
theorem ES_map {elt target iter : Expr} {ifs : List Expr} {scope : Scope} {x : Str} {px pos spos : Pos} {cl : List (Str × Addr)} {Q : AF → Loc → Store → Prop} (ℓc : Loc) (X : CompSide env scope cl ℓ ℓc) (hself : Sub ℓc ℓc) (hx : env.kindOf x = some .local)
    (hsw : swapsWith (.ListComp elt [⟨target, iter, ifs, 0⟩] scope pos) (some (.Name x px)) spos.line env = pure true)
    (h : EI g n env iter ℓ σ fun items σ₁ => ∃ f : AV → List AV, items.length < 100000 ∧ (∀ d ∈ items, (f d).length ≤ 1) ∧ (∀ C, MapStep g n (compEnvC scope cl C env) target ifs elt ℓc σ₁ items f) ∧ Q .next ((x, .lst (items.flatMap f)) :: ℓ) σ₁)
    (hs : ∀ x, foldedSetIterable iter env x = pure x := by intro _; rfl) : ES g n env (.Assign [.Name x px] (.ListComp elt [⟨target, iter, ifs, 0⟩] scope pos) spos) ℓ σ Q := by
  refine ES_comp ℓc X hx hsw ?_ hs
  intro A s hr hi hf
  refine wpAny_mono (h A s hr hi hf) (fun y s₁ h₁ => wpAny_mono h₁ ?_ fun _ _ f => f) fun _ _ f => f
  rintro it s₂ ⟨items, σ₂, ⟨f, hz, hf1, hm, hq⟩, itr⟩
  exact ⟨items, σ₂, fun C a ha => map_loop (Q := fun d σ' => ∃ ys, d = .lst ys ∧ Q .next ((x, .lst ys) :: ℓ) σ') hz hf1 hself (hm C) ha ⟨_, rfl, hq⟩ |>.imp fun J ⟨h1, h2, h3⟩ => ⟨h1, h2, fun ℓ' σ' hJ => let ⟨ys, e, ys', e', q⟩ := h3 ℓ' σ' hJ; ⟨ys, e, by cases e'; exact q⟩⟩, itr⟩
end
end Mine

end
/- part Core13 -/
section
open PySem PySem.W PyProof.Rows
set_option Elab.async false
namespace Mine
open PySem PySem.W PyProof.Rows PySem.Calls PySem.Spec

noncomputable def pickL (xs : List AV) (lo hi st : Option Int) : List AV :=
  (sliceRange (sliceBounds lo hi st xs.length).1 (sliceBounds lo hi st xs.length).2.1 (sliceBounds lo hi st xs.length).2.2).filterMap (xs[·]?)
theorem repL_pick {h : Heap} {D : List Addr} {vs : List Value} {xs : List AV} (r : RepL h D vs xs) : ∀ idx : List Nat, RepL h D (idx.filterMap (vs[·]?)) (idx.filterMap (xs[·]?))
  | [] => .nil
  | i :: idx => by
    rw [List.filterMap_cons, List.filterMap_cons]
    cases e : xs[i]? with
    | none =>
      have hv : vs[i]? = none := by rw [List.getElem?_eq_none_iff] at e ⊢; rw [r.length]; exact e
      rw [hv]; exact repL_pick r idx
    | some d =>
      obtain ⟨v, hv, rv⟩ := r.get e
      rw [hv]; exact .cons rv (repL_pick r idx)

section
variable {g : Gr} {A : Around} {s s₂ : Shared} {σ σ₂ : Store} {n : Nat} {env : Env} {ℓ : Loc}

theorem EV_ifexp {test body orelse : Expr} {pos : Pos} {Q : AV → Store → Prop} (h : EB g n env test ℓ σ fun b σ₁ => (b = true → EV g n env body ℓ σ₁ Q) ∧ (b = false → EV g n env orelse ℓ σ₁ Q)) : EV g n env (.IfExp test body orelse pos) ℓ σ Q := by
  intro A s hr hi hf
  refine wpAny_IfExp (wpAny_mono (h A s hr hi hf) ?_ fun _ _ f => f)
  rintro b s₁ ⟨σ₁, q, p⟩
  cases b with
  | true => exact (q.1 rfl A s₁ hr p.si (hf.ext p.ext)).of_post p
  | false => exact (q.2 rfl A s₁ hr p.si (hf.ext p.ext)).of_post p

noncomputable def EP (g : Gr) (n : Nat) (env : Env) (e : Option Expr) (ℓ : Loc) (σ : Store) (Q : Option Int → Store → Prop) : Prop := match e with
  | none => Q none σ
  | some e => EV g n env e ℓ σ fun d σ' => ∃ i, d = .int i ∧ Q (some i) σ'
theorem part_ok {e : Option Expr} {Q : Option Int → Store → Prop} (h : EP g n env e ℓ σ Q) (hr : Room n A) (hi : SIg g σ s.heap) (hf : FI g.hB s.heap (dom σ) env ℓ) :
    wpAny (model g.prog g.w) A (evalPart e env) (fun v s' => ∃ i σ', Q i σ' ∧ IsPart v i ∧ Post g [] s σ s' σ') (fun _ _ => False) s := by
  cases e with
  | none => exact wpAny_pure ⟨none, σ, h, .none, .refl hi⟩
  | some e =>
    refine wpAny_mono (h A s hr hi hf) ?_ fun _ _ f => f
    rintro v s' ⟨d, σ', ⟨i, rfl, q⟩, rv, p⟩
    cases rv
    exact ⟨some i, σ', q, .int _ _, p⟩
theorem EV_slice {value : Expr} {lo hi st : Option Expr} {p pos : Pos} {Q : AV → Store → Prop}
    (h : EV g n env value ℓ σ fun o σ₁ => EP g n env lo ℓ σ₁ fun l σ₂ => EP g n env hi ℓ σ₂ fun u σ₃ => EP g n env st ℓ σ₃ fun c σ₄ => ∃ xs, View σ₄ o (.lst xs) ∧ xs.length < 100000 ∧ c ≠ some 0 ∧ Q (.lst (pickL xs l u c)) σ₄)
    (hs : ∀ o i, ∃ ops, subscripted (.Slice lo hi st p) false o i = operate ops (getItem o i) := by intro _ _; exact ⟨_, rfl⟩) : EV g n env (.Subscript value (.Slice lo hi st p) pos) ℓ σ Q := by
  intro A s hr hi' hf
  refine Subscript_ (wpAny_mono (h A s hr hi' hf) ?_ fun _ _ f => f)
  rintro vo s₁ ⟨o, σ₁, h₁, ro, p₁⟩
  have hf₁ := hf.ext p₁.ext
  refine wpAny_Slice (wpAny_mono (part_ok h₁ hr p₁.si hf₁) ?_ fun _ _ f => f)
  rintro vl s₂ ⟨l, σ₂, h₂, pl, p₂⟩
  have hf₂ := hf₁.ext p₂.ext
  refine wpAny_mono (part_ok h₂ hr p₂.si hf₂) ?_ fun _ _ f => f
  rintro vu s₃ ⟨u, σ₃, h₃, pu, p₃⟩
  have hf₃ := hf₂.ext p₃.ext
  refine wpAny_mono (part_ok h₃ hr p₃.si hf₃) ?_ fun _ _ f => f
  rintro vc s₄ ⟨c, σ₄, ⟨xs, w, hz, hc, q⟩, pc, p₄⟩
  have pf := Post.frz (o := { cls := .type "slice", data := .fields #[vl, vu, vc] }) p₄.si
  have ro' := (((ro.keep p₂.keepsF).keep p₃.keepsF).keep p₄.keepsF).keep pf.keepsF
  obtain ⟨a, vs, k, rfl, e, rl⟩ := w.list pf.si ro'
  have hl : (s₄.heap.push { cls := .type "slice", data := .fields #[vl, vu, vc] }).IsList a vs.toArray := ⟨_, e, rfl, k, rfl⟩
  obtain ⟨ops, hops⟩ := hs (.ref a) (.ref s₄.heap.objs.size)
  have hT : ({ s₄ with heap := s₄.heap.push { cls := .type "slice", data := .fields #[vl, vu, vc] } } : Shared).TypeIs (.ref a) "list" := ⟨_, e, rfl⟩
  refine tail_any hT slot_list_getitem.lookup (wpAny_getItem_list_slice hl (Heap.IsSliceOf.new ..) pl pu pc hc ?_ ?_) hops
  · have pg := Post.frz (o := { cls := .type "list", data := .seq (slicePick vs.toArray l u c) }) pf.si
    have hsz := rl.length
    have hpk : slicePick vs.toArray l u c = ((sliceRange (sliceBounds l u c xs.length).1 (sliceBounds l u c xs.length).2.1 (sliceBounds l u c xs.length).2.2).filterMap (vs[·]?)).toArray := by
      unfold slicePick; simp [hsz]
    have hrep := (repL_pick rl (sliceRange (sliceBounds l u c xs.length).1 (sliceBounds l u c xs.length).2.1 (sliceBounds l u c xs.length).2.2)).keep pg.keepsF
    have hget := Heap.get?_push_size (s₄.heap.push { cls := .type "slice", data := .fields #[vl, vu, vc] }) (o := { cls := .type "list", data := .seq (slicePick vs.toArray l u c) }) rfl
    rw [hpk] at hget hrep pg ⊢
    exact ⟨_, σ₄, q, .lst (n := 0) hget (new_off' pf.si) hrep, (((p₁.trans p₂).trans p₃).trans p₄).trans (pf.trans pg)⟩
  · have := rl.length
    simp; unfold sizeLine; (with_reducible exact Mine.om_eqle (by assumption) (by assumption) (by decide))
theorem add_ll {d e : AV} {xs ys : List AV} {Q : AV → Store → Prop} (wx : View σ d (.lst xs)) (wy : View σ e (.lst ys)) (hz : xs.length + ys.length < 1000000) (h : Q (.lst (xs ++ ys)) σ) : BinOk g n .Add d e σ Q := by
  intro A s va vb hr hs ra rb
  obtain ⟨a, vs, k, rfl, ea, la⟩ := wx.list hs ra
  obtain ⟨b, us, j, rfl, eb, lb⟩ := wy.list hs rb
  have h1 := la.length
  have h2 := lb.length
  have pg := Post.frz (o := { cls := .type "list", data := .seq (vs.toArray ++ us.toArray) }) hs
  have hget := Heap.get?_push_size s.heap (o := { cls := .type "list", data := .seq (vs.toArray ++ us.toArray) }) rfl
  have hap : vs.toArray ++ us.toArray = (vs ++ us).toArray := by simp
  have hrep := (la.append lb).keep pg.keepsF
  refine P.add_list (n := k) (n2 := j) ea eb ?_ (by simp; unfold sizeLine; omega)
  rw [hap] at hget hrep pg ⊢
  exact ⟨_, σ, h, .lst (n := 0) hget (new_off' hs) hrep, pg⟩
end
end Mine

end
/- part Core14 -/
section
open PySem PySem.W PyProof.Rows
set_option Elab.async false
namespace Mine
open PySem PySem.W PyProof.Rows PySem.Calls PySem.Spec

section
variable {g : Gr} {A : Around} {s s₂ : Shared} {σ σ₂ : Store} {n : Nat} {env : Env} {ℓ : Loc}

theorem CALL_1 {f : Value} {d : AV} {Q : AV → Store → Prop} (h : ∀ A s v, Room n A → SIg g σ s.heap → RepV s.heap (dom σ) v d → TR g A (call f [v]) s σ Q) : CALL g n f [d] [] σ Q := by
  intro A s vs kvs hr hS ra ek rk
  have hk : kvs = [] := by simpa using ek
  subst hk
  obtain ⟨_, rfl, ro⟩ := ra.oneI
  exact h A s _ hr hS ro
theorem CALL_2 {f : Value} {d e : AV} {Q : AV → Store → Prop} (h : ∀ A s v u, Room n A → SIg g σ s.heap → RepV s.heap (dom σ) v d → RepV s.heap (dom σ) u e → TR g A (call f [v, u]) s σ Q) : CALL g n f [d, e] [] σ Q := by
  intro A s vs kvs hr hS ra ek rk
  have hk : kvs = [] := by simpa using ek
  subst hk
  obtain ⟨_, _, rfl, ro, r2⟩ := ra.twoI
  exact h A s _ _ hr hS ro r2

theorem beqS (x y : Str) : (x == y) = decide (x = y) := by by_cases hx : x = y <;> simp [hx]
theorem add_ss {x y : Str} {Q : AV → Store → Prop} (hz : x.length + y.length < 100000) (h : Q (.str (x ++ y)) σ) : BinOk g n .Add (.str x) (.str y) σ Q := fun _ _ _ _ _ hs ra rb => by
  obtain ⟨_, rfl⟩ := ra.strI; obtain ⟨_, rfl⟩ := rb.strI; exact PyProof.Rows.add_str (fun t tk => ⟨_, _, h, .str _ _, .tok hs _⟩) (by unfold sizeLine; (with_reducible exact Mine.om_ltle (by assumption) (by decide)))
theorem eq_ss {x y : Str} {Q : AV → Store → Prop} (h : Q (.bool (decide (x = y))) σ) : CmpOk g n .Eq (.str x) (.str y) σ Q := fun _ _ _ _ _ hs ra rb => by
  obtain ⟨_, rfl⟩ := ra.strI; obtain ⟨_, rfl⟩ := rb.strI; exact PyProof.Rows.eq_str ⟨_, _, h, (by rw [beqS]; exact .bool _), .refl hs⟩
theorem type_str {x : Str} : ∀ (s : Shared) v, SIg g σ s.heap → RepV s.heap (dom σ) v (.str x) → s.TypeIs v "str" ∧ ∀ a, v = .ref a → ∃ o, s.heap.get? a = some o ∧ o.dict = none := by
  intro s v S r
  cases r
  exact ⟨typeIs_str _ _ _, fun b q => by cases q⟩
theorem CALL_startswith {x y : Str} {Q : AV → Store → Prop} (h : Q (.bool (Txt.startswith x y)) σ) : CALL g n (.builtin "str.startswith") [.str x, .str y] [] σ Q :=
  CALL_2 fun A s v u hr hs rv ru => by obtain ⟨_, rfl⟩ := rv.strI; obtain ⟨_, rfl⟩ := ru.strI; exact SC.startswith ⟨_, _, h, .bool _, .refl hs⟩
theorem CALL_find {x y : Str} {Q : AV → Store → Prop} (h : Q (.int (Txt.find x y)) σ) : CALL g n (.builtin "str.find") [.str x, .str y] [] σ Q :=
  CALL_2 fun A s v u hr hs rv ru => by obtain ⟨_, rfl⟩ := rv.strI; obtain ⟨_, rfl⟩ := ru.strI; exact SC.find ⟨_, _, h, .int _ _, .tok hs _⟩
theorem CALL_chr {i : Int} {Q : AV → Store → Prop} (h0 : 0 ≤ i) (h1 : i ≤ 1114111) (h : Q (.str ⟨#[i.toNat]⟩) σ) : CALL g n (.builtin "chr") [.int i] [] σ Q :=
  CALL_1 fun A s v hr hs rv => by obtain ⟨_, rfl⟩ := rv.intI; exact chr_of_range h0 h1 ⟨_, _, h, .str _ _, .tok hs _⟩
theorem CALL_strint {i : Int} {Q : AV → Store → Prop} (hz : i.natAbs.log2 < 1920) (h : Q (.str (Str.ofString (toString i))) σ) : CALL g n (.type "str") [.int i] [] σ Q :=
  CALL_1 fun A s v hr hs rv => by obtain ⟨_, rfl⟩ := rv.intI; exact P.str_of_int hz ⟨_, _, h, .str _ _, .tok hs _⟩
theorem TruOk_none {Q : Bool → Store → Prop} (h : Q false σ) : TruOk g n .none σ Q := by
  intro A s va hr hs rv
  obtain rfl := rv.noneI
  exact truthy_none ⟨σ, h, .refl hs⟩

theorem item_bytes {value slice : Expr} {l : List UInt8} {k : Int} {Q : AV → Store → Prop} (hz : l.length < 1000000) (h0 : 0 ≤ k) (h1 : k < l.length) (h : Q (.int (l.getD k.toNat 0).toNat) σ)
    (hs : ∀ t u, subscripted slice false (.bytes l.toArray t) (.int k u) = operate [.bytes l.toArray t, .int k u] (getItem (.bytes l.toArray t) (.int k u)) := by intro _ _; with_unfolding_all rfl) : ItemOk g n value slice (.bytes l.toArray) (.int k) σ Q := by
  intro A s vo vi hr hS ro ri
  cases ri; cases ro
  exact tail_any (typeIs_bytes _ _ _) FB.slot_bytes_getitem.lookup (getItem_bytes (by (with_reducible exact Mine.om_ltle (by assumption) (by decide))) h0 h1 ⟨_, σ, h, .int _ _, .tok hS _⟩) (hs _ _)
theorem intsAre_of {h : Heap} {D : List Addr} : ∀ {vs : List Value} {l : List Int}, RepL h D vs (intsA l) → IntsAre vs l
  | _, [], .nil => .nil
  | _, _ :: _, .cons x r => by cases x; exact .cons _ _ (intsAre_of r)
theorem CALL_bytes {o : AV} {ns : List Int} {Q : AV → Store → Prop} (w : View σ o (.lst (intsA ns))) (hr : ∀ x ∈ ns, 0 ≤ x ∧ x < 256) (hz : ns.length < 1000000) (h : Q (.bytes (byteArr ns)) σ) : CALL g n (.type "bytes") [o] [] σ Q :=
  CALL_1 fun A s v hro hs rv => by
    obtain ⟨a, vs, k, rfl, e, rl⟩ := w.list hs rv
    have hl : s.heap.IsList a vs.toArray := ⟨_, e, rfl, k, rfl⟩
    have hlen := rl.length
    rw [intsA, List.length_map] at hlen
    refine call_bytes_ints hl (intsAre_of rl) hr (by unfold sizeLine; (with_reducible exact Mine.om_eqle (by assumption) (by assumption) (by decide))) hro.1 fun h' t tk hk => ⟨_, σ, h, .bytes _ _, ?_⟩
    have := Post.keeps (B := []) hs hk
    exact ⟨this.si, this.ext, this.gens, this.os⟩

noncomputable def EOps (g : Gr) (n : Nat) (env : Env) (pos : Pos) (op : BoolOp) (es : List Expr) (ℓ : Loc) (σ : Store) (Q : AV → Store → Prop) : Prop :=
  ∀ A s, Room n A → SIg g σ s.heap → FI g.hB s.heap (dom σ) env ℓ → TR g A (boolOp pos op (evalEach es env)) s σ Q
theorem EV_boolop {op : BoolOp} {es : List Expr} {pos : Pos} {Q : AV → Store → Prop} (h : EOps g n env pos op es ℓ σ Q) : EV g n env (.BoolOp op es pos) ℓ σ Q := h
theorem EOps_one {op : BoolOp} {e : Expr} {pos : Pos} {Q : AV → Store → Prop} (h : EV g n env e ℓ σ Q) : EOps g n env pos op [e] ℓ σ Q := h
theorem EOps_and {e e' : Expr} {es : List Expr} {pos : Pos} {Q : AV → Store → Prop} (h : EV g n env e ℓ σ fun d σ₁ => TruOk g n d σ₁ fun b σ₂ => σ₂ = σ₁ ∧ (b = true → EOps g n env pos .And (e' :: es) ℓ σ₁ Q) ∧ (b = false → Q d σ₁)) : EOps g n env pos .And (e :: e' :: es) ℓ σ Q := by
  intro A s hr hs hf
  show wpAny _ A (do
    let v ← eval e env
    standAt pos
    let t ← holding [v] (truthy v)
    match BoolOp.And, t with
    | .And, false | .Or, true => pure v
    | _, _ => boolOp pos .And (evalEach (e' :: es) env)) _ _ s
  refine wpAny_bind (wpAny_mono (h A s hr hs hf) ?_ fun _ _ f => f)
  rintro v s₁ ⟨d, σ₁, h₁, rv, p₁⟩
  refine wpAny_bind (wpAny_standAt (wpAny_bind (wpAny_holding (wpAny_mono (h₁ A s₁ v hr p₁.si rv) ?_ fun _ _ f => f))))
  rintro b s₂ ⟨σ₂, ⟨rfl, q1, q2⟩, p₂⟩
  cases b with
  | true => exact (q1 rfl A s₂ hr p₂.si ((hf.ext p₁.ext).ext p₂.ext)).of_post (p₁.trans p₂)
  | false => exact wpAny_pure ⟨d, σ₂, q2 rfl, rv.keep p₂.keepsF, p₁.trans p₂⟩
end
end Mine

end
/- part Core15 -/
section
open PySem PySem.W PyProof.Rows
set_option Elab.async false
namespace Mine
open PySem PySem.W PyProof.Rows PySem.Calls PySem.Spec

theorem layNew_led (t : SetTable) (es : Array (Int × Value)) (h : Int) (x : Value) : (layNew t es h x).2.1.led = t.led ∧ (t.plain = false → (layNew t es h x).2.1.plain = false) := by
  unfold layNew
  split
  · rename_i slot d _
    show (SetTable.orStandIn (t.put slot).1 _).led = t.led ∧ (t.plain = false → (SetTable.orStandIn (t.put slot).1 _).plain = false)
    unfold SetTable.orStandIn
    split
    · exact ⟨rfl, fun e => e⟩
    · exact ⟨rfl, fun _ => rfl⟩
  · exact ⟨rfl, fun _ => rfl⟩
theorem relayAll_led (t : SetTable) (es : Array (Int × Value)) (k : Nat) : (relayAll t es k).2.1.led = t.led ∧ (t.plain = false → (relayAll t es k).2.1.plain = false) := by
  unfold relayAll
  split
  · rename_i t' order hr
    have : t'.led = t.led ∧ t'.plain = t.plain := by
      unfold SetTable.relaid SetTable.laid at hr
      cases q : SetTable.layClean (SetTable.sizeAbove k - 1) (es.map (·.1)) with
      | none => rw [q] at hr; cases hr
      | some owner =>
        rw [q] at hr
        injection hr with hr
        injection hr with h1 h2
        rw [← h1]
        exact ⟨rfl, rfl⟩
    dsimp only
    split
    · exact ⟨this.1, fun e => this.2.trans e⟩
    · exact ⟨rfl, fun _ => rfl⟩
  · exact ⟨rfl, fun _ => rfl⟩

noncomputable def SetAt (P : Params) (h : Heap) (a : Addr) (l : List Str) (n : Nat) : Prop :=
  ∃ es ep t, h.get? a = some ({ cls := .type "set", data := .set es ep t } : Obj) ∧ SetData P es t l ∧ (P.followText "set-order" = false → t.led = true) ∧ es.size ≤ n

section
variable {prog : Program} {w : World} {A : Around} {E : Value → Shared → Prop} {s : Shared}

theorem elemsOf {es : Array (Int × Value)} {t : SetTable} {l : List Str} (D : SetData w.params es t l) : ElemsOf (strKind prog w) es.toList := by
  intro e he
  obtain ⟨x, tk, rfl⟩ := D.elem e he
  exact ⟨⟨x, strKind_is prog w x tk, rfl⟩, rfl⟩
theorem isStr_iff {v : Value} {x : Str} : (strKind prog w).is x v = true ↔ ∃ tk, v = .str x tk := by
  constructor
  · intro h; exact Value.isStrOf_shape h
  · rintro ⟨tk, rfl⟩; exact strKind_is prog w x tk
theorem mem_iff {es : Array (Int × Value)} {t : SetTable} {l : List Str} (D : SetData w.params es t l) (k : Str) : decide (k ∈ l) = true ↔ ∃ e ∈ es.toList, (strKind prog w).is k e.2 = true := by
  rw [decide_eq_true_iff, D.mem k]
  constructor
  · rintro ⟨e, he, tk, q⟩; exact ⟨e, he, isStr_iff.mpr ⟨tk, q⟩⟩
  · rintro ⟨e, he, q⟩; obtain ⟨tk, q⟩ := isStr_iff.mp q; exact ⟨e, he, tk, q⟩
theorem setAddHashed_str {a : Addr} {l : List Str} {n : Nat} {x : Str} {tk : Tok} {Q : Bool → Shared → Prop} (S : SetAt w.params s.heap a l n) (hroom : n + 1 < scanBound)
    (h : ∀ b h', Heap.SameBut a s.heap h' → SetAt w.params h' a (x :: l) (n + 1) → Q b { s with heap := h' }) :
    wpAny (model prog w) A (setAddHashed a (.str x tk) (PyData.keyHash w.params x)) Q E s := by
  obtain ⟨es, ep, t, ho, D, hld, hn⟩ := S
  have hd : ({ cls := .type "set", data := .set es ep t } : Obj).data = .set es ep t := rfl
  have hkey := strKind_is prog w x tk
  have hel := elemsOf (prog := prog) D
  unfold setAddHashed setAddHashedIn
  refine wpAny_holding (wpAny_bind (wpAny_setState_of ho hd D.fits ?_))
  dsimp only
  rw [byScan_of (knd := strKind prog w) rfl D.bound hel]
  simp only [↓reduceIte]
  unfold setAddByScan
  refine wpAny_bind ?_
  refine wpAny_bind (wpAny_rule ?_)
  refine wpAny_bind (wpAny_setScan_of (knd := strKind prog w) hkey ho hd D.fits hel ?_)
  cases hr : List.findIdx? (fun e => (strKind prog w).is x e.2) es.toList with
  | some j =>
    dsimp only
    obtain ⟨hj, hpj, _⟩ := List.findIdx?_eq_some_iff_getElem.mp hr
    have hx : x ∈ l := of_decide_eq_true ((mem_iff (prog := prog) D x).mpr ⟨es.toList[j], List.getElem_mem hj, hpj⟩)
    refine wpAny_pure (wpAny_pure ?_)
    refine h false s.heap (.refl ..) ⟨es, ep, t, ho, ⟨D.elem, fun y => ?_, D.bound, D.fits, D.led, D.plain⟩, hld, by omega⟩
    rw [← D.mem y, List.mem_cons]
    exact ⟨fun q => q.elim (fun e => e ▸ hx) id, .inr⟩
  | none =>
    dsimp only
    have hgw : ∀ (b : Bool) {s₁ : Shared} {Q' : Unit → Shared → Prop}, Q' () s₁ → wpAny (model prog w) A (match b with | true => rule "set.scan.the-table-gave-way" | false => pure ()) Q' E s₁ :=
      fun b s₁ Q' hq => by cases b <;> first | exact wpAny_pure hq | exact wpAny_rule hq
    have hperm := layNew_perm t es (PyData.keyHash w.params x) (.str x tk)
    have hfits := layNew_fits t es (PyData.keyHash w.params x) (.str x tk)
    have hled := layNew_led t es (PyData.keyHash w.params x) (.str x tk)
    show wpAny _ _ _ _ _ _
    generalize hL : layNew t es (PyData.keyHash w.params x) (.str x tk) = L at hperm hfits hled ⊢
    obtain ⟨es1, t1, wasDummy, gave⟩ := L
    dsimp only at hperm hfits hled ⊢
    rw [Array.toList_push] at hperm
    have elem1 : ∀ e ∈ es1.toList, ∃ x tk, e = (PyData.keyHash w.params x, .str x tk) := fun e he => by
      rcases List.mem_append.mp (hperm.mem_iff.mp he) with he | he
      · exact D.elem e he
      · exact ⟨x, tk, List.mem_singleton.mp he⟩
    have mem1 : ∀ y, y ∈ x :: l ↔ ∃ e ∈ es1.toList, ∃ tk, e.2 = .str y tk := fun y => by
      rw [List.mem_cons, D.mem y]
      constructor
      · rintro (rfl | ⟨e, he, q⟩)
        · exact ⟨_, hperm.mem_iff.mpr (List.mem_append_right _ (List.mem_singleton.mpr rfl)), tk, rfl⟩
        · exact ⟨e, hperm.mem_iff.mpr (List.mem_append_left _ he), q⟩
      · rintro ⟨e, he, u, q⟩
        rcases List.mem_append.mp (hperm.mem_iff.mp he) with he | he
        · exact .inr ⟨e, he, u, q⟩
        · rw [List.mem_singleton] at he; subst he
          injection q with q1 q2
          exact .inl q1.symm
    have hsz1 : es1.size = es.size + 1 := by rw [← Array.length_toList, hperm.length_eq, List.length_append, Array.length_toList]; rfl
    have hb1 : es1.size < scanBound := by omega
    refine wpAny_bind (hgw _ ?_)
    have fin : ∀ t2 : SetTable, t2.fits es1.size = true → t2.led = t.led → t2.plain = false → wpAny (model prog w) A (do
        storeSet a es1 t2
        if (!wasDummy && t2.tooFull) = true then do
            (match (relayAll t2 es1 (SetTable.grown es1.size)).2.2 with | true => rule "set.scan.the-table-gave-way" | false => pure ())
            storeSet a (relayAll t2 es1 (SetTable.grown es1.size)).1 (relayAll t2 es1 (SetTable.grown es1.size)).2.1
            pure (some true)
          else pure (some true)) (fun r s' => wpAny (model prog w) A (match r with | some added => pure added | none => setAddHashedIn a (.str x tk) (PyData.keyHash w.params x) 99999) Q E s') E s := by
      intro t2 hf2 hl2 hp2
      refine wpAny_bind (wpAny_storeSet_of ho hd ?_ (fits_of_scanBound hb1))
      have hsb1 := Heap.SameBut.update s.heap a (Obj.putSet es1 t2)
      have ho1 := Heap.get?_update_self (Obj.putSet es1 t2) ho (by rw [putSet_of es1 t2 hd]; rfl)
      rw [putSet_of es1 t2 hd] at ho1
      have D1 : SetData w.params es1 t2 (x :: l) := ⟨elem1, mem1, hb1, hf2, fun q _ => hl2.trans (hld q), fun _ => hp2⟩
      split
      · have hp := relayAll_perm t2 es1 (SetTable.grown es1.size)
        have hfr := relayAll_fits t2 es1 (SetTable.grown es1.size)
        have hlr := relayAll_led t2 es1 (SetTable.grown es1.size)
        generalize hRl : relayAll t2 es1 (SetTable.grown es1.size) = Rl at hp hfr hlr ⊢
        obtain ⟨es2, t3, gave2⟩ := Rl
        dsimp only at hp hfr hlr ⊢
        have hsz : es2.size = es1.size := by rw [← Array.length_toList, hp.length_eq, Array.length_toList]
        have hb2 : es2.size < scanBound := by rw [hsz]; exact hb1
        refine wpAny_bind (hgw _ ?_)
        refine wpAny_bind (wpAny_storeSet_of ho1 rfl ?_ (fits_of_scanBound hb2))
        have ho2 := Heap.get?_update_self (Obj.putSet es2 t3) ho1 (by rw [putSet_of es2 t3 rfl]; rfl)
        rw [putSet_of es2 t3 rfl] at ho2
        refine wpAny_pure (wpAny_pure (h true _ (hsb1.trans (Heap.SameBut.update _ a _)) ⟨es2, _, t3, ho2, ⟨fun e he => elem1 e (hp.mem_iff.mp he), fun y => ?_, hb2, hfr, fun q _ => hlr.1.trans (hl2.trans (hld q)), fun _ => hlr.2 hp2⟩, fun q => hlr.1.trans (hl2.trans (hld q)), by omega⟩))
        rw [mem1 y]
        exact ⟨fun ⟨e, he, q⟩ => ⟨e, hp.mem_iff.mpr he, q⟩, fun ⟨e, he, q⟩ => ⟨e, hp.mem_iff.mp he, q⟩⟩
      · exact wpAny_pure (wpAny_pure (h true _ hsb1 ⟨es1, _, t2, ho1, D1, fun q => hl2.trans (hld q), by omega⟩))
    split
    · refine wpAny_bind ?_
      rw [hashByValue_scannable 8 rfl]
      refine wpAny_pure ?_
      exact fin { t1 with plain := false } (SetTable.fits_plain_off hfits) hled.1 rfl
    · rename_i hpl
      refine wpAny_bind (wpAny_pure ?_)
      simp only [↓reduceIte]
      exact fin t1 hfits hled.1 (by simpa using hpl)
end
end Mine

end
/- part Core16 -/
section
open PySem PySem.W PyProof.Rows
set_option Elab.async false
set_option maxRecDepth 100000
namespace Mine
open PySem PySem.W PyProof.Rows PySem.Calls PySem.Spec

theorem SetAt.at {P : Params} {h h' : Heap} {a : Addr} {l : List Str} {n : Nat} (S : SetAt P h a l n) (hk : ∀ o, h.get? a = some o → h'.get? a = some o) : SetAt P h' a l n := by
  obtain ⟨es, ep, t, e, r⟩ := S
  exact ⟨es, ep, t, hk _ e, r⟩
theorem SetAt.congr {P : Params} {h : Heap} {a : Addr} {l l' : List Str} {n n' : Nat} (S : SetAt P h a l n) (hl : ∀ x, x ∈ l ↔ x ∈ l') (hn : n ≤ n') : SetAt P h a l' n' := by
  obtain ⟨es, ep, t, e, D, hld, hz⟩ := S
  exact ⟨es, ep, t, e, ⟨D.elem, fun x => (hl x).symm.trans (D.mem x), D.bound, D.fits, D.led, D.plain⟩, hld, by (with_reducible exact Nat.le_trans (by assumption) (by assumption))⟩
theorem SetAt.fresh {w : World} {h : Heap} {a : Addr} {led : Bool} (hl : w.params.followText "set-order" = false → led = true) (e : h.get? a = some ({ cls := .type "set", dict := none, data := .set #[] 0 (.fresh 0 0 led) } : Obj)) : SetAt w.params h a [] 0 :=
  ⟨#[], 0, _, e, ⟨by simp, by simp, by decide, rfl, by simp, by simp⟩, hl, Nat.le_refl _⟩

section
variable {prog : Program} {w : World} {A : Around} {E : Value → Shared → Prop} {R : Result → Shared → Prop} {I : Addr} {fp wr : List Addr} {n : Nat} {P : Nat → Value → Prop} {St : Nat → Heap → Prop}

theorem update_loop (W : Walks prog w A.in1 I fp wr n P St) (S : Addr) (hSf : S ∉ fp) (ks : List Str) (hn : ks.length = n) (hval : ∀ i v, P i v → ∃ x t, ks[i]? = some x ∧ v = .str x t) (hb : n + 1 < scanBound) :
    ∀ (k i : Nat) (s : Shared), n - i = k → i ≤ n → St i s.heap → SetAt w.params s.heap S (ks.take i) i →
      (∀ h' tk, (∀ b o, b ∉ S :: wr → s.heap.get? b = some o → h'.get? b = some o) → SetAt w.params h' S ks n → R (.ok (.ret .none)) { s with heap := h', toks := tk }) →
      codeAny (model prog w) A (.builtin "set.update.loop" ⟨[.ref S, .ref I], []⟩) R s := by
  have hSw : S ∉ wr := fun h => hSf (W.sub _ h)
  intro k
  induction k with
  | zero =>
    intro i s hk hi hst hS hR
    have hin : i = n := by omega
    subst hin
    refine codeAny_builtin PyProof.Rows.F.entry_set_update_loop ?_
    rw [Around.under_plainId PyProof.Rows.F.plain_set_update_loop _]
    show wpAny _ A.in1 (pyNext (.ref I) >>= _) _ _ s
    refine wpAny_bind (W.done s _ _ hst fun h' tk hm => ?_)
    show wpAny _ A.in1 (ret Value.none) _ _ _
    refine wpAny_pure (hR h' tk (fun b o hb e => hm b o (fun q => hb (List.mem_cons_of_mem _ q)) e) ?_)
    rw [List.take_of_length_le (by omega)] at hS
    exact hS.at fun o e => hm S o hSw e
  | succ k ih =>
    intro i s hk hi hst hS hR
    have hlt : i < n := by omega
    refine codeAny_builtin PyProof.Rows.F.entry_set_update_loop ?_
    rw [Around.under_plainId PyProof.Rows.F.plain_set_update_loop _]
    show wpAny _ A.in1 (pyNext (.ref I) >>= _) _ _ s
    refine wpAny_bind (W.item i s _ _ hlt hst fun v h₁ tk₁ hP hst' hm => ?_)
    obtain ⟨x, t, hx, rfl⟩ := hval i v hP
    have hS' : SetAt w.params h₁ S (ks.take i) i := hS.at fun o e => hm S o hSw e
    show wpAny _ A.in1 (holding [Value.str x t] (setAdd S (.str x t)) >>= _) _ _ _
    refine wpAny_bind (wpAny_holding ?_)
    unfold setAdd
    refine wpAny_holding ?_
    refine wpAny_bind ((strKind prog w).pyHash (k := x) (strKind_is _ _ _ _) ?_)
    refine setAddHashed_str (s := { s with heap := h₁, toks := tk₁ + 1 }) hS' (by omega) fun b h₂ hsb hS2 => ?_
    have e : ks.take (i + 1) = ks.take i ++ [x] := by rw [List.take_add_one, hx]; rfl
    have hS3 : SetAt w.params h₂ S (ks.take (i + 1)) (i + 1) := hS2.congr (fun y => by rw [e]; simp [or_comm]) (Nat.le_refl _)
    refine wpAny_pure ⟨plainId_quiet PyProof.Rows.F.plain_set_update_loop _, ih (i + 1) _ (by omega) hlt (W.frame _ _ _ hst' fun b hb o e => ?_) hS3 fun h₃ tk₃ hm₃ hS₃ => ?_⟩
    · exact (hsb.2 b (fun h : b = S => hSf (by rw [← h]; exact hb))).trans e
    · refine hR h₃ tk₃ (fun b o hb e => hm₃ b o hb ?_) hS₃
      refine (hsb.2 b fun h : b = S => hb (by rw [h]; exact List.mem_cons_self)).trans (hm b o (fun q => hb (List.mem_cons_of_mem _ q)) e)

theorem code_set_new_led {s : Shared} (l : List Value) (hl : l.length ≤ 1) {Q₁ : Value → Shared → Prop} (hc : checkBuiltinCall "set.__new__" ⟨.type "set" :: l, []⟩ = pure ())
    (h : ∀ led : Bool, (w.params.followText "set-order" = false → led = true) → Q₁ (.ref s.heap.objs.size) { s with heap := s.heap.push { cls := .type "set", dict := none, data := .set #[] 0 (.fresh 0 0 led) } }) :
    codeAny (model prog w) A (.call (.builtin "set.__new__") ⟨.type "set" :: l, []⟩) (wants Q₁ E) s := by
  refine codeAny_of_tree ?_
  show wpAny _ A.in1 (do checkBuiltinCall "set.__new__" ⟨.type "set" :: l, []⟩; again (.builtin "set.__new__" ⟨.type "set" :: l, []⟩)) _ _ s
  refine wpAny_bind (wpAny_of_eq hc (wpAny_pure ⟨plainId_quiet PySem.F.plain_set_new _, codeAny_builtin PySem.F.entry_set_new ?_⟩))
  rw [Around.under_plainId PySem.F.plain_set_new _]
  unfold Builtin.«set.__new__» Builtin.Frozenset.newClass
  have hsub := PySem.sub_set_self
  obtain ⟨hp, g, d, tk, os⟩ := s
  dsimp only
  wp_walk
  refine wpAny_askSetting (wpAny_pure ?_)
  dsimp only
  simp only [newObj]
  refine wpAny_bind (wpAny_alloc (wpAny_pure ?_))
  exact wpAny_pure (h _ fun e => by show (!w.params.followText "set-order") = true; rw [e]; rfl)

set_option maxHeartbeats 3200000 in
theorem call_set_strs {s : Shared} {l : Addr} {items : Array Value} {ks : List Str} {Q : Value → Shared → Prop}
    (hh : A.handled = none) (hl : s.heap.IsList l items) (hi : ∀ (i : Nat) (v : Value), items[i]? = some v → ∃ x t, ks[i]? = some x ∧ v = .str x t) (hkn : ks.length = items.size) (hb : items.size + 1 < scanBound)
    (h : ∀ (h' : Heap) (tk : Nat), SetAt w.params h' s.heap.objs.size ks items.size →
      (∀ b o, b < s.heap.objs.size → s.heap.get? b = some o → h'.get? b = some o) → Q (.ref s.heap.objs.size) { s with heap := h', toks := tk }) :
    wpAny (model prog w) A (call (.type "set") [.ref l]) Q E s := by
  obtain ⟨c, tl, hmro⟩ := PySem.F.called_set.mro
  have hmade := PySem.F.called_set.made
  have hsub := PySem.F.called_set.sub
  refine wpAny_call (codeAny_of_tree ?_)
  show wpAny _ _ (callAny (.type "set") _) _ _ _
  refine wpAny_pure ⟨Code.quiet_builtin _ (by decide +kernel), codeAny_builtin PySem.F.entry_type_call ?_⟩
  rw [Around.under_plain (weight_type_call_type "set" [.ref l] []) rfl]
  have h1 := PySem.F.called_set.notType
  have h2 := PySem.F.called_set.canCreate
  have hct := PySem.F.typeCall_set_1 (.ref l)
  repeat (any_goals (first | assumption | wp_step))
  refine codeAny_mono (code_set_new_led [.ref l] (by simp) (E := E) (Q₁ := fun obj s₁ => ∃ led : Bool, (w.params.followText "set-order" = false → led = true) ∧ obj = .ref s.heap.objs.size ∧ s₁ = { s with heap := s.heap.push { cls := .type "set", dict := none, data := .set #[] 0 (.fresh 0 0 led) } }) (PySem.F.newCall_set_1 _) fun led hled => ⟨led, hled, rfl, rfl⟩) fun r s₁ hr => ?_
  cases r with
  | error e => exact hr
  | ok fl =>
    cases fl with
    | ret obj =>
      obtain ⟨led, hled, rfl, rfl⟩ := hr
      have hS : (s.heap.push { cls := .type "set", dict := none, data := .set #[] 0 (.fresh 0 0 led) }).get? s.heap.objs.size = some { cls := .type "set", dict := none, data := .set #[] 0 (.fresh 0 0 led) } := Heap.get?_push_size _ rfl
      have hT : Shared.TypeIs { s with heap := s.heap.push { cls := .type "set", dict := none, data := .set #[] 0 (.fresh 0 0 led) } } (.ref s.heap.objs.size) "set" := ⟨_, hS, rfl⟩
      have hli := PySem.F.called_set.init.lookup
      have hbi := PySem.F.called_set.init.bind (.ref s.heap.objs.size)
      repeat (any_goals (first | assumption | wp_step))
      refine codeAny_mono (codeAny_call_builtin (R := wants (fun r s₂ => r = .none ∧ ∃ h' tk, s₂ = { s with heap := h', toks := tk } ∧ SetAt w.params h' s.heap.objs.size ks items.size ∧
          (∀ b o, b < s.heap.objs.size → s.heap.get? b = some o → h'.get? b = some o)) E) PySem.F.called_set.init.plain PySem.F.entry_set_init (check_set_init_1 hT ?_)) fun r₂ s₂ hr₂ => ?_
      · obtain ⟨ol, hol, hcl, nl, hdl⟩ := hl
        obtain ⟨ocls, odict, odata, oslots⟩ := ol
        simp only at hcl hdl
        subst hcl; subst hdl
        have hol' : (s.heap.push { cls := .type "set", dict := none, data := .set #[] 0 (.fresh 0 0 led) }).get? l = some { cls := .type "list", dict := odict, data := .seq items nl, slots := oslots } := Heap.get?_push_of_some _ hol
        have hsls := PySem.F.sub_list_set
        have hslf := PySem.F.sub_list_frozenset
        have hne : (Value.type "list" == Value.type "dict") = false := by decide
        have hl1 : (s.heap.push { cls := .type "set", dict := none, data := .set #[] 0 (.fresh 0 0 led) }).IsList l items := ⟨_, hol', rfl, nl, rfl⟩
        unfold Builtin.«set.__init__» noKeywords Builtin.Frozenset.updateFrom
        generalize hPI : pyIter = PI
        wp_walk
        subst hPI
        refine wpAny_pyIter_list hl1 ?_
        refine wpAny_bind (wpAny_runValue ?_)
        have hlS : l < s.heap.objs.size := Heap.lt_size hol
        have hh3 : A.in1.in1.in1.handled = none := by simp [hh]
        have hneI : l ≠ (s.heap.push { cls := .type "set", dict := none, data := .set #[] 0 (.fresh 0 0 led) }).objs.size := by
          rw [Heap.size_push]; exact Nat.ne_of_lt (Nat.lt_succ_of_lt hlS)
        have hSf : s.heap.objs.size ∉ [(s.heap.push { cls := .type "set", dict := none, data := .set #[] 0 (.fresh 0 0 led) }).objs.size, l] := by
          rw [Heap.size_push]; simp only [List.mem_cons, List.mem_singleton, List.not_mem_nil, or_false, not_or]
          exact ⟨Nat.ne_of_lt (Nat.lt_succ_self _), Nat.ne_of_gt hlS⟩
        refine update_loop (Walks.list hh3 _ l hneI items) s.heap.objs.size hSf ks hkn hi hb (items.size - 0) 0 _ (by omega) (Nat.zero_le _)
          ⟨⟨_, Heap.get?_push_size _ rfl, rfl, rfl⟩, (hl1.push _)⟩ ?hS0 ?hR
        case hS0 => exact SetAt.fresh hled (Heap.get?_push_of_some _ hS)
        case hR =>
          intro h' tk hm hS'
          show wpAny _ _ _ _ _ _
          refine wpAny_pure ?_
          show wpAny _ _ (ret Value.none) _ _ _
          refine wpAny_pure ⟨rfl, h', tk, rfl, hS', fun b o hb e => ?_⟩
          have hb1 : b ≠ s.heap.objs.size := Nat.ne_of_lt hb
          have hb2 : b ≠ (s.heap.push { cls := .type "set", dict := none, data := .set #[] 0 (.fresh 0 0 led) }).objs.size := by
            rw [Heap.size_push]; exact Nat.ne_of_lt (Nat.lt_succ_of_lt hb)
          exact hm b o (by simp only [List.mem_cons, List.mem_singleton, List.not_mem_nil, or_false, not_or]; exact ⟨hb1, hb2⟩) (Heap.get?_push_of_some _ (Heap.get?_push_of_some _ e))
      · cases r₂ with
        | error e => exact hr₂
        | ok fl₂ =>
          cases fl₂ with
          | ret r =>
            obtain ⟨rfl, h', tk, rfl, hS', hk'⟩ := hr₂
            repeat (any_goals (first | assumption | wp_step))
            exact h _ _ hS' hk'
          | _ => exact hr₂.elim
    | _ => exact hr.elim
end
end Mine

end
/- part Core17 -/
section
open PySem PySem.W PyProof.Rows
set_option Elab.async false
set_option maxRecDepth 100000
namespace Mine
open PySem PySem.W PyProof.Rows PySem.Calls PySem.Spec

theorem sit_slot_next : Slot "set_iterator" "__next__" "set_iterator.__next__" :=
  .of (owner := "set_iterator") (n := "__next__") (by rw [typeLookup_type, builtinLookup_eq_fast]; kernel_rfl) (by decide +kernel) (by decide +kernel) (by decide +kernel)
    (by first | exact .inl (by decide +kernel) | exact .inr (by decide +kernel)) (by rw [isSubtype_type]; kernel_rfl)
theorem sit_slot_self : Slot "set_iterator" "__iter__" "set_iterator.__iter__" :=
  .of (owner := "set_iterator") (n := "__iter__") (by rw [typeLookup_type, builtinLookup_eq_fast]; kernel_rfl) (by decide +kernel) (by decide +kernel) (by decide +kernel)
    (by first | exact .inl (by decide +kernel) | exact .inr (by decide +kernel)) (by rw [isSubtype_type]; kernel_rfl)
theorem sit_entry_next : entryFor table "set_iterator.__next__" = some Builtin.«set_iterator.__next__» := entryFor_of_tree (by kernel_rfl)
theorem sit_entry_self : entryFor table "set_iterator.__iter__" = some Builtin.«dict_keyiterator.__iter__» := entryFor_alias (id' := "dict_keyiterator.__iter__") (by kernel_rfl) rfl (by decide +kernel) (by kernel_rfl)
theorem set_entry_iter : entryFor table "set.__iter__" = some Builtin.«frozenset.__iter__» := entryFor_alias (id' := "frozenset.__iter__") (by kernel_rfl) rfl (by decide +kernel) (by kernel_rfl)
theorem sit_args_next (a : Value) : argsOk "set_iterator.__next__" ⟨[a], []⟩ := by unfold argsOk; kernel_rfl
theorem sit_args_self (a : Value) : argsOk "set_iterator.__iter__" ⟨[a], []⟩ := by unfold argsOk; kernel_rfl

noncomputable def IsSetIter (h : Heap) (it : Addr) (first : Value) (i : Nat) (S n ep : Nat) : Prop := ∃ o, h.get? it = some o ∧ o.cls = .type "set_iterator" ∧ o.data = .fields #[first, .int i 0, .ref S, .int n 0, .int ep 0]
noncomputable def setO (es : Array (Int × Value)) (ep : Nat) (t : SetTable) : Obj := { cls := .type "set", data := .set es ep t }

section
variable {prog : Program} {w : World} {A : Around} {E : Value → Shared → Prop} {s : Shared}

theorem IsSetIter.ty {it : Addr} {first : Value} {i S n ep : Nat} (y : IsSetIter s.heap it first i S n ep) : s.TypeIs (.ref it) "set_iterator" := let ⟨o, ho, hc, _⟩ := y; ⟨o, ho, hc⟩

theorem choose_ok {src : Source} {n : Nat} {Q : Nat → Shared → Prop} (hn : n ≠ 0) (h : ∀ i s', i < n → (∃ d, s' = { s with drawn := d }) → Q i s') : wpAny (model prog w) A (choose src n) Q E s := by
  intro Γ p hΓ
  show Sem.wp _ _ (.choose src n .pure) _ _ p s
  rw [Sem.wp_choose]
  exact ⟨hn, h _ _ (Nat.mod_lt _ (Nat.pos_of_ne_zero hn)) ⟨_, rfl⟩⟩
theorem erase_perm {α : Type} : ∀ (l : List α) (i : Nat) (h : i < l.length), (l[i] :: l.eraseIdx i).Perm l
  | [], _, h => by simp at h
  | x :: l, 0, _ => .refl _
  | x :: l, i + 1, h => by
    have h' : i < l.length := by simpa using h
    show (l[i] :: x :: l.eraseIdx i).Perm (x :: l)
    exact (List.Perm.swap _ _ _).trans (.cons _ (erase_perm l i h'))
theorem drawOrder_ok {α : Type} : ∀ (n : Nat) (xs : List α) (s : Shared) (Q : List α → Shared → Prop), xs.length = n → (∀ ys s', List.Perm ys xs → (∃ d, s' = { s with drawn := d }) → Q ys s') → wpAny (model prog w) A (drawOrder n xs) Q E s
  | 0, xs, s, Q, hn, h => by
    have : xs = [] := List.length_eq_zero_iff.mp hn
    subst this
    exact wpAny_pure (h _ _ (.refl _) ⟨s.drawn, rfl⟩)
  | n + 1, [], s, Q, hn, h => by simp at hn
  | n + 1, x :: xs, s, Q, hn, h => by
    show wpAny _ A (choose .order (x :: xs).length >>= _) _ _ s
    refine wpAny_bind (choose_ok (by simp) ?_)
    rintro i s' hi ⟨d, rfl⟩
    have he := List.getElem?_eq_getElem hi
    rw [he]
    have hl : ((x :: xs).eraseIdx i).length = n := by rw [List.length_eraseIdx_of_lt hi]; omega
    refine wpAny_bind (drawOrder_ok n _ _ _ hl ?_)
    rintro ys s' hp ⟨d', rfl⟩
    refine wpAny_pure (h _ _ ?_ ⟨d', rfl⟩)
    exact ((List.Perm.cons _ hp)).trans (erase_perm _ i hi)

theorem pyIter_sit {it : Addr} {first : Value} {i S n ep : Nat} {Q : Value → Shared → Prop} (hit : IsSetIter s.heap it first i S n ep) (h : Q (.ref it) s) : wpAny (model prog w) A (pyIter (.ref it)) Q E s := by
  refine wpAny_pyIter_slot hit.ty sit_slot_self (wpAny_call_entry sit_slot_self hit.ty sit_entry_self ?_ (sit_args_self _))
  show wpAny _ _ (ret (.ref it)) _ _ s
  exact wpAny_pure ⟨_, rfl, "set_iterator", _, hit.ty, sit_slot_next.lookup, h⟩


theorem sit_item_int {it : Addr} {slot : Int} {i S n ep nxt : Nat} {x : Value} {es : Array (Int × Value)} {t : SetTable} {Q : Option Value → Shared → Prop} (hit : IsSetIter s.heap it (.int slot 0) i S n ep) (hS : s.heap.get? S = some (setO es ep t)) (hf : t.fits es.size = true) (hn : es.size = n)
    (hx : ∀ Q' E', Q' (some (x, nxt)) s → wpAny (model prog w) A.in1 (setNext S slot.toNat i ep) Q' E' s)
    (hQ : ∀ h', IsSetIter h' it (.int nxt 0) (i + 1) S n ep → Heap.SameBut it s.heap h' → Q (some x) { s with heap := h' }) : wpAny (model prog w) A (pyNext (.ref it)) Q E s := by
  obtain ⟨o, ho, hc, hd⟩ := id hit
  unfold pyNext
  refine wpAny_bind (wpAny_attempt (wpAny_callSpecial?_slot (name := Str.ofString "__next__") hit.ty sit_slot_next
    (wpAny_call_entry sit_slot_next hit.ty sit_entry_next ?_ (sit_args_next _))))
  show wpAny _ _ (fieldsOf (.ref it) >>= _) _ _ s
  refine wpAny_bind (wpAny_fieldsOf ho hd ?_)
  show wpAny _ _ (setEntries S >>= _) _ _ s
  refine wpAny_bind (wpAny_bind (wpAny_setState_of hS rfl hf (wpAny_pure ?_)))
  show wpAny _ _ (if ((es.size : Int) != (n : Int)) = true then _ else _) _ _ s
  rw [if_neg (by simp [hn])]
  show wpAny _ _ (setNext S slot.toNat (i : Int).toNat (ep : Int).toNat >>= _) _ _ s
  rw [Int.toNat_natCast, Int.toNat_natCast]
  refine wpAny_bind (hx _ _ ?_)
  show wpAny _ _ (setField (.ref it) 0 (rawInt nxt) >>= _) _ _ s
  refine wpAny_bind (wpAny_setField ho hd (by simp) ?_)
  have ho1 := Heap.get?_update_self (Obj.mapFields (·.setIfInBounds 0 (rawInt nxt))) ho (Obj.isFreed_of_fields (Obj.data_mapFields hd _))
  have hd1 := Obj.data_mapFields hd (·.setIfInBounds 0 (rawInt nxt))
  refine wpAny_bind (wpAny_setField ho1 hd1 (by simp) (wpAny_pure ⟨x, rfl, wpAny_pure (hQ _ ?_ ((Heap.SameBut.update ..).trans (Heap.SameBut.update ..)))⟩))
  exact ⟨_, Heap.get?_update_self _ ho1 (Obj.isFreed_of_fields (Obj.data_mapFields hd1 _)), ((Obj.cls_mapFields ..).trans (Obj.cls_mapFields ..)).trans hc, by
    rw [Obj.data_mapFields hd1]; simp [rawInt]⟩
theorem sit_end_int {it : Addr} {slot : Int} {i S n ep : Nat} {es : Array (Int × Value)} {t : SetTable} {Q : Option Value → Shared → Prop} (hh : A.handled = none) (hit : IsSetIter s.heap it (.int slot 0) i S n ep) (hS : s.heap.get? S = some (setO es ep t)) (hf : t.fits es.size = true) (hn : es.size = n)
    (hx : ∀ Q' E', Q' none s → wpAny (model prog w) A.in1 (setNext S slot.toNat i ep) Q' E' s)
    (hQ : ∀ h', Heap.ExtBut it s.heap h' → Q none { s with heap := h' }) : wpAny (model prog w) A (pyNext (.ref it)) Q E s := by
  obtain ⟨o, ho, hc, hd⟩ := id hit
  unfold pyNext
  refine wpAny_bind (wpAny_attempt (wpAny_callSpecial?_slot (name := Str.ofString "__next__") hit.ty sit_slot_next
    (wpAny_call_entry sit_slot_next hit.ty sit_entry_next ?_ (sit_args_next _))))
  show wpAny _ _ (fieldsOf (.ref it) >>= _) _ _ s
  refine wpAny_bind (wpAny_fieldsOf ho hd ?_)
  show wpAny _ _ (setEntries S >>= _) _ _ s
  refine wpAny_bind (wpAny_bind (wpAny_setState_of hS rfl hf (wpAny_pure ?_)))
  show wpAny _ _ (if ((es.size : Int) != (n : Int)) = true then _ else _) _ _ s
  rw [if_neg (by simp [hn])]
  show wpAny _ _ (setNext S slot.toNat (i : Int).toNat (ep : Int).toNat >>= _) _ _ s
  rw [Int.toNat_natCast, Int.toNat_natCast]
  refine wpAny_bind (hx _ _ ?_)
  show wpAny _ _ (setField (.ref it) 2 .none >>= _) _ _ s
  refine wpAny_bind (wpAny_setField ho hd (by simp) ?_)
  show wpAny _ _ (newExc (.type "StopIteration") [] >>= _) _ _ _
  refine wpAny_bind ?_
  simp only [newExc, newTuple]
  refine wpAny_bind (wpAny_newObj_type ?_ (by size_fits))
  refine wpAny_bind (m := firstArgMember _ _) (wpAny_of_eq (a := Value.none) (by first | rfl | (simp only [firstArgMember]; rfl)) ?_)
  refine wpAny_newObj_type ?_ (by size_fits)
  simp only [raiseNew]
  refine wpAny_bind (wpAny_handled ?_)
  rw [show A.in1.handled = none from hh]
  refine wpAny_bind (wpAny_pure (wpAny_throw ?_))
  refine wpAny_bind (wpAny_isInstance (T := "StopIteration") (b := true) ⟨_, Heap.get?_push_size _ rfl, rfl⟩ isSubtype_stop ?_)
  exact wpAny_pure (hQ _ (((Heap.SameBut.update ..).extBut.push _).push _))
theorem sit_item_tup {it T : Addr} {places : Array Value} {c : Nat} {i S n ep p : Nat} {e : Int × Value} {es : Array (Int × Value)} {t : SetTable} {Q : Option Value → Shared → Prop} (hit : IsSetIter s.heap it (.ref T) i S n ep) (hS : s.heap.get? S = some (setO es ep t)) (hf : t.fits es.size = true) (hn : es.size = n)
    (hT : s.heap.get? T = some ({ cls := .type "tuple", data := .seq places c } : Obj)) (hp : places[i]? = some (.int p 0)) (he : es[p]? = some e)
    (hQ : ∀ h', IsSetIter h' it (.ref T) (i + 1) S n ep → Heap.SameBut it s.heap h' → Q (some e.2) { s with heap := h' }) : wpAny (model prog w) A (pyNext (.ref it)) Q E s := by
  obtain ⟨o, ho, hc, hd⟩ := id hit
  unfold pyNext
  refine wpAny_bind (wpAny_attempt (wpAny_callSpecial?_slot (name := Str.ofString "__next__") hit.ty sit_slot_next
    (wpAny_call_entry sit_slot_next hit.ty sit_entry_next ?_ (sit_args_next _))))
  show wpAny _ _ (fieldsOf (.ref it) >>= _) _ _ s
  refine wpAny_bind (wpAny_fieldsOf ho hd ?_)
  show wpAny _ _ (setEntries S >>= _) _ _ s
  refine wpAny_bind (wpAny_bind (wpAny_setState_of hS rfl hf (wpAny_pure ?_)))
  show wpAny _ _ (if ((es.size : Int) != (n : Int)) = true then _ else _) _ _ s
  rw [if_neg (by simp [hn])]
  show wpAny _ _ (seqItems? (.ref T) >>= _) _ _ s
  refine wpAny_bind (wpAny_seqItems hT rfl ?_)
  simp only [Int.toNat_natCast, hp]
  refine wpAny_bind ?_
  unfold setNextDrawn
  refine wpAny_bind (wpAny_setState_of hS rfl hf ?_)
  show wpAny _ _ (if (ep != ep) = true then _ else _) _ _ s
  rw [if_neg (by simp), he]
  refine wpAny_pure ?_
  refine wpAny_bind (wpAny_setField ho hd (by simp) (wpAny_pure ⟨_, rfl, wpAny_pure (hQ _ ?_ (Heap.SameBut.update ..))⟩))
  exact ⟨_, Heap.get?_update_self _ ho (Obj.isFreed_of_fields (Obj.data_mapFields hd _)), (Obj.cls_mapFields ..).trans hc, by
    rw [Obj.data_mapFields hd]; simp [rawInt]⟩
theorem sit_end_tup {it T : Addr} {places : Array Value} {c : Nat} {i S n ep : Nat} {es : Array (Int × Value)} {t : SetTable} {Q : Option Value → Shared → Prop} (hh : A.handled = none) (hit : IsSetIter s.heap it (.ref T) i S n ep) (hS : s.heap.get? S = some (setO es ep t)) (hf : t.fits es.size = true) (hn : es.size = n)
    (hT : s.heap.get? T = some ({ cls := .type "tuple", data := .seq places c } : Obj)) (hp : places[i]? = none)
    (hQ : ∀ h', Heap.ExtBut it s.heap h' → Q none { s with heap := h' }) : wpAny (model prog w) A (pyNext (.ref it)) Q E s := by
  obtain ⟨o, ho, hc, hd⟩ := id hit
  unfold pyNext
  refine wpAny_bind (wpAny_attempt (wpAny_callSpecial?_slot (name := Str.ofString "__next__") hit.ty sit_slot_next
    (wpAny_call_entry sit_slot_next hit.ty sit_entry_next ?_ (sit_args_next _))))
  show wpAny _ _ (fieldsOf (.ref it) >>= _) _ _ s
  refine wpAny_bind (wpAny_fieldsOf ho hd ?_)
  show wpAny _ _ (setEntries S >>= _) _ _ s
  refine wpAny_bind (wpAny_bind (wpAny_setState_of hS rfl hf (wpAny_pure ?_)))
  show wpAny _ _ (if ((es.size : Int) != (n : Int)) = true then _ else _) _ _ s
  rw [if_neg (by simp [hn])]
  show wpAny _ _ (seqItems? (.ref T) >>= _) _ _ s
  refine wpAny_bind (wpAny_seqItems hT rfl ?_)
  simp only [Int.toNat_natCast, hp]
  refine wpAny_bind (wpAny_setField ho hd (by simp) ?_)
  have ho1 := Heap.get?_update_self (Obj.mapFields (·.setIfInBounds 0 (rawInt 0))) ho (Obj.isFreed_of_fields (Obj.data_mapFields hd _))
  have hd1 := Obj.data_mapFields hd (·.setIfInBounds 0 (rawInt 0))
  refine wpAny_bind (wpAny_setField ho1 hd1 (by simp) ?_)
  show wpAny _ _ (newExc (.type "StopIteration") [] >>= _) _ _ _
  refine wpAny_bind ?_
  simp only [newExc, newTuple]
  refine wpAny_bind (wpAny_newObj_type ?_ (by size_fits))
  refine wpAny_bind (m := firstArgMember _ _) (wpAny_of_eq (a := Value.none) (by first | rfl | (simp only [firstArgMember]; rfl)) ?_)
  refine wpAny_newObj_type ?_ (by size_fits)
  simp only [raiseNew]
  refine wpAny_bind (wpAny_handled ?_)
  rw [show A.in1.handled = none from hh]
  refine wpAny_bind (wpAny_pure (wpAny_throw ?_))
  refine wpAny_bind (wpAny_isInstance (T := "StopIteration") (b := true) ⟨_, Heap.get?_push_size _ rfl, rfl⟩ isSubtype_stop ?_)
  exact wpAny_pure (hQ _ ((((Heap.SameBut.update ..).trans (Heap.SameBut.update ..)).extBut.push _).push _))

theorem setNext_text {S i ep : Nat} {slot : Nat} {es : Array (Int × Value)} {t : SetTable} (hS : s.heap.get? S = some (setO es ep t)) (hf : t.fits es.size = true) (hb : w.params.followText "set-order" = true)
    (Q' : Option (Value × Nat) → Shared → Prop) (E' : Value → Shared → Prop) (h : Q' (((pickOrder (w.params.setOrder S ep) es)[i]?).map fun e => (e.2, slot)) s) : wpAny (model prog w) A (setNext S slot i ep) Q' E' s := by
  unfold setNext
  refine wpAny_bind (wpAny_setState_of hS rfl hf ?_)
  refine wpAny_bind (wpAny_bind (wpAny_askSetting (wpAny_pure ?_)))
  show wpAny _ _ (if w.params.followText "set-order" = true then _ else _) _ _ _
  rw [if_pos hb]
  show wpAny _ _ (if (ep != ep) = true then _ else _) _ _ s
  rw [if_neg (by simp)]
  refine wpAny_bind ?_
  unfold setWalk
  refine wpAny_bind (wpAny_setState_of hS rfl hf ?_)
  refine wpAny_bind (wpAny_bind (wpAny_askSetting (wpAny_pure ?_)))
  show wpAny _ _ (if w.params.followText "set-order" = true then _ else _) _ _ _
  rw [if_pos hb]
  exact wpAny_bind (wpAny_askSetting (wpAny_pure (wpAny_pure h)))
theorem setNext_small {S i ep : Nat} {slot : Nat} {es : Array (Int × Value)} {t : SetTable} (hS : s.heap.get? S = some (setO es ep t)) (hf : t.fits es.size = true) (hb : w.params.followText "set-order" = false) (hz : es.size ≤ 1) (hl : 0 < es.size → t.led = true)
    (Q' : Option (Value × Nat) → Shared → Prop) (E' : Value → Shared → Prop) (h : Q' (match es[SetTable.below t.place slot]?, t.place[SetTable.below t.place slot]? with | some (_, x), some j => some (x, j + 1) | _, _ => none) s) : wpAny (model prog w) A (setNext S slot i ep) Q' E' s := by
  unfold setNext
  refine wpAny_bind (wpAny_setState_of hS rfl hf ?_)
  refine wpAny_bind (wpAny_bind (wpAny_askSetting (wpAny_pure ?_)))
  show wpAny _ _ (if w.params.followText "set-order" = true then _ else _) _ _ _
  rw [if_neg (by rw [hb]; decide)]
  show wpAny _ _ (if (!t.plain && decide (es.size > 1)) = true then _ else _) _ _ _
  rw [if_neg (by rw [decide_eq_false (by omega)]; simp)]
  refine wpAny_bind ?_
  show wpAny _ _ (if (!t.led && !es.isEmpty) = true then _ else _) _ _ _
  rw [if_neg ?_]
  · exact wpAny_pure (wpAny_pure h)
  · rcases Nat.eq_zero_or_pos es.size with q | q
    · have : es = #[] := Array.eq_empty_of_size_eq_zero q
      subst this; simp
    · rw [hl q]; simp

theorem pickGo {α : Type} (next : Nat → Nat) : ∀ (fuel k : Nat) (left : List α) (out : Array α), left.length = fuel → (pickOrder.go next fuel k left out).toList.Perm (out.toList ++ left)
  | 0, k, left, out, h => by
    have : left = [] := List.length_eq_zero_iff.mp h
    subst this
    unfold pickOrder.go
    simp
  | fuel + 1, k, left, out, h => by
    have hi : next k % left.length < left.length := Nat.mod_lt _ (by omega)
    unfold pickOrder.go
    rw [List.getElem?_eq_getElem hi]
    dsimp only
    refine (pickGo next fuel (k + 1) _ _ (by rw [List.length_eraseIdx_of_lt hi]; omega)).trans ?_
    rw [Array.toList_push, List.append_assoc]
    exact List.Perm.append_left _ (erase_perm _ _ hi)
theorem pick_perm {α : Type} (next : Nat → Nat) (xs : Array α) : (pickOrder next xs).toList.Perm xs.toList := by
  unfold pickOrder
  simpa using pickGo next xs.size 0 xs.toList #[] (by simp)

theorem IsSetIter.at {h h' : Heap} {it : Addr} {first : Value} {i S n ep : Nat} (y : IsSetIter h it first i S n ep) (hk : ∀ o, h.get? it = some o → h'.get? it = some o) : IsSetIter h' it first i S n ep := let ⟨o, ho, r⟩ := y; ⟨o, hk _ ho, r⟩

theorem walks_text (hh : A.handled = none) (I S : Addr) (hne : S ≠ I) {ep : Nat} {es : Array (Int × Value)} {t : SetTable} (hf : t.fits es.size = true) (hb : w.params.followText "set-order" = true) :
    Walks prog w A I [I, S] [I] es.size (fun i v => ∃ e, (pickOrder (w.params.setOrder S ep) es)[i]? = some e ∧ v = e.2) (fun i h => IsSetIter h I (.int (0 : Nat) 0) i S es.size ep ∧ h.get? S = some (setO es ep t)) where
  sub := fun b hb => by simp at hb; simp [hb]
  frame := fun _ _ _ st hk => ⟨st.1.at fun o e => hk I (by simp) o e, hk S (by simp) _ st.2⟩
  item := fun i s Q E hi st hQ => by
    have hsz : (pickOrder (w.params.setOrder S ep) es).size = es.size := by rw [← Array.length_toList, (pick_perm _ _).length_eq, Array.length_toList]
    have he := Array.getElem?_eq_getElem (xs := pickOrder (w.params.setOrder S ep) es) (i := i) (by (with_reducible exact Mine.om_eqr' (by assumption) (by assumption)))
    refine sit_item_int (nxt := 0) (x := (pickOrder (w.params.setOrder S ep) es)[i].2) st.1 st.2 hf rfl (fun Q' E' h => setNext_text st.2 hf hb Q' E' (by rw [he]; exact h)) fun h' hit' hs' => ?_
    exact hQ _ h' s.toks ⟨_, he, rfl⟩ ⟨hit', (hs'.2 S hne).trans st.2⟩ fun b o hb e => hs'.extBut b o (fun h => hb (by simp [h])) e
  done := fun s Q E st hQ => by
    have hsz : (pickOrder (w.params.setOrder S ep) es).size = es.size := by rw [← Array.length_toList, (pick_perm _ _).length_eq, Array.length_toList]
    refine sit_end_int hh st.1 st.2 hf rfl (fun Q' E' h => setNext_text st.2 hf hb Q' E' (by rw [Array.getElem?_eq_none (by omega)]; exact h)) fun h' he' => ?_
    exact hQ h' s.toks fun b o hb e => he' b o (fun h => hb (by simp [h])) e
  self := fun _ _ _ _ st hQ => pyIter_sit st.1 hQ

theorem walks_drawn (hh : A.handled = none) (I S T : Addr) (hne : S ≠ I) (hTI : T ≠ I) {ep : Nat} {es : Array (Int × Value)} {t : SetTable} {c : Nat} {ps : List Nat} (hf : t.fits es.size = true) (hp : ps.Perm (List.range es.size)) :
    Walks prog w A I [I, S, T] [I] es.size (fun i v => ∃ p e, ps[i]? = some p ∧ es[p]? = some e ∧ v = e.2) (fun i h => IsSetIter h I (.ref T) i S es.size ep ∧ h.get? S = some (setO es ep t) ∧ h.get? T = some ({ cls := .type "tuple", data := .seq (ps.map fun (i : Nat) => rawInt i).toArray c } : Obj)) where
  sub := fun b hb => by simp at hb; simp [hb]
  frame := fun _ _ _ st hk => ⟨st.1.at fun o e => hk I (by simp) o e, hk S (by simp) _ st.2.1, hk T (by simp) _ st.2.2⟩
  item := fun i s Q E hi st hQ => by
    have hsz : ps.length = es.size := by rw [hp.length_eq, List.length_range]
    have h1 : i < ps.length := by (with_reducible exact Mine.om_eqr' (by assumption) (by assumption))
    have he := List.getElem?_eq_getElem h1
    have hlt : ps[i] < es.size := List.mem_range.mp (hp.mem_iff.mp (List.getElem_mem h1))
    have he2 := Array.getElem?_eq_getElem hlt
    refine sit_item_tup (p := ps[i]) (e := es[ps[i]]) st.1 st.2.1 hf rfl st.2.2 (by simp [he, rawInt]) he2 fun h' hit' hs' => ?_
    exact hQ _ h' s.toks ⟨_, _, he, he2, rfl⟩ ⟨hit', (hs'.2 S hne).trans st.2.1, (hs'.2 T hTI).trans st.2.2⟩ fun b o hb e => hs'.extBut b o (fun h => hb (by simp [h])) e
  done := fun s Q E st hQ => by
    have hsz : ps.length = es.size := by rw [hp.length_eq, List.length_range]
    refine sit_end_tup hh st.1 st.2.1 hf rfl st.2.2 (by simp [hsz]) fun h' he' => ?_
    exact hQ h' s.toks fun b o hb e => he' b o (fun h => hb (by simp [h])) e
  self := fun _ _ _ _ st hQ => pyIter_sit st.1 hQ

theorem below_one (p : Nat) : SetTable.below #[p] 0 = 0 ∧ SetTable.below #[p] (p + 1) = 1 := by
  constructor <;> simp [SetTable.below, SetTable.below.go]

theorem walks_small (hh : A.handled = none) (I S : Addr) (hne : S ≠ I) {ep : Nat} {es : Array (Int × Value)} {t : SetTable} (hf : t.fits es.size = true) (hb : w.params.followText "set-order" = false) (hz : es.size ≤ 1) (hl : 0 < es.size → t.led = true) :
    Walks prog w A I [I, S] [I] es.size (fun i v => ∃ e, es[i]? = some e ∧ v = e.2) (fun i h => IsSetIter h I (.int ((if i = 0 then 0 else t.place.getD 0 0 + 1 : Nat) : Int) 0) i S es.size ep ∧ h.get? S = some (setO es ep t)) where
  sub := fun b hb => by simp at hb; simp [hb]
  frame := fun _ _ _ st hk => ⟨st.1.at fun o e => hk I (by simp) o e, hk S (by simp) _ st.2⟩
  item := fun i s Q E hi st hQ => by
    have hi0 : i = 0 := by omega
    subst hi0
    have hps : t.place.size = 1 := by
      have := hf
      unfold SetTable.fits at this
      simp at this
      omega
    obtain ⟨p, hp⟩ : ∃ p, t.place = #[p] := by
      refine ⟨t.place[0], ?_⟩
      apply Array.ext
      · simp [hps]
      · intro j h1 h2
        have : j = 0 := by omega
        subst this; rfl
    have he := Array.getElem?_eq_getElem (xs := es) (i := 0) (by (with_reducible assumption))
    refine sit_item_int (nxt := p + 1) (x := es[0].2) st.1 st.2 hf rfl (fun Q' E' h => setNext_small st.2 hf hb hz hl Q' E' ?_) fun h' hit' hs' => ?_
    · rw [hp]
      simp only [if_true]
      rw [show ((0 : Nat) : Int).toNat = 0 from rfl, (below_one p).1, he]
      exact h
    · refine hQ _ h' s.toks ⟨_, he, rfl⟩ ⟨?_, (hs'.2 S hne).trans st.2⟩ fun b o hb e => hs'.extBut b o (fun h => hb (by simp [h])) e
      rw [hp]
      exact hit'
  done := fun s Q E st hQ => by
    refine sit_end_int hh st.1 st.2 hf rfl (fun Q' E' h => setNext_small st.2 hf hb hz hl Q' E' ?_) fun h' he' => ?_
    · rcases Nat.eq_zero_or_pos es.size with q | q
      · have : es = #[] := Array.eq_empty_of_size_eq_zero q
        subst this
        simpa using h
      · have q1 : es.size = 1 := by omega
        have hps : t.place.size = 1 := by
          have := hf
          unfold SetTable.fits at this
          simp at this
          omega
        obtain ⟨p, hp⟩ : ∃ p, t.place = #[p] := by
          refine ⟨t.place[0], ?_⟩
          apply Array.ext
          · simp [hps]
          · intro j h1 h2
            have : j = 0 := by omega
            subst this; rfl
        rw [hp, q1]
        show Q' (match es[SetTable.below #[p] (p + 1)]?, (#[p] : Array Nat)[SetTable.below #[p] (p + 1)]? with | some (_, x), some j => some (x, j + 1) | _, _ => none) s
        rw [(below_one p).2, Array.getElem?_eq_none (by (with_reducible assumption))]
        exact h
    · exact hQ h' s.toks fun b o hb e => he' b o (fun h => hb (by simp [h])) e
  self := fun _ _ _ _ st hQ => pyIter_sit st.1 hQ
end

noncomputable def vStr : Value → Str
  | .str x _ => x
  | _ => ⟨#[]⟩

section
variable {g : Gr} {A : Around} {s : Shared} {σ : Store} {n : Nat} {env : Env} {ℓ : Loc}

theorem itr_set {I : Addr} {es : Array (Int × Value)} {t : SetTable} {l : List Str} {order : List (Int × Value)} {fp : List Addr} {P : Nat → Value → Prop} {St : Nat → Heap → Prop} {s' : Shared} (D : SetData g.w.params es t l) (hperm : order.Perm es.toList)
    (W : Walks g.prog g.w A I fp [I] es.size P St) (hP : ∀ i v, P i v → ∃ e, order[i]? = some e ∧ v = e.2) (h0 : St 0 s'.heap) (p : Post g [] s σ s' σ) (hI : s.heap.get? I = none)
    (hfp : ∀ i h, St i h → ∀ b ∈ fp, ∃ o, h.get? b = some o ∧ (Fz o ∨ Fl o)) (hit : ∀ i h, St i h → ∃ o, h.get? I = some o ∧ Fl o) (hoff : ∀ b ∈ fp, b ∉ dom σ) :
    Itr g A s σ ((order.map fun e => vStr e.2).map .str) (.ref I) s' σ := by
  have hlen : es.size = ((order.map fun e => vStr e.2).map AV.str).length := by simp [hperm.length_eq]
  rw [hlen] at W
  refine ⟨I, fp, [I], P, St, rfl, W, h0, p, by simp, ?_, hfp, ?_, hoff, ?_⟩
  · intro b hb; rw [List.mem_singleton.mp hb]; exact hI
  · intro i h st b hb; rw [List.mem_singleton.mp hb]; exact hit i h st
  · intro h' D' k i v hi hv
    obtain ⟨e, he, rfl⟩ := hP i v hv
    obtain ⟨x, tk, rfl⟩ := D.elem e (hperm.mem_iff.mp (List.mem_of_getElem? he))
    exact ⟨.str x, by simp [he, vStr], .str _ _⟩
theorem order_mem {es : Array (Int × Value)} {t : SetTable} {l : List Str} {P : Params} {order : List (Int × Value)} (D : SetData P es t l) (hperm : order.Perm es.toList) (x : Str) : x ∈ order.map (fun e => vStr e.2) ↔ x ∈ l := by
  rw [D.mem x]
  constructor
  · intro h
    obtain ⟨e, he, rfl⟩ := List.mem_map.mp h
    have he' := hperm.mem_iff.mp he
    obtain ⟨y, tk, rfl⟩ := D.elem e he'
    exact ⟨_, he', tk, rfl⟩
  · rintro ⟨e, he, tk, q⟩
    exact List.mem_map.mpr ⟨e, hperm.mem_iff.mpr he, by rw [q]; rfl⟩

theorem iter_set {v : Value} {l : List Str} {Q : Value → Shared → Prop} (hr : Room n A) (hS : SIg g σ s.heap) (rv : RepV s.heap (dom σ) v (.sset g.w.params l))
    (h : ∀ items : List Str, (∀ x, x ∈ items ↔ x ∈ l) → items.length < 4096 → ∀ it s', Itr g A s σ (items.map .str) it s' σ → Q it s') : wpAny (model g.prog g.w) A (pyIter v) Q (fun _ _ => False) s := by
  cases rv with
  | @sset a o _ _ e nb hset =>
    obtain ⟨es, ep, t, rfl, D⟩ := hset
    have hT : s.TypeIs (.ref a) "set" := ⟨_, e, rfl⟩
    have e' : s.heap.get? a = some (setO es ep t) := e
    have hn := get_none_of_ge (h := s.heap) (Nat.le_refl _)
    have hne : a ≠ s.heap.objs.size := Nat.ne_of_lt (Heap.lt_size e)
    refine wpAny_pyIter_slot hT PySem.F.slot_set_iter (wpAny_call_entry PySem.F.slot_set_iter hT set_entry_iter ?_ (PySem.F.args_set_iter_1 _))
    show wpAny _ _ (Builtin.Frozenset.sizeOf a >>= _) _ _ s
    refine wpAny_bind (wpAny_bind (wpAny_bind (wpAny_setState_of e' rfl D.fits (wpAny_pure (wpAny_pure ?_)))))
    refine wpAny_bind ?_
    unfold setDrawn
    refine wpAny_bind (wpAny_setState_of e' rfl D.fits ?_)
    refine wpAny_bind (wpAny_bind (wpAny_askSetting (wpAny_pure (wpAny_pure ?_))))
    show wpAny _ _ (if (!g.w.params.followText "set-order" && (!t.plain && decide (es.size > 1))) = true then _ else _) _ _ _
    have fin : ∀ (s₁ : Shared) (first : Value), s₁.heap.get? a = some (setO es ep t) → (IsSetIter (s₁.heap.push { cls := .type "set_iterator", data := .fields #[first, .int 0 0, .ref a, .int es.size 0, .int ep 0] }) s₁.heap.objs.size first 0 a es.size ep → Q (.ref s₁.heap.objs.size) { s₁ with heap := s₁.heap.push { cls := .type "set_iterator", data := .fields #[first, .int 0 0, .ref a, .int es.size 0, .int ep 0] } }) →
        wpAny (model g.prog g.w) A.in1 (do ret (← newFields "set_iterator" [first, rawInt 0, .ref a, rawInt es.size, rawInt (← setEpoch a)])) (fun fin s' => ∃ v, fin = .done (.ret v) ∧ ∃ T' r, s'.TypeIs v T' ∧ typeLookup (.type T') "__next__" = pure (some r) ∧ Q v s') (fun _ _ => False) s₁ := fun s₁ first e₁ h₁ => by
      refine wpAny_bind (wpAny_bind (wpAny_setState_of e₁ rfl D.fits (wpAny_pure ?_)))
      exact wpAny_bind (wpAny_newObj_type (wpAny_pure ⟨_, rfl, "set_iterator", _, ⟨_, Heap.get?_push_size _ rfl, rfl⟩, sit_slot_next.lookup, h₁ ⟨_, Heap.get?_push_size _ rfl, rfl, rfl⟩⟩))
    have fl : ∀ {h : Heap} {it : Addr} {first : Value} {i : Nat}, IsSetIter h it first i a es.size ep → ∃ o, h.get? it = some o ∧ Fl o := fun {h it first i} ⟨o, ho, hc, hd⟩ => ⟨o, ho, fl_of hc hd (by decide)⟩
    have fzS : Fz (setO es ep t) := trivial
    by_cases hb : g.w.params.followText "set-order" = true
    · rw [if_neg (by rw [hb]; simp)]
      refine wpAny_bind (wpAny_pure (fin s (rawInt 0) e' fun hit => ?_))
      have hperm := pick_perm (g.w.params.setOrder a ep) es
      refine h _ (order_mem D hperm) (by simp [hperm.length_eq]; exact D.bound) _ _ (itr_set D hperm (walks_text hr.1 _ a hne D.fits hb) ?_ ⟨hit, Heap.get?_push_of_some _ e'⟩ (.frz hS) hn ?_ (fun i h st => fl st.1) ?_)
      · rintro i v ⟨e, he, rfl⟩; exact ⟨e, by simpa using he, rfl⟩
      · intro i h st b hb
        rcases List.mem_cons.mp hb with rfl | hb
        · obtain ⟨o, ho, f⟩ := fl st.1; exact ⟨o, ho, .inr f⟩
        · rw [List.mem_singleton.mp hb]; exact ⟨_, st.2, .inl fzS⟩
      · intro b hb
        rcases List.mem_cons.mp hb with rfl | hb
        · exact new_off' hS
        · rw [List.mem_singleton.mp hb]; exact nb
    · have hb' : g.w.params.followText "set-order" = false := by simpa using hb
      by_cases hz : es.size ≤ 1
      · rw [if_neg (by rw [decide_eq_false (by omega)]; simp)]
        refine wpAny_bind (wpAny_pure (fin s (rawInt 0) e' fun hit => ?_))
        refine h _ (order_mem D (.refl _)) (by simp; exact D.bound) _ _ (itr_set D (.refl _) (walks_small hr.1 _ a hne D.fits hb' hz (D.led hb')) ?_ ⟨hit, Heap.get?_push_of_some _ e'⟩ (.frz hS) hn ?_ (fun i h st => fl st.1) ?_)
        · rintro i v ⟨e, he, rfl⟩; exact ⟨e, by simpa using he, rfl⟩
        · intro i h st b hb
          rcases List.mem_cons.mp hb with rfl | hb
          · obtain ⟨o, ho, f⟩ := fl st.1; exact ⟨o, ho, .inr f⟩
          · rw [List.mem_singleton.mp hb]; exact ⟨_, st.2, .inl fzS⟩
        · intro b hb
          rcases List.mem_cons.mp hb with rfl | hb
          · exact new_off' hS
          · rw [List.mem_singleton.mp hb]; exact nb
      · rw [if_pos (by rw [hb', D.plain (by omega), decide_eq_true (by omega)]; rfl)]
        refine wpAny_bind (drawOrder_ok _ _ _ _ (by simp) ?_)
        rintro ps s₁ hp ⟨d, rfl⟩
        have hpl : ps.length = es.size := by rw [hp.length_eq, List.length_range]
        have hbd := D.bound
        refine wpAny_bind (wpAny_newTuple ?_ (by rw [List.length_map, hpl]; unfold sizeLine; unfold scanBound at hbd; (with_reducible exact Mine.om_ltle (by assumption) (by decide))))
        have p1 : Post g [] s σ { s with drawn := d, heap := s.heap.push { cls := .type "tuple", data := .seq (ps.map fun (i : Nat) => rawInt i).toArray } } σ := by
          have := Post.frz (o := { cls := .type "tuple", data := .seq (ps.map fun (i : Nat) => rawInt i).toArray }) hS
          exact ⟨this.si, this.ext, this.gens, this.os⟩
        refine fin _ _ (Heap.get?_push_of_some _ e') fun hit => ?_
        have hperm : (ps.map fun p => (es[p]?).getD (0, .none)).Perm es.toList := by
          refine (hp.map _).trans ?_
          have : (List.range es.size).map (fun p => (es[p]?).getD (0, .none)) = es.toList := by
            apply List.ext_getElem
            · simp
            · intro i h1 h2
              have h3 : i < es.size := by simpa using h2
              simp [h3]
          rw [this]
        have hTn : s.heap.get? s.heap.objs.size = none := hn
        have hsz : (s.heap.push { cls := .type "tuple", data := .seq (ps.map fun (i : Nat) => rawInt i).toArray }).objs.size = s.heap.objs.size + 1 := Heap.size_push ..
        have hTne : s.heap.objs.size ≠ (s.heap.push { cls := .type "tuple", data := .seq (ps.map fun (i : Nat) => rawInt i).toArray }).objs.size := by rw [hsz]; omega
        have hlt := Heap.lt_size e
        have hane : a ≠ (s.heap.push { cls := .type "tuple", data := .seq (ps.map fun (i : Nat) => rawInt i).toArray }).objs.size := by rw [hsz]; exact Nat.ne_of_lt (Nat.lt_succ_of_lt hlt)
        refine h _ (order_mem D hperm) (by simp [hpl]; exact D.bound) _ _ (itr_set D hperm (walks_drawn hr.1 _ a s.heap.objs.size hane hTne (c := 0) D.fits hp) ?_ ⟨hit, Heap.get?_push_of_some _ (Heap.get?_push_of_some _ e'), Heap.get?_push_of_some _ (Heap.get?_push_size _ rfl)⟩ (p1.trans (.frz p1.si)) ?_ ?_ (fun i h st => fl st.1) ?_)
        · rintro i v ⟨p, e, h1, h2, rfl⟩
          exact ⟨e, by simp [h1, h2], rfl⟩
        · exact get_none_of_ge (by show _ ≤ (s.heap.push _).objs.size; rw [hsz]; omega)
        · intro i h st b hb
          rcases List.mem_cons.mp hb with rfl | hb
          · obtain ⟨o, ho, f⟩ := fl st.1; exact ⟨o, ho, .inr f⟩
          · rcases List.mem_cons.mp hb with rfl | hb
            · exact ⟨_, st.2.1, .inl fzS⟩
            · rw [List.mem_singleton.mp hb]; exact ⟨_, st.2.2, .inl trivial⟩
        · intro b hb
          rcases List.mem_cons.mp hb with rfl | hb
          · exact new_off' p1.si
          · rcases List.mem_cons.mp hb with rfl | hb
            · exact nb
            · rw [List.mem_singleton.mp hb]; exact new_off' hS

theorem EI_set {e : Expr} {Q : List AV → Store → Prop} (h : EV g n env e ℓ σ fun d σ₁ => ∃ l, d = .sset g.w.params l ∧ ∀ items : List Str, (∀ x, x ∈ items ↔ x ∈ l) → items.length < 4096 → Q (items.map .str) σ₁) : EI g n env e ℓ σ Q := by
  intro A s hr hs hf
  refine wpAny_mono (h A s hr hs hf) ?_ fun _ _ f => f
  rintro v s₁ ⟨d, σ₁, ⟨l, rfl, q⟩, rv, p₁⟩
  exact iter_set hr p₁.si rv fun items h1 h2 it s₂ x => ⟨_, σ₁, q items h1 h2, x.weak p₁⟩
end
end Mine

end
/- part Core18 -/
section
open PySem PySem.W PyProof.Rows
set_option Elab.async false
namespace Mine
open PySem PySem.W PyProof.Rows PySem.Calls PySem.Spec

noncomputable def keysA (l : List (Str × AV)) : List Str := l.map (·.1)
noncomputable def getA (l : List (Str × AV)) (x : Str) : Option AV := l.lookup x
noncomputable def putA (l : List (Str × AV)) (x : Str) (d : AV) : List (Str × AV) :=
  if x ∈ l.map (·.1) then l.map (fun p => if p.1 = x then (p.1, d) else p) else l ++ [(x, d)]

section
variable {prog : Program} {w : World}
inductive RepK (h : Heap) (D : List Addr) : List (Str × Value) → List (Str × AV) → Prop
  | nil : RepK h D [] []
  | cons {x v d kvs l} : RepV h D v d → RepK h D kvs l → RepK h D ((x, v) :: kvs) ((x, d) :: l)
theorem RepK.keep {h h' : Heap} {D D' : List Addr} (k : KeepsF h D h' D') : ∀ {kvs : List (Str × Value)} {l : List (Str × AV)}, RepK h D kvs l → RepK h' D' kvs l
  | _, _, .nil => .nil
  | _, _, .cons x r => .cons (x.keep k) (RepK.keep k r)
theorem RepK.keys {h : Heap} {D : List Addr} : ∀ {kvs : List (Str × Value)} {l : List (Str × AV)}, RepK h D kvs l → kvs.map (·.1) = l.map (·.1)
  | _, _, .nil => rfl
  | _, _, .cons _ r => by rw [List.map_cons, List.map_cons, RepK.keys r]
theorem RepK.valueAt {h : Heap} {D : List Addr} {x : Str} : ∀ {kvs : List (Str × Value)} {l : List (Str × AV)} {d : AV}, RepK h D kvs l → l.lookup x = some d → ∃ v, PySem.valueAt kvs x = some v ∧ RepV h D v d
  | _, _, _, .nil, e => by simp at e
  | _, _, _, .cons (x := y) rv r, e => by
    rw [List.lookup_cons] at e
    by_cases hx : x = y
    · subst hx
      rw [show (x == x) = true from beq_self_eq_true x] at e
      cases e
      exact ⟨_, by simp [PySem.valueAt], rv⟩
    · rw [beq_eq_false_iff_ne.mpr hx] at e
      obtain ⟨v, e', r'⟩ := RepK.valueAt r e
      refine ⟨v, ?_, r'⟩
      have : ¬ y = x := fun q => hx q.symm
      unfold PySem.valueAt at e' ⊢
      rw [List.find?_cons]
      simp only [decide_eq_false this]
      exact e'
theorem RepK.isSome {h : Heap} {D : List Addr} {x : Str} : ∀ {kvs : List (Str × Value)} {l : List (Str × AV)}, RepK h D kvs l → (PySem.valueAt kvs x).isSome = decide (x ∈ l.map (·.1))
  | _, _, .nil => by simp [PySem.valueAt]
  | _, _, .cons (x := y) rv r => by
    have ih := RepK.isSome (x := x) r
    unfold PySem.valueAt at ih ⊢
    rw [List.find?_cons]
    by_cases hx : y = x
    · subst hx; simp
    · simp only [decide_eq_false hx]
      rw [ih]
      have : ¬ x = y := fun q => hx q.symm
      simp [this]
theorem RepK.map {h : Heap} {D : List Addr} {x : Str} {v : Value} {d : AV} (rv : RepV h D v d) : ∀ {kvs : List (Str × Value)} {l : List (Str × AV)}, RepK h D kvs l →
    RepK h D (kvs.map fun kv => if kv.1 = x then (kv.1, v) else kv) (l.map fun p => if p.1 = x then (p.1, d) else p)
  | _, _, .nil => .nil
  | _, _, .cons (x := y) rw' r => by
    rw [List.map_cons, List.map_cons]
    by_cases hx : y = x
    · rw [if_pos hx, if_pos hx]; exact .cons rv (RepK.map rv r)
    · rw [if_neg hx, if_neg hx]; exact .cons rw' (RepK.map rv r)
theorem RepK.append {h : Heap} {D : List Addr} {x : Str} {v : Value} {d : AV} (rv : RepV h D v d) : ∀ {kvs : List (Str × Value)} {l : List (Str × AV)}, RepK h D kvs l → RepK h D (kvs ++ [(x, v)]) (l ++ [(x, d)])
  | _, _, .nil => .cons rv .nil
  | _, _, .cons y r => .cons y (RepK.append rv r)
theorem RepK.stored {h : Heap} {D : List Addr} {x : Str} {v : Value} {d : AV} (rv : RepV h D v d) {kvs : List (Str × Value)} {l : List (Str × AV)} (r : RepK h D kvs l) : RepK h D (PySem.stored kvs x v) (putA l x d) := by
  have hk := r.keys
  unfold PySem.stored putA
  have e : (kvs.any fun kv => decide (kv.1 = x)) = decide (x ∈ l.map (·.1)) := by
    rw [← hk, Bool.eq_iff_iff, List.any_eq_true, decide_eq_true_iff, List.mem_map]
    constructor
    · rintro ⟨p, hp, q⟩; exact ⟨p, hp, by simpa using q⟩
    · rintro ⟨p, hp, q⟩; exact ⟨p, hp, by simpa using q⟩
  by_cases hx : x ∈ l.map (·.1)
  · rw [if_pos hx, if_pos (by rw [e]; exact decide_eq_true hx)]; exact r.map rv
  · rw [if_neg hx, if_neg (by rw [e, decide_eq_false hx]; simp)]; exact r.append rv

theorem repE_to {h : Heap} {D : List Addr} : ∀ {es : List DictEntry} {l : List (Str × AV)}, RepE w.params h D es l →
    ∃ kvs, Pairs (strKind prog w) es kvs ∧ RepK h D kvs l ∧ ∀ e ∈ es, ∃ k, (strKind prog w).is k e.key = true ∧ e.hash = (strKind prog w).hash k
  | _, _, .nil => ⟨[], .nil, .nil, by simp⟩
  | _, _, .cons (x := x) (tk := tk) (v := v) rv r => by
    obtain ⟨kvs, h1, h2, h3⟩ := repE_to r
    have hx : (strKind prog w).is x (.str x tk) = true := by show (x == x) = true; simp
    refine ⟨(x, v) :: kvs, .cons hx rfl h1, .cons rv h2, fun e he => ?_⟩
    rcases List.mem_cons.mp he with rfl | he
    · exact ⟨x, hx, rfl⟩
    · exact h3 e he
theorem repE_of {h : Heap} {D : List Addr} : ∀ {es : List DictEntry} {kvs : List (Str × Value)} {l : List (Str × AV)}, Pairs (strKind prog w) es kvs → RepK h D kvs l → (∀ e ∈ es, ∃ k, (strKind prog w).is k e.key = true ∧ e.hash = (strKind prog w).hash k) →
    RepE w.params h D es l
  | _, _, _, .nil, .nil, _ => .nil
  | e :: es, (x, v) :: kvs, (_, d) :: l, .cons h1 h2 h3, rk, hk => by
    cases rk with
    | cons rv r =>
      obtain ⟨k, q1, q2⟩ := hk e (.head _)
      obtain ⟨tk, q3⟩ := Value.isStrOf_shape h1
      have hkx : k = x := (strKind prog w).inj _ _ _ q1 h1
      obtain ⟨eh, ek, ev⟩ := e
      simp only at q2 q3 h2
      subst q3
      subst h2
      subst hkx
      subst q2
      exact .cons rv (repE_of h3 r fun e he => hk e (.tail _ he))
theorem dct_to {h : Heap} {D : List Addr} {a : Addr} {l : List (Str × AV)} (r : RepO w.params h D a (.dct l)) : ∃ kvs, h.DictOf (strKind prog w) a kvs ∧ RepK h D kvs l := by
  obtain ⟨es, n, e, nd, re⟩ := r
  obtain ⟨kvs, h1, h2, h3⟩ := repE_to (prog := prog) re
  exact ⟨kvs, ⟨_, es.toArray, n, e, ⟨rfl, rfl, rfl⟩, rfl, fun e he => h3 e (by simpa using he), by simpa using h1, by rw [h2.keys]; exact nd⟩, h2⟩
theorem dct_of {h : Heap} {D : List Addr} {a : Addr} {kvs : List (Str × Value)} {l : List (Str × AV)} (d : h.DictOf (strKind prog w) a kvs) (r : RepK h D kvs l) : RepO w.params h D a (.dct l) := by
  obtain ⟨o, es, ep, e, ⟨h1, h2, h3⟩, hd, hk, hp, nd⟩ := d
  refine ⟨es.toList, ep, ?_, by rw [← r.keys]; exact nd, repE_of hp r fun e he => hk e (by simpa using he)⟩
  rw [e]
  obtain ⟨oc, od, odt, os⟩ := o
  cases h1; cases h2; cases h3; cases hd
  simp
end

noncomputable def Big (g : Gr) : Prop := ∃ b o, g.K.lookup b = some o ∧ sysModules < b
theorem Big.ne {g : Gr} (B : Big g) (G : Gd g) {σ : Store} {h : Heap} (S : SIg g σ h) {a : Addr} (ha : h.objs.size ≤ a) : a ≠ sysModules := by
  obtain ⟨b, o, e, hb⟩ := B
  have := Heap.lt_size (S.base _ _ (G.kin _ _ e))
  rintro rfl
  exact absurd (Nat.lt_trans hb this) (Nat.not_lt.mpr ha)
section
variable {g : Gr} {A : Around} {s s₂ : Shared} {σ σ₂ : Store} {n : Nat} {env : Env} {ℓ : Loc}
theorem is_str (x : Str) (t : Tok) : (strKind g.prog g.w).is x (.str x t) = true := by show (x == x) = true; simp
theorem in_dct {a : Addr} {l : List (Str × AV)} {x : Str} {Q : AV → Store → Prop} (hM : a ≠ sysModules) (hl : σ.lookup a = some (.dct l)) (h : Q (.bool (decide (x ∈ l.map (·.1)))) σ) : CmpOk g n .In (.str x) (.raw (.ref a)) σ Q := by
  intro A s va vb hr hs ra rb
  cases ra; cases rb
  obtain ⟨kvs, hd, rk⟩ := dct_to (prog := g.prog) (hs.rep _ (mem_of_lookupA hl))
  have hne : (a == sysModules) = false := beq_eq_false_iff_ne.mpr hM
  refine wpAny_in_of (is_str _ _) hne hd.mapOf ⟨_, _, h, ?_, .tok hs _⟩
  rw [rk.isSome]
  exact .bool _
theorem item_dct {value slice : Expr} {a : Addr} {l : List (Str × AV)} {x : Str} {d : AV} {Q : AV → Store → Prop} (hl : σ.lookup a = some (.dct l)) (hx : l.lookup x = some d) (h : Q d σ)
    (hs : ∀ u, subscripted slice false (.ref a) (.str x u) = operate [.ref a, .str x u] (getItem (.ref a) (.str x u)) := by intro _; with_unfolding_all rfl) : ItemOk g n value slice (.raw (.ref a)) (.str x) σ Q := by
  intro A s vo vi hr hS ro ri
  cases ro; cases ri
  obtain ⟨kvs, hd, rk⟩ := dct_to (prog := g.prog) (hS.rep _ (mem_of_lookupA hl))
  obtain ⟨v, e, rv⟩ := rk.valueAt hx
  exact tail_any hd.typeIs slot_dict_getitem.lookup (wpAny_getItem_of (is_str _ _) hd.mapOf e ⟨d, σ, h, rv, .tok hS _⟩) (hs _)
theorem ES_storeD {o i e : Expr} {pos' pos : Pos} {Q : AF → Loc → Store → Prop}
    (h : EV g n env e ℓ σ fun d σ₁ => EV g n env o ℓ σ₁ fun od σ₂ => EV g n env i ℓ σ₂ fun id σ₃ => ∃ a l x, od = .raw (.ref a) ∧ id = .str x ∧ σ₃.lookup a = some (.dct l) ∧ l.length < 1000000 ∧ Q .next ℓ (upd σ₃ a (.dct (putA l x d))))
    (hs : swapsWith e (some (.Subscript o i pos')) pos.line env = pure false := by rfl) : ES g n env (.Assign [.Subscript o i pos'] e pos) ℓ σ Q := by
  refine ES_setitem (h.mono fun d σ₁ h₁ => h₁.mono fun od σ₂ h₂ => h₂.mono fun id σ₃ h₃ => ?_) hs
  obtain ⟨a, l, x, rfl, rfl, hl, hz, q⟩ := h₃
  intro A s v ov iv hr hS rv ro ri
  cases ro; cases ri
  obtain ⟨kvs, hd, rk⟩ := dct_to (prog := g.prog) (hS.rep _ (mem_of_lookupA hl))
  have hlen : kvs.length = l.length := by have := congrArg List.length rk.keys; simpa using this
  refine wpAny_setItem_pairs (is_str _ _) hd (fun h' hd' hsb => ⟨_, q, Post.upd (tk := s.toks + 1) hS hl hsb fun k' => ?_⟩) (by unfold sizeLine; (with_reducible exact Mine.om_eqle (by assumption) (by assumption) (by decide)))
  exact dct_of hd' ((rk.stored rv).keep k')
theorem EV_dict1 (G : Gd g) (B : Big g) {k v : Expr} {pos : Pos} {x : Str} {Q : AV → Store → Prop} (h : ∀ a, a ∉ dom σ → a ≠ sysModules → EV g n env k ℓ ((a, .dct []) :: σ) fun kd σ₁ => kd = .str x ∧ EV g n env v ℓ σ₁ fun d σ₂ => σ₂ = (a, .dct []) :: σ ∧ Q (.raw (.ref a)) ((a, .dct [(x, d)]) :: σ)) :
    EV g n env (.Dict [some k] [v] pos) ℓ σ Q := by
  intro A s hr hi hf
  obtain ⟨ha, p₀⟩ := Post.new (o := { cls := .type "dict", data := .dict #[] }) (ao := .dct []) hi rfl fun h' e k => ⟨[], 0, e, by simp, .nil⟩
  refine wpAny_Dict_walk (knd := strKind g.prog g.w) rfl rfl (by simp) (by simp) ?_
  refine pairTrees_cons_walk (wpAny_mono (h _ ha (B.ne G hi (Nat.le_refl _)) A _ hr p₀.si (hf.ext p₀.ext)) ?_ fun _ _ f => f)
  rintro kv s₁ ⟨kd, σ₁, ⟨rfl, h₁⟩, rk, p₁⟩
  refine wpAny_mono (h₁ A s₁ hr p₁.si ((hf.ext p₀.ext).ext p₁.ext)) ?_ fun _ _ f => f
  rintro vv s₂ ⟨d, σ₂, ⟨rfl, q⟩, rv, p₂⟩
  refine pairTrees_nil_walk ?_
  cases rk with
  | str _ tk =>
    have hl : List.lookup s.heap.objs.size ((s.heap.objs.size, AO.dct []) :: σ) = some (.dct []) := by simp
    obtain ⟨kvs, hd, rk⟩ := dct_to (prog := g.prog) (p₂.si.rep _ (mem_of_lookupA hl))
    cases rk
    refine ⟨[(x, vv)], ⟨is_str _ _, rfl, trivial⟩, hd, fun h' hd' hsb => ?_⟩
    have p₃ := Post.upd (o' := .dct [(x, d)]) (tk := s₂.toks + 1) p₂.si hl hsb fun k' => dct_of hd' ((RepK.cons rv .nil).keep k')
    rw [upd_head ha] at p₃
    exact ⟨_, _, q, .raw _, ((p₀.trans p₁).trans p₂).trans p₃⟩

theorem setOf_rep {v : Value} {l : List Str} {P : Params} (hP : P = g.w.params) (rv : RepV s.heap (dom σ) v (.sset P l)) : ∃ a, v = .ref a ∧ ∃ m, s.heap.SetOf (strKind g.prog g.w) a (fun k => decide (k ∈ l)) m := by
  subst hP
  cases rv with
  | @sset a o P l e nb S =>
    obtain ⟨es, ep, t, rfl, D⟩ := S
    exact ⟨a, rfl, es.size, _, es, ep, t, e, ⟨rfl, rfl, rfl⟩, rfl, elemsOf D, mem_iff D, D.bound, D.fits, rfl⟩
theorem in_set {l : List Str} {x : Str} {Q : AV → Store → Prop} (h : Q (.bool (decide (x ∈ l))) σ) : CmpOk g n .In (.str x) (.sset g.w.params l) σ Q := by
  intro A s va vb hr hs ra rb
  cases ra
  obtain ⟨a, rfl, m, hS⟩ := setOf_rep rfl rb
  exact wpAny_inSet_of (is_str _ _) rfl hS ⟨_, _, h, .bool _, .tok hs _⟩
theorem CALL_set0 {Q : AV → Store → Prop} (h : Q (.sset g.w.params []) σ) : CALL g n (.type "set") [] [] σ Q := by
  intro A s vs kvs hr hS ra ek rk
  have hk : kvs = [] := by simpa using ek
  subst hk
  cases ra
  refine call_set_0 fun led => ⟨_, σ, h, .sset (Heap.get?_push_size _ rfl) (new_off' hS) ⟨#[], 0, _, rfl, ⟨by simp, by simp, by decide, rfl, by simp, by simp⟩⟩, .frz hS⟩
theorem CALL_setL {o : AV} {ks : List Str} {Q : AV → Store → Prop} (w : View σ o (.lst (ks.map .str))) (hz : ks.length < 1000) (h : Q (.sset g.w.params ks) σ) : CALL g n (.type "set") [o] [] σ Q :=
  CALL_1 fun A s v hr hs rv => by
    obtain ⟨a, vs, k, rfl, e, rl⟩ := w.list hs rv
    have hl : s.heap.IsList a vs.toArray := ⟨_, e, rfl, k, rfl⟩
    have hlen := rl.length
    rw [List.length_map] at hlen
    refine call_set_strs (ks := ks) hr.1 hl (fun i v hv => ?_) (by simp [hlen]) (by simp [hlen]; unfold scanBound; omega) fun h' tk S hk => ?_
    · obtain ⟨d, hd, rd⟩ := rl.getV (k := i) (by simpa using hv)
      rw [List.getElem?_map] at hd
      cases q : ks[i]? with
      | none => rw [q] at hd; cases hd
      | some x =>
        rw [q] at hd; cases hd
        cases rd with
        | str _ t => exact ⟨x, t, rfl, rfl⟩
    · obtain ⟨es, ep, t, e', D, _, _⟩ := S
      have hk' : ∀ b ob, s.heap.get? b = some ob → h'.get? b = some ob := fun b ob q => hk b ob (Heap.lt_size q) q
      have P := Post.keeps (B := []) hs hk'
      exact ⟨_, σ, h, .sset e' (new_off' hs) ⟨es, ep, t, rfl, D⟩, ⟨P.si, P.ext, P.gens, P.os⟩⟩
end
end Mine

end
/- part Core19 -/
section
open PySem PySem.W PyProof.Rows
set_option Elab.async false
namespace Mine
open PySem PySem.W PyProof.Rows PySem.Calls PySem.Spec

theorem isStr_self (x : Str) (t : Tok) : (Value.str x t).isStr x = true := by show (x == x) = true; simp
theorem isStr_iff' (x y : Str) (t : Tok) : (Value.str x t).isStr y = decide (x = y) := by
  show (x == y) = _
  exact beqS x y
theorem lookIn_has {P : Params} {h : Heap} {D : List Addr} {n : Nat} {x : Str} : ∀ {es : List DictEntry} {l : List (Str × AV)} {d : AV}, RepE P h D es l → l.lookup x = some d → ∃ v, getL x es = some (some v) ∧ RepV h D v d
  | _, _, _, .nil, e => by simp at e
  | _, _, _, .cons (x := y) (tk := tk) rv r, e => by
    unfold getL
    rw [List.find?_cons]
    rw [List.lookup_cons] at e
    by_cases hx : x = y
    · subst hx
      rw [show (x == x) = true from beq_self_eq_true x] at e
      cases e
      rw [show (Value.str x tk).isStr x = true from isStr_self x tk]
      exact ⟨_, rfl, rv⟩
    · rw [beq_eq_false_iff_ne.mpr hx] at e
      obtain ⟨v, e', rv'⟩ := lookIn_has (n := n) r e
      refine ⟨v, ?_, rv'⟩
      rw [show (Value.str y tk).isStr x = false by rw [isStr_iff']; exact decide_eq_false fun q => hx q.symm]
      dsimp only
      unfold getL at e'
      split at e' <;> rename_i q <;> rw [q]
      · exact e'
      · split at e' <;> cases e'
theorem lookIn_no {P : Params} {h : Heap} {D : List Addr} {x : Str} : ∀ {es : List DictEntry} {l : List (Str × AV)}, RepE P h D es l → x ∉ l.map (·.1) → es.find? (·.key.isStr x) = none ∧ es.any (·.refKey) = false
  | _, _, .nil, _ => ⟨rfl, rfl⟩
  | _, _, .cons (x := y) (tk := tk) rv r, e => by
    rw [List.map_cons, List.mem_cons, not_or] at e
    obtain ⟨h1, h2⟩ := lookIn_no r e.2
    constructor
    · rw [List.find?_cons, show (Value.str y tk).isStr x = false by rw [isStr_iff']; exact decide_eq_false fun q => e.1 q.symm]
      exact h1
    · rw [List.any_cons, h2]; rfl
theorem getL_no {P : Params} {h : Heap} {D : List Addr} {x : Str} {es : List DictEntry} {l : List (Str × AV)} (r : RepE P h D es l) (hx : x ∉ l.map (·.1)) : getL x es = some none := by
  obtain ⟨h1, h2⟩ := lookIn_no r hx
  unfold getL
  rw [h1, h2]; rfl
theorem getL_some {P : Params} {h : Heap} {D : List Addr} {x : Str} {es : List DictEntry} {l : List (Str × AV)} (r : RepE P h D es l) : (getL x es).isSome = true := by
  by_cases hx : x ∈ l.map (·.1)
  · obtain ⟨⟨k, d⟩, hp, rfl⟩ := List.mem_map.mp hx
    have : ∃ d', l.lookup k = some d' := by
      clear r hx
      induction l with
      | nil => simp at hp
      | cons p l ih =>
        rw [List.lookup_cons]
        by_cases hk : k = p.1
        · subst hk; simp
        · rw [beq_eq_false_iff_ne.mpr hk]
          rcases List.mem_cons.mp hp with rfl | hp
          · exact absurd rfl hk
          · exact ih hp
    obtain ⟨d', e⟩ := this
    obtain ⟨v, e', _⟩ := lookIn_has (n := 0) r e
    show (getL k es).isSome = true
    rw [e']; rfl
  · rw [getL_no r hx]; rfl
theorem map_put_off {x : Str} {d : AV} : ∀ {l : List (Str × AV)}, x ∉ l.map (·.1) → (l.map fun p => if p.1 = x then (p.1, d) else p) = l
  | [], _ => rfl
  | p :: l, h => by
    rw [List.map_cons, List.mem_cons, not_or] at h
    rw [List.map_cons, if_neg fun q => h.1 q.symm, map_put_off h.2]
theorem RepE.append {P : Params} {h : Heap} {D : List Addr} {x : Str} {tk : Tok} {v : Value} {d : AV} (rv : RepV h D v d) : ∀ {es : List DictEntry} {l : List (Str × AV)}, RepE P h D es l → RepE P h D (es ++ [⟨PyData.keyHash P x, .str x tk, v⟩]) (l ++ [(x, d)])
  | _, _, .nil => .cons rv .nil
  | _, _, .cons y r => .cons y (RepE.append rv r)
theorem putL_off {x : Str} {hs : Int} {key v : Value} : ∀ {es : List DictEntry}, es.find? (·.key.isStr x) = none → putL x hs key v es = es ++ [⟨hs, key, v⟩]
  | [], _ => rfl
  | e :: r, h => by
    rw [List.find?_cons] at h
    cases q : e.key.isStr x with
    | true => rw [q] at h; cases h
    | false =>
      rw [q] at h
      unfold putL
      rw [if_neg (by rw [q]; simp), putL_off h]; rfl
theorem putL_map {P : Params} {h : Heap} {D : List Addr} {x : Str} {hs : Int} {key v : Value} {d : AV} (rv : RepV h D v d) : ∀ {es : List DictEntry} {l : List (Str × AV)}, RepE P h D es l → (l.map (·.1)).Nodup → x ∈ l.map (·.1) →
    RepE P h D (putL x hs key v es) (l.map fun p => if p.1 = x then (p.1, d) else p)
  | _, _, .nil, _, hx => by simp at hx
  | _, _, .cons (x := y) (tk := tk) rw' r, nd, hx => by
    rw [List.map_cons, List.nodup_cons] at nd
    rw [List.map_cons]
    unfold putL
    by_cases q : y = x
    · subst q
      rw [if_pos (isStr_self y tk), if_pos rfl, map_put_off nd.1]
      exact .cons rv r
    · rw [if_neg (by show ¬ (Value.str y tk).isStr x = true; rw [isStr_iff', decide_eq_false q]; simp), if_neg q]
      rw [List.map_cons, List.mem_cons] at hx
      exact .cons rw' (putL_map rv r nd.2 (hx.resolve_left fun z => q z.symm))
theorem putL_ok {P : Params} {h : Heap} {D : List Addr} {x : Str} {tk : Tok} {v : Value} {d : AV} (rv : RepV h D v d) {es : List DictEntry} {l : List (Str × AV)} (r : RepE P h D es l) (nd : (l.map (·.1)).Nodup) : RepE P h D (putL x (PyData.keyHash P x) (.str x tk) v es) (putA l x d) := by
  unfold putA
  by_cases hx : x ∈ l.map (·.1)
  · rw [if_pos hx]; exact putL_map rv r nd hx
  · rw [if_neg hx, putL_off (lookIn_no r hx).1]; exact r.append rv
theorem putA_nodup {l : List (Str × AV)} {x : Str} {d : AV} (nd : (l.map (·.1)).Nodup) : ((putA l x d).map (·.1)).Nodup := by
  unfold putA
  by_cases hx : x ∈ l.map (·.1)
  · rw [if_pos hx, List.map_map]
    have : (l.map ((fun p : Str × AV => p.1) ∘ fun p => if p.1 = x then (p.1, d) else p)) = l.map (·.1) := by
      apply List.map_congr_left
      intro p _
      show (if p.1 = x then (p.1, d) else p).1 = p.1
      split <;> rfl
    rw [this]; exact nd
  · rw [if_neg hx, List.map_append, List.map_cons, List.map_nil, List.nodup_append]
    exact ⟨nd, by simp, fun a ha b hb => by rw [List.mem_singleton.mp hb]; rintro rfl; exact hx ha⟩
theorem repE_length {P : Params} {h : Heap} {D : List Addr} : ∀ {es : List DictEntry} {l : List (Str × AV)}, RepE P h D es l → es.length = l.length
  | _, _, .nil => rfl
  | _, _, .cons _ r => by rw [List.length_cons, List.length_cons, repE_length r]
theorem putA_length (l : List (Str × AV)) (x : Str) (d : AV) : (putA l x d).length ≤ l.length + 1 := by
  unfold putA; split <;> simp

structure InstCls (g : Gr) (C : Addr) : Prop where
  ga : findIn g.K (.ref C) "__getattribute__" = some (some (.builtin "object.__getattribute__"))
  gt : findIn g.K (.ref C) "__getattr__" = some none
  sa : findIn g.K (.ref C) "__setattr__" = some (some (.builtin "object.__setattr__"))
  plain : plainOver g.K C = true
  has : ∃ cd, clsIn g.K C = some cd ∧ cd.hasDict = true

section
variable {g : Gr} {A : Around} {s s₂ : Shared} {σ σ₂ : Store} {n : Nat} {env : Env} {ℓ : Loc}
theorem inst_at {h : Heap} {v : Value} {C dx : Addr} {l : List (Str × AV)} (S : SIg g σ h) (hl : σ.lookup dx = some (.dct l)) (rv : RepV h (dom σ) v (.inst C dx)) :
    ∃ x es m, v = .ref x ∧ h.get? dx = some (dictOf es m) ∧ (l.map (·.1)).Nodup ∧ RepE g.w.params h (dom σ) es l ∧ InstAt h x (instObj C dx) C (some (dictOf es m)) := by
  cases rv with
  | inst e nb =>
    obtain ⟨es, m, e2, nd, re⟩ := S.rep _ (mem_of_lookupA hl)
    exact ⟨_, es, m, rfl, e2, nd, re, ⟨e, rfl, rfl, e2⟩⟩

noncomputable def Handed (d : AV) : Prop := ∀ h D v, RepV h D v d → handedIn v = true
theorem handed_dct (a : Addr) : Handed (.raw (.ref a)) := by rintro h D v r; cases r; rfl
theorem handed_sset (P : Params) (l : List Str) : Handed (.sset P l) := by rintro h D v r; cases r; rfl
theorem handed_lst (l : List AV) : Handed (.lst l) := by rintro h D v r; cases r; rfl
theorem EV_attr (G : Gd g) {o : Expr} {attr : Str} {pos : Pos} {Q : AV → Store → Prop}
    (h : EV g n env o ℓ σ fun d σ₁ => ∃ C dx l e, d = .inst C dx ∧ InstCls g C ∧ findIn g.K (.ref C) attr = some none ∧ σ₁.lookup dx = some (.dct l) ∧ l.lookup attr = some e ∧ Handed e ∧ Q e σ₁)
    (he : eval (.Attribute o attr pos) env = (do
      let ov ← eval o env
      standAt pos.atName
      let r ← holding [ov] (getAttr ov attr true)
      letTemporaryGo o ov r
      pure r) := by with_unfolding_all rfl) : EV g n env (.Attribute o attr pos) ℓ σ Q := by
  intro A s hr hs hf
  refine Attribute_any_ (wpAny_mono (h A s hr hs hf) ?_ fun _ _ f => f) he
  rintro v s₁ ⟨d, σ₁, ⟨C, dx, l, e, rfl, X, hno, hl, he, hh, q⟩, rv, p⟩
  obtain ⟨x, es, m, rfl, hdx, nd, re, I⟩ := inst_at p.si hl rv
  obtain ⟨u, hu, ru⟩ := lookIn_has (n := m) re he
  have KX : g.K.In s₁.heap := fun b o e => p.si.base _ _ (G.kin b o e)
  obtain ⟨cd, hcd, hd⟩ := X.has
  refine get_value KX I X.ga ?_ (hh _ _ _ ru) ⟨_, σ₁, q, ru, p.trans (.tok p.si _)⟩
  have ho : W.ownOf cd (some (dictOf es m)) attr = some (some u) := by
    unfold W.ownOf
    rw [if_pos hd]
    show lookIn attr (dictOf es m) = _
    rw [lookIn_dict, hu]
  unfold findObj
  rw [hcd, Option.bind_some, hno, Option.bind_some]
  simp only [Option.bind_some, ho]

theorem osa_store {x C dx : Addr} {es : List DictEntry} {m : Nat} {attr : Str} {tk : Tok} {v : Value} {R : Result → Shared → Prop} {cd : ClassData} (KX : g.K.In s.heap) (X : InstCls g C) (I : InstAt s.heap x (instObj C dx) C (some (dictOf es m))) (hno : takerIn g.K C attr = some none)
    (hl' : (getL attr es).isSome = true) (hcd : clsIn g.K C = some cd) (hd : cd.hasDict = true) (hz : (putL attr (PyData.keyHash g.w.params attr) (.str attr s.toks) v es).length ≤ 1000)
    (h : R (.ok (.ret .none)) { s with heap := s.heap.update dx (Obj.putName attr (PyData.keyHash g.w.params attr) (.str attr s.toks) v), toks := s.toks + 1 }) :
    codeAny (model g.prog g.w) A (.call (.builtin "object.__setattr__") ⟨[.ref x, .str attr tk, v], []⟩) R s := by
  refine osa_open KX I X.plain hno fun b => ?_
  have hx : s.heap.get? x = some (⟨.ref C, some dx, .plain, #[]⟩ : Obj) := I.at_
  have hdx : s.heap.get? dx = some (dictOf es m) := I.dict
  have e' := putName_dict attr (PyData.keyHash g.w.params attr) (.str attr s.toks) v es m
  have D' : (s.heap.update dx (Obj.putName attr (PyData.keyHash g.w.params attr) (.str attr s.toks) v)).get? dx = some (dictOf (putL attr (PyData.keyHash g.w.params attr) (.str attr s.toks) v es) (putN attr es m)) := by
    rw [← e']
    refine Heap.get?_update_self _ hdx ?_
    rw [e']; rfl
  refine wpAny_bind (wpAny_pure (wpAny_bind (wpAny_bind (wpAny_loadPart hx (wpAny_bind ((looks_clsIn KX hcd).here ?_))))))
  rw [hd]
  refine wpAny_pure (a := some dx) (wpAny_bind (wpAny_pure (wpAny_bind ?_)))
  unfold nsSet
  refine wpAny_bind (wpAny_bind (wpAny_askSetting (wpAny_pure (wpAny_bind (wpAny_mkText (wpAny_bind (wpAny_loadPart hdx ?_)))))))
  dsimp only
  have c : (!es.toArray.any (·.key.isStr attr) && es.toArray.any (·.refKey)) = false := by
    unfold getL at hl'
    rw [← Array.any_toList, ← Array.any_toList]
    split at hl'
    · rename_i en he
      rw [List.any_eq_true.mpr ⟨en, List.mem_of_find?_eq_some he, List.find?_some he⟩]; rfl
    · split at hl'
      · cases hl'
      · rename_i z; rw [Bool.not_eq_true] at z; rw [z, Bool.and_false]
  rw [aRefKeyMayBeTheName_at, c]
  refine wpAny_updatePart hdx ?_
  refine wpAny_bind (wpAny_lookBehind D' (pastItsLine_dict (by rw [List.size_toArray, sizeLine_eq]; (with_reducible exact Nat.le_trans (by assumption) (by decide)))) ?_)
  exact wpAny_pure h

theorem ES_setattr (G : Gd g) {o e : Expr} {attr : Str} {pos' pos : Pos} {Q : AF → Loc → Store → Prop}
    (h : EV g n env e ℓ σ fun d σ₁ => EV g n env o ℓ σ₁ fun od σ₂ => ∃ C dx l, od = .inst C dx ∧ InstCls g C ∧ takerIn g.K C attr = some none ∧ σ₂.lookup dx = some (.dct l) ∧ l.length < 900 ∧ Q .next ℓ (upd σ₂ dx (.dct (putA l attr d))))
    (hs : swapsWith e (some (.Attribute o attr pos')) pos.line env = pure false := by rfl) : ES g n env (.Assign [.Attribute o attr pos'] e pos) ℓ σ Q := by
  intro A s hr hi hf
  refine plainObj_wpAny_Assign_Attribute (wpAny_mono (h A s hr hi hf) ?_ fun _ _ f => f) hs
  rintro v s₁ ⟨d, σ₁, q₁, rv, p₁⟩
  refine wpAny_mono (q₁ A s₁ hr p₁.si (hf.ext p₁.ext)) ?_ fun _ _ f => f
  rintro ov s₂ ⟨od, σ₂, ⟨C, dx, l, rfl, X, hno, hl, hz, q⟩, ro, p₂⟩
  obtain ⟨x, es, m, rfl, hdx, nd, re, I⟩ := inst_at p₂.si hl ro
  have KX : g.K.In s₂.heap := fun b o e => p₂.si.base _ _ (G.kin b o e)
  obtain ⟨cd, hcd, hd⟩ := X.has
  have rv₂ := rv.keep p₂.keepsF
  have hsb := Heap.SameBut.update s₂.heap dx (Obj.putName attr (PyData.keyHash g.w.params attr) (.str attr (s₂.toks + 1)) v)
  have e' := putName_dict attr (PyData.keyHash g.w.params attr) (.str attr (s₂.toks + 1)) v es m
  have D' : (s₂.heap.update dx (Obj.putName attr (PyData.keyHash g.w.params attr) (.str attr (s₂.toks + 1)) v)).get? dx = some (dictOf (putL attr (PyData.keyHash g.w.params attr) (.str attr (s₂.toks + 1)) v es) (putN attr es m)) := by
    rw [← e']
    refine Heap.get?_update_self _ hdx ?_
    rw [e']; rfl
  have P3 := Post.upd (o' := .dct (putA l attr d)) (tk := s₂.toks + 1 + 1) p₂.si hl hsb fun k' => ⟨_, _, D', putA_nodup nd, (putL_ok rv₂ re nd).keep k'⟩
  have hlen2 := repE_length (putL_ok (x := attr) (tk := s₂.toks + 1) rv₂ re nd)
  have hlen3 := putA_length l attr d
  refine set_plain KX I X.sa (osa_store (s := { s₂ with toks := s₂.toks + 1 }) KX X I hno (getL_some re) hcd hd (by show (putL attr (PyData.keyHash g.w.params attr) (.str attr (s₂.toks + 1)) v es).length ≤ 1000; omega) ?_)
  exact ⟨_, _, _, q, .next, (hf.ext p₁.ext).ext (p₂.trans P3).ext, (p₁.trans (p₂.trans P3)).up⟩
end
end Mine

end
/- part Core20 -/
section
open PySem PySem.W PyProof.Rows
set_option Elab.async false
namespace Mine
open PySem PySem.W PyProof.Rows PySem.Calls PySem.Spec

noncomputable def CALLc (g : Gr) (n : Nat) (f : Value) (args : List AV) (kw : List (Str × AV)) (σ : Store) (Q : AV → Store → Prop) : Prop :=
  ∀ A s vs kvs, Room n A → SIg g σ s.heap → RepL s.heap (dom σ) vs args → kvs.map (·.1) = kw.map (·.1) → RepL s.heap (dom σ) (kvs.map (·.2)) (kw.map (·.2)) →
    codeAny (model g.prog g.w) A (.call f ⟨vs, kvs⟩) (fun r s' => match r with | .ok (.ret v) => RV g s σ Q v s' | .ok _ => False | .error _ => False) s

section
variable {g : Gr} {A : Around} {s s₀ : Shared} {σ σ₀ : Store} {n : Nat} {env : Env} {ℓ : Loc}

theorem CALLc.call {f : Value} {args : List AV} {kw : List (Str × AV)} {Q : AV → Store → Prop} (h : CALLc g n f args kw σ Q) : CALL g n f args kw σ Q :=
  fun A s vs kvs hr hS ra ek rk => wpAny_call (codeAny_mono (h A s vs kvs hr hS ra ek rk) fun r s' z => by
    rcases r with e | (v | _ | _ | _) <;> first | exact z | exact z.elim)
noncomputable def BindS (g : Gr) (fd : FuncData) (args : List AV) (kw : List (Str × AV)) (σ : Store) (Q : Loc → Store → Prop) : Prop :=
  ∀ A s vs kvs, SIg g σ s.heap → RepL s.heap (dom σ) vs args → kvs.map (·.1) = kw.map (·.1) → RepL s.heap (dom σ) (kvs.map (·.2)) (kw.map (·.2)) →
    wpAny (model g.prog g.w) A (bindArgs fd ⟨vs, kvs⟩) (fun binds s' => ∃ ℓ₀ σ', Q ℓ₀ σ' ∧ binds.map (·.1) = ℓ₀.map (·.1) ∧ RepL s'.heap (dom σ') (binds.map (·.2)) (ℓ₀.map (·.2)) ∧ Post g [] s σ s' σ') (fun _ _ => False) s
theorem BindOk.toS {fd : FuncData} {args : List AV} {kw : List (Str × AV)} {ℓ₀ : Loc} (h : BindOk g fd args kw σ ℓ₀) {Q : Loc → Store → Prop} (hq : Q ℓ₀ σ) : BindS g fd args kw σ Q := by
  intro A s vs kvs hs ra ek rk
  obtain ⟨binds, hb, h1, h2⟩ := h s vs kvs hs ra ek rk
  exact hb _ _ _ _ ⟨ℓ₀, σ, hq, h1, h2, .refl hs⟩

theorem CALLc_def (G : Gd g) {a : Addr} {oc : Value} {od : Option Addr} {osl : Array (Option Value)} {fd : FuncData} {body : List Stmt} {args : List AV} {kw : List (Str × AV)} {Q : AV → Store → Prop}
    (ho : g.K.lookup a = some ⟨oc, od, .func fd, osl⟩) (hbody : fd.body = .stmts body) (hcd : codeIn g.K fd.code fd.qualname = true) (hg : fd.globals = mainGlobals) (hbl : fd.builtins = builtinsNs) (hcl : fd.closure = [])
    (hk : fd.scope.kind = .function) (hco : fd.scope.isCoroutine = false) (hgen : fd.scope.isGenerator = false) (hfree : (fd.scope.names.all fun p => p.2 != .free) = true) (hnd : ((cellsFrom 0 fd.scope.names []).map (·.1)).Nodup)
    (hb : BindS g fd args kw σ fun ℓ₀ σ₁ => (ℓ₀.map (·.1)).Nodup ∧ (ℓ₀.all fun y => fd.scope.names.lookup y.1 == some .local || fd.scope.names.lookup y.1 == some .cell) = true ∧ ∀ L, EX g n (callEnvC fd L a) body ℓ₀ σ₁ fun r _ σ' => Q (retOf r) σ') : CALLc g (n + 1) (.ref a) args kw σ Q := by
  intro A s vs kvs hr hs ra ek rk
  have KX := fun b o e => hs.base _ _ (G.kin b o e)
  refine codeAny_call_function hr.depth (KX _ _ ho) rfl hco hgen hbody (codeRec_of KX hcd) (wpAny_mono (hb A.in1 s vs kvs hs ra ek rk) ?_ fun _ _ f => f.elim)
  rintro binds s₁ ⟨ℓ₀, σ₁, ⟨hnl, hkinds, h⟩, hnames, hrep, p₀⟩
  have hs₀ := p₀.si
  have hkX := kindsX (scope := fd.scope) (binds := binds) (by
    rw [List.all_eq_true] at hkinds ⊢
    intro y hy
    have : y.1 ∈ ℓ₀.map (·.1) := hnames ▸ List.mem_map_of_mem hy
    obtain ⟨z, hz, e⟩ := List.mem_map.mp this
    have := hkinds z hz
    rw [e] at this; exact this)
  rw [hcl]
  refine wpAny_newFunctionEnv_cells hk (hkX _) fun env' he s' x => ?_
  subst he
  obtain ⟨h₁, tk, rfl, _⟩ := x.done
  have keep := x.toInCall.keep
  refine ⟨(G.nolimit.keeps hs₀.base).keeps keep, codeAny_func ?_⟩
  have hs₁ : SIg g σ₁ h₁ := SI.keeps hs₀ keep
  have above : ∀ b ∈ fa (callEnvC fd s₁.heap.objs.size a), s₁.heap.get? b = none := by
    intro b hb
    rcases List.mem_cons.mp hb with rfl | hb
    · exact get_none_of_ge (Nat.le_refl _)
    · obtain ⟨p, hp, rfl⟩ := List.mem_map.mp hb
      exact get_none_of_ge (Nat.le_of_lt (x.above p.1 p.2 hp))
  have kF : KeepsF s₁.heap (dom σ₁) h₁ (dom σ₁) := fun b o e nb _ => ⟨keep _ _ e, nb⟩
  have uniq : ∀ p ∈ (callEnvC fd s₁.heap.objs.size a).cells, (callEnvC fd s₁.heap.objs.size a).cells.lookup p.1 = some p.2 := fun p hp =>
    lookup_of_mem_nodup (cellsFrom_names fd.scope.names 0 (s₁.heap.objs.size + 1) [] [] rfl ▸ hnd) hp
  have F : FI g.hB h₁ (dom σ₁) (callEnvC fd s₁.heap.objs.size a) ℓ₀ := by
    refine ⟨fun b hb => (new_off hs₀ (above b hb)).2, hk, hg, hbl, fun b hb => (new_off hs₀ (above b hb)).1, ⟨_, x.toInCall.ns, fun y d hky hl => ?_⟩, fun p hp => ?_, fun y hy => ?_, x.apart, uniq⟩
    · obtain ⟨v, e, r⟩ := bindL_at (m := fun _ => none) hky hnames hnl hrep hl
      exact ⟨v, e, r.keep kF⟩
    · refine ⟨_, x.cell p.1 p.2 (uniq p hp), fun d hkp hl => ?_⟩
      have hkc : (callEnvC fd s₁.heap.objs.size a).kindOf p.1 = some .cell := by
        rcases hkp with e | e
        · exact e
        · have hm := mem_of_lookup (show fd.scope.names.lookup p.1 = some NameKind.free from e)
          have := List.all_eq_true.mp hfree _ hm
          simp at this
      obtain ⟨v, e, r⟩ := bindC_at (m := fun _ => none) hkc hnames hnl hrep hl
      exact ⟨v, e, r.keep kF⟩
    · rcases hy with e | e
      · exact cellsFrom_some _ _ _ (.inl e)
      · have hm := mem_of_lookup (show fd.scope.names.lookup y = some NameKind.free from e)
        have := List.all_eq_true.mp hfree _ hm
        simp at this
  refine wpAny_mono (h s₁.heap.objs.size (A.deeper (callEnvC fd s₁.heap.objs.size a)) { s₁ with heap := h₁, toks := tk } (hr.deeper _) hs₁ F) ?_ fun _ _ f => f.elim
  rintro f s₂ ⟨r, ℓ', σ', q, rf, hf', p₂⟩
  have p₃ : Post g [] s₁ σ₁ s₂ σ' := by
    refine ⟨p₂.si, ⟨fun b o e => p₂.ext.there b o (keep _ _ e), fun b o e nb _ => p₂.ext.keep b o (keep _ _ e) nb fun hbf => ?_⟩, p₂.gens, p₂.os⟩
    rw [above b hbf] at e; cases e
  have p₄ := p₀.trans p₃
  cases rf with
  | ret rv => exact ⟨_, σ', q, rv, p₄⟩
  | next => exact ⟨_, σ', q, .none, p₄⟩
  | brk => exact ⟨_, σ', q, .none, p₄⟩
  | cont => exact ⟨_, σ', q, .none, p₄⟩

theorem make_units {C : Addr} {args : List Value} {kw : List (Str × Value)} : (Code.builtin "type.__call__" ⟨.ref C :: args, kw⟩).cUnits = 1 := by kernel_rfl
theorem Room.make {C : Addr} {args : List Value} {kw : List (Str × Value)} (h : Room (n + 1) A) : Room n (A.under (.builtin "type.__call__" ⟨.ref C :: args, kw⟩)) :=
  ⟨h.1, by have := h.2.1; show A.depth + 1 + n < _; (with_reducible exact Mine.om_dpn (by assumption) (by decide)), by have := h.2.2; show A.units + (Code.builtin "type.__call__" ⟨.ref C :: args, kw⟩).cUnits + 8 * n < _; rw [make_units]; omega⟩
theorem CALLc_cls (G : Gd g) (B : Big g) {C fI : Addr} {args : List AV} {kw : List (Str × AV)} {Q : AV → Store → Prop} (hm : makesIn g.K C = true) (hi : findIn g.K (.ref C) "__init__" = some (some (.ref fI))) (hf : typeIn g.K (.ref fI) = some (.type "function"))
    (h : ∀ dx, dx ∉ dom σ → dx ≠ sysModules → CALLc g n (.ref fI) (.inst C dx :: args) kw ((dx, .dct []) :: σ) fun r σ' => r = .none ∧ Q (.inst C dx) σ') : CALLc g (n + 1) (.ref C) args kw σ Q := by
  intro A s vs kvs hr hS ra ek rk
  have KX : g.K.In s.heap := fun b o e => hS.base _ _ (G.kin b o e)
  obtain ⟨hdx, p₁⟩ := Post.new (o := emptyDict) (ao := .dct []) hS rfl fun h' e k => ⟨[], 0, e, by simp, .nil⟩
  have p₂ := Post.frz (o := instObj C s.heap.objs.size) p₁.si
  have p := p₁.trans p₂
  have hx : ((s.heap.push emptyDict).push (instObj C s.heap.objs.size)).get? (s.heap.objs.size + 1) = some (instObj C s.heap.objs.size) := by
    have := Heap.get?_push_size (s.heap.push emptyDict) (o := instObj C s.heap.objs.size) rfl
    rwa [Heap.size_push] at this
  have hxD : s.heap.objs.size + 1 ∉ dom ((s.heap.objs.size, AO.dct []) :: σ) := by
    have := new_off' p₁.si
    rwa [show (s.heap.push emptyDict).objs.size = s.heap.objs.size + 1 from Heap.size_push ..] at this
  have rx : RepV ((s.heap.push emptyDict).push (instObj C s.heap.objs.size)) (dom ((s.heap.objs.size, AO.dct []) :: σ)) (.ref (s.heap.objs.size + 1)) (.inst C s.heap.objs.size) := .inst hx hxD
  have hdm := B.ne G hS (Nat.le_refl _)
  obtain ⟨hh, gg, dr, tt, oo⟩ := s
  refine make_core (makes_of KX hm) (looks_findIn KX hi) (fun self => bind_fn KX self hf) (.inl rfl) ?_
  refine codeAny_mono (h _ hdx hdm _ ⟨(hh.push emptyDict).push (instObj C hh.objs.size), gg, dr, tt, oo⟩ _ _ hr.make p.si (.cons rx (ra.keep p.keepsF)) ek (rk.keep p.keepsF)) fun r s' z => ?_
  rcases r with e | (v | _ | _ | _) <;> first | exact z | exact z.elim | skip
  obtain ⟨d, σ', ⟨rfl, q⟩, rv, p'⟩ := z
  cases rv
  exact ⟨rfl, _, σ', q, rx.keep p'.keepsF, p.trans p'⟩

noncomputable def EK (g : Gr) (n : Nat) (env : Env) (pos : Pos) (kws : List Keyword) (ℓ : Loc) (σ : Store) (Q : List AV → Store → Prop) : Prop :=
  ∀ A s, Room n A → SIg g σ s.heap → FI g.hB s.heap (dom σ) env ℓ → TL g A (evalAll ((backToKw pos (keywordEach kws env)).map (·.2))) s σ Q
theorem EK_nil {pos : Pos} {Q : List AV → Store → Prop} (h : Q [] σ) : EK g n env pos [] ℓ σ Q := fun _ _ _ hs _ => kwAll_nil ⟨[], σ, h, .nil, .refl hs⟩
theorem EK_cons {pos p : Pos} {name : Str} {e : Expr} {rest : List Keyword} {Q : List AV → Store → Prop} (h : EV g n env e ℓ σ fun d σ₁ => EK g n env pos rest ℓ σ₁ fun ds σ₂ => Q (d :: ds) σ₂) : EK g n env pos (⟨some name, e, p⟩ :: rest) ℓ σ Q := by
  intro A s hr hs hf
  refine kwAll_cons (wpAny_mono (h A s hr hs hf) ?_ fun _ _ f => f)
  rintro v s₁ ⟨d, σ₁, q₁, rv, p₁⟩
  refine wpAny_mono (q₁ A s₁ hr p₁.si (hf.ext p₁.ext)) ?_ fun _ _ f => f
  rintro vs s₂ ⟨ds, σ₂, q₂, rvs, p₂⟩
  exact ⟨_, σ₂, q₂, .cons (rv.keep p₂.keepsF) rvs, p₁.trans p₂⟩

theorem args_kw {f : Value} {pos : Pos} {es : List Expr} {kws : List Keyword} {names : List Str} {Q : List AV → List AV → Store → Prop} {R : Args → Shared → Prop} (hes : (backTo pos (starEach es env)).all (fun x => !x.1) = true)
    (hall : (backToKw pos (keywordEach kws env)).all (·.1.isSome) = true) (hn : (backToKw pos (keywordEach kws env)).filterMap (·.1) = names) (hr : Room n A) (hs : SIg g σ s.heap) (hf : FI g.hB s.heap (dom σ) env ℓ)
    (h : EL g n env pos es ℓ σ fun ds σ₁ => EK g n env pos kws ℓ σ₁ fun ks σ₂ => Q ds ks σ₂)
    (hR : ∀ vs ks s₂ ds kds σ₂, Q ds kds σ₂ → RepL s₂.heap (dom σ₂) vs ds → RepL s₂.heap (dom σ₂) ks kds → Post g [] s σ s₂ σ₂ → R ⟨vs, names.zip ks⟩ s₂) :
    wpAny (model g.prog g.w) A (evalArgs f true (backTo pos (starEach es env)) (backToKw pos (keywordEach kws env))) R (fun _ _ => False) s := by
  have key : wpAny (model g.prog g.w) A (spliced (backTo pos (starEach es env))) (fun vs s₁ => wpAny (model g.prog g.w) A (evalAll ((backToKw pos (keywordEach kws env)).map (·.2))) (fun ks s₂ => R ⟨vs, names.zip ks⟩ s₂) (fun _ _ => False) s₁) (fun _ _ => False) s := by
    refine wpAny_mono (h A s hr hs hf) ?_ fun _ _ f => f
    rintro vs s₁ ⟨ds, σ₁, q₁, rvs, p₁⟩
    refine wpAny_mono (q₁ A s₁ hr p₁.si (hf.ext p₁.ext)) ?_ fun _ _ f => f
    rintro ks s₂ ⟨kds, σ₂, q₂, rks, p₂⟩
    exact hR vs ks s₂ ds kds σ₂ q₂ (rvs.keep p₂.keepsF) rks (p₁.trans p₂)
  revert key hes
  generalize backTo pos (starEach es env) = l
  intro hes key
  rw [← hn] at key
  match l, hes, key with
  | [], _, key =>
    refine evalArgs_kw_nil hall fun Γ p hΓ => ?_
    have k1 := key Γ p hΓ
    simp only [spliced, Sem.wp_pure'] at k1
    exact k1 Γ p hΓ
  | (b, x) :: rest, hes, key =>
    have hb : b = false := by simpa using (List.all_eq_true.mp hes (b, x) (List.mem_cons_self ..))
    subst hb
    exact evalArgs_kw hall key
end
end Mine

end
/- part Core21 -/
section
open PySem PySem.W PyProof.Rows
set_option Elab.async false
namespace Mine
open PySem PySem.W PyProof.Rows PySem.Calls PySem.Spec

theorem zip_maps {α β : Type} : ∀ {l : List α} {r : List β}, l.length = r.length → (l.zip r).map (·.1) = l ∧ (l.zip r).map (·.2) = r
  | [], [], _ => ⟨rfl, rfl⟩
  | a :: l, b :: r, h => by
    obtain ⟨h1, h2⟩ := zip_maps (l := l) (r := r) (by simpa using h)
    rw [List.zip_cons_cons, List.map_cons, List.map_cons, h1, h2]; exact ⟨rfl, rfl⟩
  | [], _ :: _, h => by simp at h
  | _ :: _, [], h => by simp at h

section
variable {g : Gr} {A : Around} {s s₀ : Shared} {σ σ₀ : Store} {n : Nat} {env : Env} {ℓ : Loc}

theorem EV_callK {id : Str} {p pos : Pos} {es : List Expr} {kws : List Keyword} {names : List Str} {f : Value} {Q : AV → Store → Prop} (hk : keepIn g.K f = true) (G : Gd g)
    (hes : (backTo pos (starEach es env)).all (fun x => !x.1) = true) (hall : (backToKw pos (keywordEach kws env)).all (·.1.isSome) = true) (hn : (backToKw pos (keywordEach kws env)).filterMap (·.1) = names)
    (h : EV g n env (.Name id p) ℓ σ fun d σ₁ => d = .raw f ∧ EL g n env pos es ℓ σ₁ fun ds σ₂ => EK g n env pos kws ℓ σ₂ fun ks σ₃ => names.length = ks.length ∧ CALL g n f ds (names.zip ks) σ₃ Q)
    (hpl : (backToKw pos (keywordEach kws env)).any (·.1.isNone) = false := by rfl) : EV g n env (.Call (.Name id p) es kws pos) ℓ σ Q := by
  intro A s hr hs hf
  refine wpAny_Call_Name_kw (wpAny_mono (h A s hr hs hf) ?_ fun _ _ f => f)
  rintro v s₁ ⟨d, σ₁, ⟨rfl, q₁⟩, rv, p₁⟩
  cases rv
  refine callWith_of (P := g.K.In) (by rw [any_of_all hes, hpl]; rfl) (keeps_K hk) ?_
  refine args_kw hes hall hn hr p₁.si (hf.ext p₁.ext) q₁ fun vs ks s₂ ds kds σ₂ q rvs rks p₂ => ?_
  obtain ⟨hlen, q⟩ := q
  refine ⟨fun b o e => p₂.si.base _ _ (G.kin b o e), ?_⟩
  obtain ⟨z1, z2⟩ := zip_maps hlen
  obtain ⟨z3, z4⟩ := zip_maps (l := names) (r := ks) (by rw [hlen, rks.length])
  exact (q A s₂ vs (names.zip ks) hr p₂.si rvs (by rw [z1, z3]) (by rw [z2, z4]; exact rks)).of_post (p₁.trans p₂)
theorem EV_callC {id : Str} {p pos : Pos} {es : List Expr} {f : Value} {Q : AV → Store → Prop} (hk : keepIn g.K f = true) (G : Gd g)
    (hes : (backTo pos (starEach es env)).all (fun x => !x.1) = true)
    (h : EV g n env (.Name id p) ℓ σ fun d σ₁ => d = .raw f ∧ EL g n env pos es ℓ σ₁ fun ds σ₂ => CALL g n f ds [] σ₂ Q) : EV g n env (.Call (.Name id p) es [] pos) ℓ σ Q := by
  refine EV_callK (names := []) hk G hes rfl rfl (h.mono fun d σ₁ ⟨e, q⟩ => ⟨e, fun A s hr hs hf => wpAny_mono (q A s hr hs hf) ?_ fun _ _ f => f⟩)
  rintro vs s₂ ⟨ds, σ₂, q₂, r, p₂⟩
  exact ⟨ds, σ₂, EK_nil ⟨rfl, q₂⟩, r, p₂⟩

theorem EV_methO (G : Gd g) {o : Expr} {name : Str} {apos pos : Pos} {es : List Expr} {Q : AV → Store → Prop} (hes : (backTo pos (starEach es env)).all (fun x => !x.1) = true) {pl : Sem Bool}
    (h : EV g n env o ℓ σ fun d σ₁ => ∃ C dx l fm, d = .inst C dx ∧ InstCls g C ∧ findIn g.K (.ref C) name = some (some (.ref fm)) ∧ typeIn g.K (.ref fm) = some (.type "function") ∧ keepIn g.K (.ref fm) = true ∧ σ₁.lookup dx = some (.dct l) ∧ name ∉ l.map (·.1) ∧
      EL g n env pos es ℓ σ₁ fun ds σ₂ => CALL g n (.ref fm) (.inst C dx :: ds) [] σ₂ Q)
    (he : eval (.Call (.Attribute o name apos) es [] pos) env = (do
      let ov ← eval o env
      standAt apos.atName
      let (f, first) ← holding [ov] (getMethod ov name pl)
      callWith pos f first (backTo pos (starEach es env)) (backToKw pos (keywordEach [] env))) := by rfl) : EV g n env (.Call (.Attribute o name apos) es [] pos) ℓ σ Q := by
  intro A s hr hs hf
  refine methodCall_KW (pl := pl) (wpAny_mono (h A s hr hs hf) ?_ fun _ _ f => f) he
  rintro v s₁ ⟨d, σ₁, ⟨C, dx, l, fm, rfl, X, hm, ht, hk, hl, hno, q⟩, rv, p₁⟩
  obtain ⟨x, es', m, rfl, hdx, nd, re, I⟩ := inst_at p₁.si hl rv
  have KX : g.K.In s₁.heap := fun b o e => p₁.si.base _ _ (G.kin b o e)
  refine method_fn KX I X.ga X.gt hm ht (by show (lookIn name (dictOf es' m)).map _ = _; rw [lookIn_dict, getL_no re hno]; rfl) ?_
  refine callWith_of (P := g.K.In) (by rw [any_of_all hes]; rfl) (keeps_K hk) ?_
  refine evalArgs_el hes (wpAny_mono (q A s₁ hr p₁.si (hf.ext p₁.ext)) ?_ fun _ _ f => f)
  rintro vs s₂ ⟨ds, σ₂, q₂, rvs, p₂⟩
  refine ⟨fun b o e => p₂.si.base _ _ (G.kin b o e), ?_⟩
  exact (q₂ A s₂ (.ref x :: vs) [] hr p₂.si (.cons (rv.keep p₂.keepsF) rvs) rfl .nil).of_post (p₁.trans p₂)
end
end Mine

end
/- part Core22 -/
section
open PySem PySem.W PyProof.Rows
set_option Elab.async false
namespace Mine
open PySem PySem.W PyProof.Rows PySem.Calls PySem.Spec

section
variable {g : Gr} {A : Around} {s s₀ : Shared} {σ σ₀ : Store} {n : Nat} {env : Env} {ℓ : Loc}

theorem CALL_type {d : AV} {T : String} {Q : AV → Store → Prop} (ht : ∀ (s : Shared) v, SIg g σ s.heap → RepV s.heap (dom σ) v d → s.TypeIs v T) (hT : (Value.type T == Value.type "builtin_function_or_method") = false) (h : Q (.raw (.type T)) σ) : CALL g n (.type "type") [d] [] σ Q :=
  CALL_1 fun A s v hr hs rv => call_type_of (ht s v hs rv) hT ⟨_, σ, h, .raw _, .refl hs⟩
theorem type_bytes {b : Array UInt8} : ∀ (s : Shared) v, SIg g σ s.heap → RepV s.heap (dom σ) v (.bytes b) → s.TypeIs v "bytes" := by
  rintro s v S r; cases r; exact typeIs_bytes _ _ _
theorem type_bool {b : Bool} : ∀ (s : Shared) v, SIg g σ s.heap → RepV s.heap (dom σ) v (.bool b) → s.TypeIs v "bool" := by
  rintro s v S r; cases r; rfl
theorem is_tt {T U : String} {Q : AV → Store → Prop} (h : Q (.bool (T == U)) σ) : CmpOk g n .Is (.raw (.type T)) (.raw (.type U)) σ Q := fun _ _ _ _ _ hs ra rb => by
  obtain rfl := ra.rawI; obtain rfl := rb.rawI
  have e : (Value.type T == Value.type U) = (T == U) := by
    by_cases q : T = U
    · subst q; simp
    · rw [beq_eq_false_iff_ne.mpr q, beq_eq_false_iff_ne]; intro z; injection z; contradiction
  exact wpAny_pure (a := Value.bool (Value.type T == Value.type U)) ⟨_, _, h, (by rw [e]; exact .bool _), .refl hs⟩
theorem is_none_bool {b : Bool} {Q : AV → Store → Prop} (h : Q (.bool false) σ) : CmpOk g n .Is (.bool b) .none σ Q := fun _ _ _ _ _ hs ra rb => by
  obtain rfl := ra.boolI; obtain rfl := rb.noneI; exact PySem.is_none ⟨_, _, h, .bool _, .refl hs⟩

theorem foldl_append {α : Type} (xs : Array α) : ∀ (k : Nat) (acc : Array α), List.foldl (fun x1 x2 => x1 ++ x2) acc (List.replicate k xs) = acc ++ (List.replicate k xs.toList).flatten.toArray
  | 0, acc => by simp
  | k + 1, acc => by
    rw [List.replicate_succ, List.foldl_cons, foldl_append xs k]
    apply Array.ext'
    simp [List.replicate_succ]
noncomputable def mulL (xs : List AV) (k : Int) : List AV := (List.replicate k.toNat xs).flatten
theorem repL_mul {h : Heap} {D : List Addr} {vs : List Value} {xs : List AV} (r : RepL h D vs xs) : ∀ k : Nat, RepL h D (List.replicate k vs).flatten (List.replicate k xs).flatten
  | 0 => .nil
  | k + 1 => by rw [List.replicate_succ, List.replicate_succ, List.flatten_cons, List.flatten_cons]; exact r.append (repL_mul r k)
theorem mul_li {d : AV} {xs : List AV} {k : Int} {Q : AV → Store → Prop} (wx : View σ d (.lst xs)) (hz : xs.length < 1000) (h1 : -1000 < k) (h2 : k < 1000) (h : Q (.lst (mulL xs k)) σ) : BinOk g n .Mult d (.int k) σ Q := by
  intro A s va vb hr hs ra rb
  obtain ⟨a, vs, c, rfl, ea, la⟩ := wx.list hs ra
  cases rb with
  | int _ u =>
    have h3 := la.length
    have hsz : vs.toArray.size * k.toNat ≤ 1000 * 1000 := Nat.mul_le_mul (by simp; (with_reducible exact Mine.om_eqle (by assumption) (by assumption) (by decide))) (by omega)
    refine wpAny_binaryOp_repeat_ref (T := "list") (U := "int") (by decide) ⟨_, ea, rfl⟩ (fun s' => typeIs_int s' k u) noFill_list_mul PySem.F.fills_int_mul PySem.F.slot_int_rmul repeat_list PySem.F.slot_int_index.lookup
      (call_meets PySem.F.slot_int_rmul (typeIs_int s k u) PySem.F.entry_int_rmul (PySem.F.args_int_rmul_2 _ _) (int___rmul___int_list k u a vs.toArray c)
        ⟨ea, rfl, ⟨_, ea, rfl⟩, call_meets PySem.F.slot_list_mul ⟨_, ea, rfl⟩ PySem.F.entry_list_mul (PySem.F.args_list_mul_2 _ _)
          (AutoListH.list___mul___list_int_3 a vs.toArray c k u (by simp [Builtin.List.listFitsIndex]; omega) (by omega) (by simp [Builtin.List.listTooLong, sizeLine] at hsz ⊢; (with_reducible exact Nat.le_trans (by assumption) (by decide))))
          ⟨ea, ?_⟩⟩)
    have pg := Post.frz (o := { cls := .type "list", data := .seq (List.foldl (fun x1 x2 => x1 ++ x2) #[] (List.replicate (if vs.toArray.isEmpty = true then 0 else k.toNat) vs.toArray)) }) hs
    have hget := Heap.get?_push_size s.heap (o := { cls := .type "list", data := .seq (List.foldl (fun x1 x2 => x1 ++ x2) #[] (List.replicate (if vs.toArray.isEmpty = true then 0 else k.toNat) vs.toArray)) }) rfl
    have ek : List.foldl (fun x1 x2 => x1 ++ x2) #[] (List.replicate (if vs.toArray.isEmpty = true then 0 else k.toNat) vs.toArray) = ((List.replicate k.toNat vs).flatten).toArray := by
      rw [foldl_append]
      cases vs with
      | nil => simp
      | cons v vs => simp
    have hrep := (repL_mul la k.toNat).keep pg.keepsF
    rw [ek] at hget hrep pg ⊢
    exact ⟨_, σ, h, .lst (n := 0) hget (new_off' hs) hrep, pg⟩

theorem strVals_of {h : Heap} {D : List Addr} : ∀ {vs : List Value} {xs : List Str}, RepL h D vs (xs.map .str) → ∃ l : List (Str × Tok), vs = strValues l ∧ l.map (·.1) = xs
  | _, [], .nil => ⟨[], rfl, rfl⟩
  | _, _ :: _, .cons x r => by
    obtain ⟨l, rfl, e⟩ := strVals_of r
    cases x with
    | str _ t => exact ⟨(_, t) :: l, rfl, by rw [List.map_cons, e]⟩
theorem CALL_join {o : AV} {x : Str} {xs : List Str} {Q : AV → Store → Prop} (w : View σ o (.lst (xs.map .str))) (hok : JoinOk x xs = true) (h : Q (.str (Txt.join x xs)) σ) : CALL g n (.builtin "str.join") [.str x, o] [] σ Q :=
  CALL_2 fun A s v u hr hs rv ru => by
    cases rv
    obtain ⟨a, vs, k, rfl, e, rl⟩ := w.list hs ru
    obtain ⟨l, rfl, el⟩ := strVals_of rl
    exact PySem.SC.join ⟨_, e, rfl, k, rfl⟩ el hok fun t' k' => ⟨_, σ, h, .str _ _, .tok hs _⟩
end
end Mine

end
/- part Core23 -/
section
open PySem PySem.W PyProof.Rows
set_option Elab.async false
namespace Mine
open PySem PySem.W PyProof.Rows PySem.Calls PySem.Spec

section
variable {g : Gr} {A : Around} {s s₀ : Shared} {σ σ₀ : Store} {n : Nat} {env : Env} {ℓ : Loc}

theorem Post.mapp {a : Addr} {xs : List AV} {vs us : List Value} {c : Nat} {ys : List AV} (hS : SIg g σ s.heap) (hl : σ.lookup a = some (.lst xs)) (e : s.heap.get? a = some (listOf vs.toArray c)) (rl : RepL s.heap (dom σ) vs xs) (ru : RepL s.heap (dom σ) us ys) :
    Post g [] s σ { s with heap := s.heap.update a (Obj.mapSeq fun x => x ++ us.toArray), toks := s.toks } (Mine.upd σ a (.lst (xs ++ ys))) := by
  refine Post.upd (tk := s.toks) hS hl (Heap.SameBut.update ..) fun k' => ?_
  have e' : IsL s.heap a vs.toArray c := e
  have := e'.update (fun x => x ++ us.toArray)
  exact ⟨vs ++ us, _, by simpa using this, (rl.append ru).keep k'⟩
theorem CALL_extend {a : Addr} {o : AV} {xs ys : List AV} {Q : AV → Store → Prop} (hl : σ.lookup a = some (.lst xs)) (w : View σ o (.lst ys)) (hz : xs.length < 100000) (hz2 : ys.length < 100000) (h : Q .none (upd σ a (.lst (xs ++ ys)))) : CALL g n (.builtin "list.extend") [.raw (.ref a), o] [] σ Q :=
  CALL_2 fun A s v u hr hs rv ru => by
    cases rv
    obtain ⟨vs, c, e, rl⟩ := hs.rep _ (mem_of_lookupA hl)
    obtain ⟨b, us, c2, rfl, e2, ru⟩ := w.list hs ru
    have h1 := rl.length
    have h2 := ru.length
    refine call_meets PySem.F.slot_list_extend ⟨_, e, rfl⟩ PySem.F.entry_list_extend (PySem.F.args_list_extend_2 _ _) (AutoSeq1.list_extend_list_list_0 a vs.toArray c b us.toArray c2 ?_ (by simp; unfold sizeLine; (with_reducible exact Mine.om_eqle (by assumption) (by assumption) (by decide))) (by simp; unfold sizeLine; omega)) ⟨e, e2, ?_⟩
    · simp [Builtin.List.listTooLong, sizeLine]; intro _; omega
    · exact ⟨_, _, h, .none, Post.mapp hs hl e rl ru⟩
theorem CALL_min2 {a b : Int} {Q : AV → Store → Prop} (h : Q (.int (if b < a then b else a)) σ) : CALL g n (.builtin "min") [.int a, .int b] [] σ Q :=
  CALL_2 fun A s v u hr hs rv ru => by
    cases rv; cases ru
    refine min_two_ints hr.1 fun h' tk hk => ⟨_, σ, h, ?_, ?_⟩
    · split <;> exact .int _ _
    · have := Post.keeps (B := []) hs hk
      exact ⟨this.si, this.ext, this.gens, this.os⟩
theorem CALL_sum {o : AV} {ns : List Int} {Q : AV → Store → Prop} (w : View σ o (.lst (intsA ns))) (h : Q (.int ns.sum) σ) : CALL g n (.builtin "sum") [o] [] σ Q :=
  CALL_1 fun A s v hr hs rv => by
    obtain ⟨a, vs, k, rfl, e, rl⟩ := w.list hs rv
    have hi := intsAre_of rl
    obtain ⟨xs, hx⟩ := hi.allInts.items
    have hn : numsOf vs = ns := hi.numsOf
    have hl : s.heap.IsList a (intItems xs) := ⟨_, e, rfl, k, by rw [← hx]⟩
    refine sum_intListG hr.1 hl fun h' tk t' hk => ⟨_, σ, h, ?_, ?_⟩
    · have e1 : preSum (numAt xs) xs.size = ns.sum := by
        have e2 : numsOf (intItems xs).toList = ns := by rw [← hx]; exact hn
        rw [nums_intItems] at e2
        rw [preSum_eq, List.take_of_length_le (by simp), e2]
      rw [e1]; exact .int _ _
    · have := Post.keeps (B := []) hs hk
      exact ⟨this.si, this.ext, this.gens, this.os⟩
theorem item_listN {value slice : Expr} {o : AV} {xs : List AV} {k : Int} {d : AV} {Q : AV → Store → Prop} (w : View σ o (.lst xs)) (h0 : k < 0) (h1 : -(xs.length : Int) ≤ k) (h2 : -(2 ^ 63) ≤ k) (hx : xs[(k + xs.length).toNat]? = some d) (h : Q d σ)
    (hs : ∀ a u, subscripted slice false (.ref a) (.int k u) = operate [.ref a, .int k u] (getItem (.ref a) (.int k u)) := by intro _ _; with_unfolding_all rfl) : ItemOk g n value slice o (.int k) σ Q := by
  intro A s vo vi hr hS ro ri
  cases ri
  obtain ⟨a, vs, c, rfl, e, rl⟩ := w.list hS ro
  obtain ⟨v, hv, rv⟩ := rl.get hx
  have hlen := rl.length
  have hl : s.heap.IsList a vs.toArray := ⟨_, e, rfl, c, rfl⟩
  exact tail_any hl.typeIs slot_list_getitem.lookup (wpAny_getItem_list_neg hl h0 (by simp; omega) h2 (by simpa [hlen] using hv) ⟨d, σ, h, rv, .refl hS⟩) (hs _ _)

theorem ES_assignT {elts : List Expr} {k : Nat} {tp pos : Pos} {e : Expr} {xs : List (Str × Pos)} {Q : AF → Loc → Store → Prop} (helts : assignEach elts env = xs.map fun x => (false, assign (.Name x.1 x.2) env)) (hk : ∀ x ∈ xs, env.kindOf x.1 = some .local ∨ env.kindOf x.1 = some .cell)
    (h : EV g n env e ℓ σ fun d σ₁ => ∃ ds, d = .tup ds ∧ xs.length = ds.length ∧ Q .next (puts (xs.map (·.1)) ds ℓ) σ₁)
    (hs : swapsWithSole [.Tuple elts k tp] e pos.line env = pure false := by rfl)
    (hw : swappedStores [.Tuple elts k tp] e env = pure none := by rfl) : ES g n env (.Assign [.Tuple elts k tp] e pos) ℓ σ Q := by
  intro A s hr hi hf
  refine Assign_Tuple (wpAny_mono (h A s hr hi hf) ?_ fun _ _ f => f) hs hw
  rintro v s₁ ⟨d, σ₁, ⟨ds, rfl, hl, q⟩, rv, p⟩
  refine wpAny_mono (ASG_tup (n := n) helts hl hk (Q := fun ℓ' => Q .next ℓ' σ₁) q A s₁ v hr p.si (hf.ext p.ext) rv) ?_ fun _ _ f => f
  rintro _ s₂ ⟨ℓ', q', hf', p'⟩
  exact ⟨_, _, _, q', .next, hf', p.up.trans p'⟩
theorem bindOrder_ok : ∀ (xs : List Str) (vs : List Value) (ds : List AV) (s : Shared) (ℓ : Loc) (Q : Unit → Shared → Prop), SIg g σ s.heap → FI g.hB s.heap (dom σ) env ℓ → RepL s.heap (dom σ) vs ds → xs.length = vs.length →
    (∀ x ∈ xs, env.kindOf x = some .local ∨ env.kindOf x = some .cell) → (∀ s', FI g.hB s'.heap (dom σ) env (puts xs ds ℓ) → Post g (fa env) s σ s' σ → Q () s') →
    wpAny (model g.prog g.w) A (assignInOrder (xs.map fun x => bindName env x) vs) Q (fun _ _ => False) s
  | [], [], ds, s, ℓ, Q, hs, hf, rl, _, _, h => by
    cases rl
    exact wpAny_pure (h s hf (.refl hs))
  | x :: xs, v :: vs, ds, s, ℓ, Q, hs, hf, rl, hl, hk, h => by
    cases rl with
    | cons rv rr =>
      show wpAny _ _ (do holding vs (bindName env x v); assignInOrder (xs.map fun x => bindName env x) vs) _ _ _
      refine wpAny_bind (wpAny_holding (bindName_ (store_ok hs hf (hk _ (.head _)) rv fun s' hf' p => ?_)))
      exact bindOrder_ok xs vs _ s' _ Q p.si hf' (rr.keep (p.keepsX hf)) (by simpa using hl) (fun y hy => hk y (.tail _ hy)) fun s'' hf'' p' => h s'' hf'' (p.trans p')
  | [], _ :: _, _, _, _, _, _, _, _, hl, _, _ => by simp at hl
  | _ :: _, [], _, _, _, _, _, _, _, hl, _, _ => by simp at hl
theorem ES_assignTS {elts : List Expr} {k : Nat} {tp pos : Pos} {e : Expr} {names : List Str} {Q : AF → Loc → Store → Prop} (hk : ∀ x ∈ names, env.kindOf x = some .local ∨ env.kindOf x = some .cell)
    (h : EV g n env e ℓ σ fun d σ₁ => ∃ ds, d = .tup ds ∧ names.length = ds.length ∧ Q .next (puts names.reverse ds.reverse ℓ) σ₁)
    (hs : swapsWithSole [.Tuple elts k tp] e pos.line env = pure false := by rfl)
    (hw : swappedStores [.Tuple elts k tp] e env = pure (some names) := by rfl) : ES g n env (.Assign [.Tuple elts k tp] e pos) ℓ σ Q := by
  intro A s hr hi hf
  refine Assign_Tuple_swapped (wpAny_mono (h A s hr hi hf) ?_ fun _ _ f => f) hs hw
  rintro v s₁ ⟨d, σ₁, ⟨ds, rfl, hl, q⟩, rv, p⟩
  cases rv with
  | @tup a vs c ds e nb rl =>
    have hlen := rl.length
    have hn : names.length = vs.toArray.size := by simp; omega
    rw [hn]
    refine unpackItems_tuple hr.1 ⟨_, e, rfl, c, rfl⟩ fun h' hx => ?_
    have p2 := Post.keeps (B := []) p.si (keep_newer hx)
    refine bindOrder_ok names.reverse _ ds.reverse _ ℓ _ p2.si ((hf.ext p.ext).ext p2.ext) ((rl.keep p2.keepsF).reverse) (by simp; omega) (fun x hx => hk x (List.mem_reverse.mp hx)) fun s' hf' p' => ?_
    exact ⟨_, _, _, q, .next, hf', (p.trans p2).up.trans p'⟩
end
end Mine

end
/- part Sort1 -/
section
open PySem PySem.W PyProof.Rows
set_option Elab.async false
namespace Mine
open PySem PySem.W PyProof.Rows PySem.Calls PySem.Spec

noncomputable def kall (V : Nat → Prop) (lt : Nat → Nat → Bool) {α : Type} (Q : α → Prop) : KasT α → Prop
  | .ret a => Q a
  | .ask i j k => V i ∧ V j ∧ kall V lt Q (k (lt i j))
theorem kall_bind {V : Nat → Prop} {lt : Nat → Nat → Bool} {α β : Type} {Q : β → Prop} {f : α → KasT β} : ∀ {t : KasT α}, kall V lt (fun a => kall V lt Q (f a)) t → kall V lt Q (t.bind f)
  | .ret _, h => h
  | .ask _ _ k, h => ⟨h.1, h.2.1, kall_bind h.2.2⟩
theorem kall_mono {V : Nat → Prop} {lt : Nat → Nat → Bool} {α : Type} {Q Q' : α → Prop} (hq : ∀ a, Q a → Q' a) : ∀ {t : KasT α}, kall V lt Q t → kall V lt Q' t
  | .ret _, h => hq _ h
  | .ask _ _ _, h => ⟨h.1, h.2.1, kall_mono hq h.2.2⟩
theorem kall_wp {V : Nat → Prop} {lt : Nat → Nat → Bool} {α : Type} {Q : α → Prop} {G : α → Shared → Prop} {cmp : Nat → Nat → (Bool → Shared → Prop) → Shared → Prop} {s : Shared} (hc : ∀ i j C, V i → V j → C (lt i j) s → cmp i j C s) (hq : ∀ a, Q a → G a s) :
    ∀ {t : KasT α}, kall V lt Q t → t.kasWp cmp G s
  | .ret _, h => hq _ h
  | .ask _ _ _, h => hc _ _ _ h.1 h.2.1 (kall_wp hc hq h.2.2)

structure Ord (lt : Nat → Nat → Bool) : Prop where
  asym : ∀ i j, lt i j = true → lt j i = false
  trans : ∀ i j k, lt j i = false → lt k j = false → lt k i = false

noncomputable def pat (p : Array Nat) (i : Nat) : Nat := p.getD i 0
theorem pat_get {p : Array Nat} {i : Nat} : pat p i = (p[i]?).getD 0 := by
  unfold pat
  by_cases h : i < p.size <;> simp [Array.getD, h]
theorem pat_rev {p : Array Nat} {i j : Nat} (hj : j ≤ p.size) (k : Nat) : pat (kas_rev p i j) k = if i ≤ k ∧ k < j then pat p (i + j - 1 - k) else pat p k := by
  rw [pat_get, pat_get, pat_get]
  unfold kas_rev
  rw [getElem?_mirror_all hj]
  split <;> rfl
theorem pat_bubble {p : Array Nat} {src d : Nat} (hs : src < p.size) (hd : d ≤ src) (k : Nat) : pat (bubble p src d) k = if k = src - d then pat p src else if src - d < k ∧ k ≤ src then pat p (k - 1) else pat p k := by
  rw [pat_get, pat_get, pat_get, pat_get, getElem?_bubble hs d hd]
  split
  · rfl
  · split <;> rfl
theorem rev_perm (p : Array Nat) (i j : Nat) : (kas_rev p i j).Perm p := mirror_perm _ _ _ _
theorem rev_size (p : Array Nat) (i j : Nat) : (kas_rev p i j).size = p.size := mirror_size _ _ _ _

section
variable {lt : Nat → Nat → Bool} {N : Nat}
noncomputable def Asc (lt : Nat → Nat → Bool) (p : Array Nat) (m : Nat) : Prop := ∀ i j, i ≤ j → j < m → lt (pat p j) (pat p i) = false
noncomputable def Dsc (lt : Nat → Nat → Bool) (p : Array Nat) (m : Nat) : Prop := ∀ i j, i ≤ j → j < m → lt (pat p i) (pat p j) = false
structure PermN (N : Nat) (p : Array Nat) : Prop where
  size : p.size = N
  perm : p.toList.Perm (List.range N)
theorem PermN.val {p : Array Nat} (h : PermN N p) {i : Nat} (hi : i < N) : pat p i < N := by
  have h1 : i < p.size := by rw [h.size]; exact hi
  have : p[i] ∈ p.toList := by simp
  have := (h.perm.mem_iff).mp this
  rw [List.mem_range] at this
  rw [pat_get, Array.getElem?_eq_getElem h1]; exact this
theorem PermN.of {p q : Array Nat} (h : PermN N p) (hq : q.Perm p) : PermN N q := ⟨hq.size_eq.trans h.size, (Array.perm_iff_toList_perm.mp hq).trans h.perm⟩
theorem Ord.refl (O : Ord lt) (i : Nat) : lt i i = false := by
  cases h : lt i i with
  | false => rfl
  | true => have := O.asym i i h; rw [h] at this; cases this
theorem Asc.one (O : Ord lt) (p : Array Nat) : Asc lt p 1 := fun i j h1 h2 => by
  have : i = j := by omega
  subst this; exact O.refl _
theorem Asc.step (O : Ord lt) {p : Array Nat} {m : Nat} (hm : 1 ≤ m) (h : Asc lt p m) (hs : lt (pat p m) (pat p (m - 1)) = false) : Asc lt p (m + 1) := by
  intro i j h1 h2
  by_cases hj : j = m
  · subst hj
    by_cases hi : i = j
    · subst hi; exact O.refl _
    · exact O.trans _ _ _ (h i (j - 1) (by omega) (by omega)) hs
  · exact h i j h1 (by omega)
theorem Dsc.step (O : Ord lt) {p : Array Nat} {m : Nat} (hm : 1 ≤ m) (h : Dsc lt p m) (hs : lt (pat p (m - 1)) (pat p m) = false) : Dsc lt p (m + 1) := by
  intro i j h1 h2
  by_cases hj : j = m
  · subst hj
    by_cases hi : i = j
    · subst hi; exact O.refl _
    · exact O.trans _ _ _ hs (h i (j - 1) (by omega) (by omega))
  · exact h i j h1 (by omega)
theorem Asc.rev {p : Array Nat} {m : Nat} (hm : m ≤ p.size) (h : Dsc lt p m) : Asc lt (kas_rev p 0 m) m := by
  intro i j h1 h2
  rw [pat_rev hm, pat_rev hm, if_pos (by omega), if_pos (by omega)]
  exact h _ _ (by omega) (by omega)

theorem asc_ok (O : Ord lt) {p : Array Nat} (hp : PermN N p) : ∀ (f n : Nat), 1 ≤ n → n + f ≤ N → Asc lt p n → kall (· < N) lt (fun m => n ≤ m ∧ m ≤ n + f ∧ Asc lt p m ∧ (m < n + f → lt (pat p m) (pat p (m - 1)) = true)) (kas_asc p f n)
  | 0, n, _, _, h => ⟨Nat.le_refl _, Nat.le_refl _, h, fun q => by omega⟩
  | f + 1, n, h1, h2, h => by
    refine ⟨hp.val (by omega), hp.val (by omega), ?_⟩
    show kall _ _ _ (if lt (pat p n) (pat p (n - 1)) = true then _ else _)
    split
    · rename_i q
      exact ⟨Nat.le_refl _, by omega, h, fun _ => q⟩
    · rename_i q
      have q' : lt (pat p n) (pat p (n - 1)) = false := by simpa using q
      exact kall_mono (fun m ⟨a, b, c, d⟩ => ⟨by (with_reducible exact Nat.le_of_succ_le (by assumption)), by omega, c, fun z => d (by omega)⟩) (asc_ok O hp f (n + 1) (by omega) (by omega) (h.step O h1 q'))

theorem desc_ok (O : Ord lt) : ∀ (f : Nat) (p : Array Nat) (n q : Nat), PermN N p → 1 ≤ n → n + f ≤ N → q < n → Dsc lt p n → (∀ i, n - (q + 1) ≤ i → i < n → lt (pat p i) (pat p (n - 1)) = false ∧ lt (pat p (n - 1)) (pat p i) = false) →
    kall (· < N) lt (fun r => PermN N r.1 ∧ n ≤ r.2.1 ∧ r.2.1 ≤ n + f ∧ Dsc lt r.1 r.2.1 ∧ r.2.2 < r.2.1 ∧ ∀ i, r.2.1 - (r.2.2 + 1) ≤ i → i < r.2.1 → lt (pat r.1 i) (pat r.1 (r.2.1 - 1)) = false ∧ lt (pat r.1 (r.2.1 - 1)) (pat r.1 i) = false) (kas_desc f p n q)
  | 0, p, n, q, hp, h1, h2, hq, h, he => ⟨hp, Nat.le_refl _, Nat.le_refl _, h, hq, he⟩
  | f + 1, p, n, q, hp, h1, h2, hq, h, he => by
    refine ⟨hp.val (by omega), hp.val (by omega), ?_⟩
    show kall _ _ _ (if lt (pat p n) (pat p (n - 1)) = true then _ else _)
    have up : ∀ r : Array Nat × Nat × Nat, PermN N r.1 ∧ n + 1 ≤ r.2.1 ∧ r.2.1 ≤ n + 1 + f ∧ Dsc lt r.1 r.2.1 ∧ r.2.2 < r.2.1 ∧ (∀ i, r.2.1 - (r.2.2 + 1) ≤ i → i < r.2.1 → lt (pat r.1 i) (pat r.1 (r.2.1 - 1)) = false ∧ lt (pat r.1 (r.2.1 - 1)) (pat r.1 i) = false) →
      PermN N r.1 ∧ n ≤ r.2.1 ∧ r.2.1 ≤ n + (f + 1) ∧ Dsc lt r.1 r.2.1 ∧ r.2.2 < r.2.1 ∧ ∀ i, r.2.1 - (r.2.2 + 1) ≤ i → i < r.2.1 → lt (pat r.1 i) (pat r.1 (r.2.1 - 1)) = false ∧ lt (pat r.1 (r.2.1 - 1)) (pat r.1 i) = false :=
      fun r ⟨a, b, c, d⟩ => ⟨a, by (with_reducible exact Nat.le_of_succ_le (by assumption)), by omega, d⟩
    split
    · rename_i c
      have c' := O.asym _ _ c
      have one : ∀ p' : Array Nat, ∀ i, n + 1 - (0 + 1) ≤ i → i < n + 1 → lt (pat p' i) (pat p' (n + 1 - 1)) = false ∧ lt (pat p' (n + 1 - 1)) (pat p' i) = false := by
        intro p' i a b
        have : i = n := by omega
        subst this
        exact ⟨O.refl _, O.refl _⟩
      split
      · rename_i hq0
        have hsz : n ≤ p.size := by rw [hp.size]; omega
        refine kall_mono up (desc_ok O f _ (n + 1) 0 (hp.of (rev_perm _ _ _)) (by omega) (by omega) (by omega) ?_ (one _))
        -- the equal ones were turned round
        have same : ∀ k, k < n → lt (pat (kas_rev p (n - (q + 1)) n) k) (pat p k) = false ∧ lt (pat p k) (pat (kas_rev p (n - (q + 1)) n) k) = false := by
          intro k hk
          rw [pat_rev hsz]
          split
          · rename_i hh
            have e1 := he k (by omega) (by (with_reducible assumption))
            have e2 := he (n - (q + 1) + n - 1 - k) (by omega) (by omega)
            exact ⟨O.trans _ _ _ e1.2 e2.1, O.trans _ _ _ e2.2 e1.1⟩
          · exact ⟨O.refl _, O.refl _⟩
        have hn : pat (kas_rev p (n - (q + 1)) n) n = pat p n := by rw [pat_rev hsz, if_neg (by omega)]
        refine Dsc.step O h1 (fun i j a b => ?_) ?_
        · have s1 := same i (by (with_reducible exact Nat.lt_of_le_of_lt (by assumption) (by assumption)))
          have s2 := same j b
          exact O.trans _ _ _ (O.trans _ _ _ s2.2 (h i j a b)) s1.1
        · have s1 := same (n - 1) (by omega)
          rw [hn]
          exact O.trans _ _ _ c' s1.1
      · exact kall_mono up (desc_ok O f p (n + 1) 0 hp (by omega) (by omega) (by omega) (h.step O h1 c') (one _))
    · rename_i c
      have c' : lt (pat p n) (pat p (n - 1)) = false := by simpa using c
      refine ⟨hp.val (by omega), hp.val (by omega), ?_⟩
      show kall _ _ _ (if lt (pat p (n - 1)) (pat p n) = true then _ else _)
      split
      · exact ⟨hp, Nat.le_refl _, by show n ≤ n + (f + 1); omega, h, hq, he⟩
      · rename_i d
        have d' : lt (pat p (n - 1)) (pat p n) = false := by simpa using d
        refine kall_mono up (desc_ok O f p (n + 1) (q + 1) hp (by omega) (by omega) (by omega) (h.step O h1 d') fun i a b => ?_)
        by_cases hi : i = n
        · subst hi; exact ⟨O.refl _, O.refl _⟩
        · have e1 := he i (by omega) (by omega)
          rw [show n + 1 - 1 = n by omega]
          exact ⟨O.trans _ _ _ d' e1.1, O.trans _ _ _ e1.2 c'⟩

theorem tail3_ok (O : Ord lt) {p : Array Nat} {n : Nat} (hp : PermN N p) (h1 : 1 ≤ n) (h2 : n ≤ N) (h : Dsc lt p n) : kall (· < N) lt (fun r => PermN N r.2 ∧ 1 ≤ r.1 ∧ r.1 ≤ N ∧ Asc lt r.2 r.1) (kas_tail3 n N p) := by
  have hp' := hp.of (rev_perm p 0 n)
  refine kall_bind (kall_mono (fun m ⟨a, b, c, _⟩ => ?_) (asc_ok O hp' (N - n) n h1 (by omega) (Asc.rev (by rw [hp.size]; exact h2) h)))
  exact ⟨hp', by show 1 ≤ m; (with_reducible exact Nat.le_trans (by assumption) (by assumption)), by show m ≤ N; omega, c⟩
theorem descPart_ok (O : Ord lt) {p : Array Nat} {n : Nat} (hp : PermN N p) (h1 : 1 ≤ n) (h2 : n < N) (h : Dsc lt p (n + 1)) : kall (· < N) lt (fun r => PermN N r.2 ∧ 1 ≤ r.1 ∧ r.1 ≤ N ∧ Asc lt r.2 r.1) (kas_descPart n N p) := by
  refine kall_bind (kall_mono ?_ (desc_ok O (N - (n + 1)) p (n + 1) 0 hp (by omega) (by omega) (by omega) h fun i a b => ?_))
  · rintro ⟨p', n', q'⟩ ⟨a, b, c, d, e, f⟩
    dsimp only at a b c d e f ⊢
    split
    · rename_i hq
      refine tail3_ok O (a.of (rev_perm _ _ _)) (by omega) (by omega) fun i j x y => ?_
      have hsz : n' ≤ p'.size := by rw [a.size]; omega
      have same : ∀ k, k < n' → lt (pat (kas_rev p' (n' - (q' + 1)) n') k) (pat p' k) = false ∧ lt (pat p' k) (pat (kas_rev p' (n' - (q' + 1)) n') k) = false := by
        intro k hk
        rw [pat_rev hsz]
        split
        · rename_i hh
          have e1 := f k (by omega) (by (with_reducible assumption))
          have e2 := f (n' - (q' + 1) + n' - 1 - k) (by omega) (by omega)
          exact ⟨O.trans _ _ _ e1.2 e2.1, O.trans _ _ _ e2.2 e1.1⟩
        · exact ⟨O.refl _, O.refl _⟩
      have s1 := same i (by (with_reducible exact Nat.lt_of_le_of_lt (by assumption) (by assumption)))
      have s2 := same j y
      exact O.trans _ _ _ (O.trans _ _ _ s2.2 (d i j x y)) s1.1
    · exact tail3_ok O a (by omega) (by omega) d
  · have : i = n := by omega
    subst this; exact ⟨O.refl _, O.refl _⟩
theorem count_ok (O : Ord lt) {p : Array Nat} (hp : PermN N p) (hN : 1 ≤ N) : kall (· < N) lt (fun r => PermN N r.2 ∧ 1 ≤ r.1 ∧ r.1 ≤ N ∧ Asc lt r.2 r.1) (kas_count N p) := by
  refine kall_bind (kall_mono ?_ (asc_ok O hp (N - 1) 1 (Nat.le_refl _) (by omega) (Asc.one O p)))
  rintro m ⟨a, b, c, d⟩
  split
  · exact ⟨hp, a, by show m ≤ N; omega, c⟩
  · rename_i hm
    have hm' : m ≠ N := by simpa using hm
    have hlt := d (by omega)
    have hle := O.asym _ _ hlt
    split
    · rename_i hgt
      refine ⟨hp.val (by omega), hp.val (by omega), ?_⟩
      show kall _ _ _ (if lt (pat p 0) (pat p (m - 1)) = true then _ else _)
      split
      · exact ⟨hp, a, by show m ≤ N; omega, c⟩
      · rename_i hz
        have hz' : lt (pat p 0) (pat p (m - 1)) = false := by simpa using hz
        have hsz : m ≤ p.size := by rw [hp.size]; omega
        -- all of the first m are equal
        have eqv : ∀ i j, i < m → j < m → lt (pat p i) (pat p j) = false := fun i j hi hj =>
          O.trans _ _ _ (O.trans _ _ _ (c j (m - 1) (by omega) (by omega)) hz') (c 0 i (by (with_reducible exact Nat.zero_le _)) hi)
        refine descPart_ok O (hp.of (rev_perm _ _ _)) (by (with_reducible assumption)) (by omega) (Dsc.step O (by (with_reducible assumption)) (fun i j x y => ?_) ?_)
        · rw [pat_rev hsz, pat_rev hsz, if_pos (by omega), if_pos (by omega)]
          exact eqv _ _ (by omega) (by omega)
        · rw [pat_rev hsz, pat_rev hsz, if_pos (by omega), if_neg (by omega)]
          exact O.trans _ _ _ hle (eqv _ _ (by omega) (by omega))
    · have : m = 1 := by omega
      subst this
      exact descPart_ok O hp (by (with_reducible assumption)) (by omega) (Dsc.step O (by (with_reducible assumption)) (fun i j x y => by
        have : i = j := by omega
        subst this; exact O.refl _) hle)
theorem place_ok (O : Ord lt) {p : Array Nat} (hp : PermN N p) {k : Nat} (hk : k < N) (h : Asc lt p k) : ∀ (f l r : Nat), l ≤ r → r ≤ k → r - l ≤ f → (∀ i, i < l → lt (pat p k) (pat p i) = false) → (∀ i, r ≤ i → i < k → lt (pat p k) (pat p i) = true) →
    kall (· < N) lt (fun m => m ≤ k ∧ (∀ i, i < m → lt (pat p k) (pat p i) = false) ∧ ∀ i, m ≤ i → i < k → lt (pat p k) (pat p i) = true) (kas_place p k f l r)
  | 0, l, r, h1, h2, h3, ha, hb => ⟨by (with_reducible exact Nat.le_trans (by assumption) (by assumption)), ha, fun i x y => hb i (by omega) y⟩
  | f + 1, l, r, h1, h2, h3, ha, hb => by
    unfold kas_place
    split
    · exact ⟨by (with_reducible exact Nat.le_trans (by assumption) (by assumption)), ha, fun i x y => hb i (by (with_reducible exact Nat.le_trans (by assumption) (by assumption))) y⟩
    · rename_i hlr
      refine ⟨hp.val hk, hp.val (by omega), ?_⟩
      show kall _ _ _ (if lt (pat p k) (pat p ((l + r) / 2)) = true then _ else _)
      split
      · rename_i c
        refine place_ok O hp hk h f _ _ (by omega) (by omega) (by omega) ha fun i x y => ?_
        -- k < mid, mid ≤ i
        have m := h ((l + r) / 2) i (by (with_reducible assumption)) y
        cases z : lt (pat p k) (pat p i) with
        | true => rfl
        | false =>
          have := O.trans _ _ _ m z
          rw [c] at this; cases this
      · rename_i c
        have c' : lt (pat p k) (pat p ((l + r) / 2)) = false := by simpa using c
        exact place_ok O hp hk h f _ _ (by omega) (by (with_reducible assumption)) (by omega) (fun i x => O.trans _ _ _ (h i ((l + r) / 2) (by omega) (by omega)) c') hb
theorem bin_ok (O : Ord lt) : ∀ (f : Nat) (p : Array Nat) (k : Nat), PermN N p → 1 ≤ k → k + f = N → Asc lt p k → kall (· < N) lt (fun r => PermN N r ∧ Asc lt r N) (kas_bin f p k)
  | 0, p, k, hp, _, h, ha => ⟨hp, by rw [← h]; exact ha⟩
  | f + 1, p, k, hp, h1, h, ha => by
    refine kall_bind (kall_mono ?_ (place_ok O hp (by omega) ha k 0 k (by (with_reducible exact Nat.zero_le _)) (by omega) (by omega) (fun i x => by omega) fun i x y => by omega))
    rintro l ⟨hl, hlo, hhi⟩
    have hs : k < p.size := by rw [hp.size]; omega
    refine bin_ok O f _ (k + 1) (hp.of (bubble_perm _ _ _)) (by omega) (by omega) fun i j x y => ?_
    rw [pat_bubble hs (by omega), pat_bubble hs (by omega), show k - (k - l) = l by omega]
    repeat' split
    all_goals first
      | exact O.refl _
      | (exfalso; omega)
      | exact ha _ _ (by omega) (by omega)
      | exact hlo _ (by omega)
      | exact O.asym _ _ (hhi _ (by omega) (by omega))
theorem sort_ok (O : Ord lt) (hN : 1 ≤ N) : kall (· < N) lt (fun r => PermN N r ∧ Asc lt r N) (kas_sort N) := by
  have hp : PermN N (List.toArray (List.range N)) := ⟨by simp, by simp⟩
  refine kall_bind (kall_mono ?_ (count_ok O hp hN))
  rintro ⟨m, p⟩ ⟨a, b, c, d⟩
  dsimp only at a b c d ⊢
  split
  · exact bin_ok O _ p _ a (by omega) (by omega) (by rw [show max m 1 = m by omega]; exact d)
  · have : m = N := by omega
    subst this
    exact ⟨a, d⟩
end
end Mine

end
/- part Core24 -/
section
open PySem PySem.W PyProof.Rows
set_option Elab.async false
namespace Mine
open PySem PySem.W PyProof.Rows PySem.Calls PySem.Spec

structure TupV (h : Heap) (v : Value) (t : List Int) (p : List Str) : Prop where
  ex : ∃ a vs us c, v = .ref a ∧ h.get? a = some ({ cls := .type "tuple", data := .seq (vs ++ us).toArray c } : Obj) ∧ IntsV vs t ∧ ∃ l : List (Str × Tok), us = strValues l ∧ l.map (·.1) = p
section
variable {prog : Program} {w : World} {A : Around} {E : Value → Shared → Prop} {s : Shared}
theorem eqBool_str' {a b : Str} {t u : Tok} {Q : Bool → Shared → Prop} (h : Q (decide (a = b)) s) : wpAny (model prog w) A (eqBool (.str a t) (.str b u)) Q E s := wpAny_eqBool_str h
theorem lex_strs {b : Bool} {Q : Bool → Shared → Prop} (h : Q false s) : ∀ (l l' : List (Str × Tok)) (i : Nat), l.map (·.1) = l'.map (·.1) → KatLex prog w A b false Q ((strValues l).zip (strValues l')) i s
  | [], [], i, _ => kat_nil h
  | (x, t) :: l, (y, u) :: l', i, e => by
    simp only [List.map_cons, List.cons.injEq] at e
    obtain ⟨rfl, e⟩ := e
    refine kat_cons (eqBool_str' ?_)
    rw [decide_eq_true rfl]
    exact kat_yes (lex_strs h l l' (i + 1) e)
  | [], _ :: _, i, e => by simp at e
  | _ :: _, [], i, e => by simp at e
theorem lex_ints {b : Bool} {Q : Bool → Shared → Prop} {us us' : List Value} : ∀ {x y : List Int} {vs ws : List Value} (i : Nat), IntsV vs x → IntsV ws y → x.length = y.length → (x = y → KatLex prog w A b false Q (us.zip us') (i + x.length) s) → (x ≠ y → Q (ltI x y) s) →
    KatLex prog w A b false Q ((vs ++ us).zip (ws ++ us')) i s := by
  intro x
  induction x with
  | nil =>
    intro y vs ws i hx hy hl h h'
    cases y with
    | cons _ _ => simp at hl
    | nil => cases hx; cases hy; simpa using h rfl
  | cons a x ih =>
    intro y vs ws i hx hy hl h h'
    cases y with
    | nil => simp at hl
    | cons c y =>
    cases hx with
    | cons hx =>
    cases hy with
    | cons hy =>
    refine kat_cons (wpAny_eqBool_int ?_)
    by_cases hac : a = c
    · subst hac
      rw [beq_self_eq_true]
      refine kat_yes (ih (i + 1) hx hy (by simpa using hl) (fun e => ?_) fun e => ?_)
      · have := h (by rw [e])
        rwa [List.length_cons, show i + (x.length + 1) = i + 1 + x.length by omega] at this
      · have := h' (by simpa using e)
        rwa [ltI, if_pos rfl] at this
    · rw [beq_eq_false_iff_ne.mpr hac]
      have hq := h' (by simp [hac])
      rw [ltI, if_neg hac] at hq
      refine kat_no ?_
      cases hb : b && i == 0 with
      | true => exact oneLt_int hq
      | false => exact kat_one _ _ (PyProof.Rows.lt_int hq)
theorem ltI_irrefl : ∀ x : List Int, ltI x x = false
  | [] => rfl
  | a :: x => by rw [ltI, if_pos rfl]; exact ltI_irrefl x
theorem IntsV.length : ∀ {vs : List Value} {l : List Int}, IntsV vs l → vs.length = l.length
  | _, _, .nil => rfl
  | _, _, .cons r => by simp [IntsV.length r]
theorem strValues_len (l : List (Str × Tok)) : (strValues l).length = l.length := by simp [strValues]
theorem tup_lt {b : Bool} {v u : Value} {t t' : List Int} {p p' : List Str} {Q : Bool → Shared → Prop} (h1 : TupV s.heap v t p) (h2 : TupV s.heap u t' p') (hl : t.length = t'.length) (hp : p.length = p'.length) (hpp : t = t' → p = p') (hq : Q (ltI t t') s) :
    wpAny (model prog w) A (keyLt' (tuples' b) v u) Q E s := by
  obtain ⟨a, vs, us, c, rfl, e, hv, l, rfl, hlp⟩ := h1.ex
  obtain ⟨a', vs', us', c', rfl, e', hv', l', rfl, hlp'⟩ := h2.ex
  refine kat_lt e rfl e' rfl ?_
  have hfin : decide ((vs ++ strValues l).toArray.size < (vs' ++ strValues l').toArray.size) = false := by
    have q1 := hv.length
    have q2 := hv'.length
    have q3 : l.length = l'.length := by rw [← List.length_map (f := (·.1)), hlp, hp, ← hlp', List.length_map]
    refine decide_eq_false ?_
    simp only [List.size_toArray, List.length_append, strValues_len]
    omega
  rw [hfin]
  refine lex_ints 0 hv hv' hl (fun e => lex_strs ?_ l l' _ (by rw [hlp, hlp']; exact hpp e)) fun _ => hq
  subst e
  rw [ltI_irrefl] at hq; exact hq

theorem ltI_asym : ∀ {x y : List Int}, ltI x y = true → ltI y x = false
  | [], [], h => by simp [ltI] at h
  | [], _ :: _, _ => rfl
  | _ :: _, [], h => by simp [ltI] at h
  | a :: x, b :: y, h => by
    rw [ltI] at h ⊢
    by_cases e : a = b
    · subst e; rw [if_pos rfl] at h ⊢; exact ltI_asym h
    · rw [if_neg e] at h; rw [if_neg (Ne.symm e)]
      have := of_decide_eq_true h
      exact decide_eq_false (by omega)
theorem ltI_trans : ∀ {x y z : List Int}, ltI y x = false → ltI z y = false → ltI z x = false
  | [], _, z, _, _ => by cases z <;> rfl
  | _ :: _, [], z, h, _ => by simp [ltI] at h
  | _ :: _, _ :: _, [], _, h => by simp [ltI] at h
  | a :: x, b :: y, c :: z, h1, h2 => by
    rw [ltI] at h1 h2 ⊢
    by_cases e1 : b = a
    · subst e1
      rw [if_pos rfl] at h1
      by_cases e2 : c = b
      · subst e2
        rw [if_pos rfl] at h2 ⊢
        exact ltI_trans h1 h2
      · rw [if_neg e2] at h2 ⊢; exact h2
    · rw [if_neg e1] at h1
      have := of_decide_eq_false h1
      by_cases e2 : c = b
      · subst e2
        rw [if_neg e1]; exact h1
      · rw [if_neg e2] at h2
        have := of_decide_eq_false h2
        by_cases e3 : c = a
        · exfalso; omega
        · rw [if_neg e3]; exact decide_eq_false (by omega)
theorem ltI_total {x y : List Int} (h1 : ltI x y = false) (h2 : ltI y x = false) : x = y := by
  induction x generalizing y with
  | nil => cases y with
    | nil => rfl
    | cons b y => simp [ltI] at h1
  | cons a x ih => cases y with
    | nil => simp [ltI] at h2
    | cons b y =>
      rw [ltI] at h1 h2
      by_cases e : a = b
      · subst e
        rw [if_pos rfl] at h1 h2
        rw [ih h1 h2]
      · rw [if_neg e] at h1
        rw [if_neg (Ne.symm e)] at h2
        have := of_decide_eq_false h1
        have := of_decide_eq_false h2
        omega

noncomputable def midH (h : Heap) (a : Addr) (vs : List Value) : Heap := ((h.update a (Obj.mapSeq fun _ => #[])).push (seqObj "tuple" vs.toArray 0)).push (seqObj "list" #[] 0)
theorem midH_old {h : Heap} {a b : Addr} {vs : List Value} {o : Obj} (hb : b ≠ a) (e : h.get? b = some o) : (midH h a vs).get? b = some o := by
  unfold midH
  have hlt := Heap.lt_size e
  rw [Heap.get?_push_ne _ _ _ (by rw [size_push', Heap.size_update]; exact Nat.ne_of_lt (Nat.lt_succ_of_lt hlt)),
    Heap.get?_push_ne _ _ _ (by rw [Heap.size_update]; exact Nat.ne_of_lt hlt), Heap.get?_update_ne _ _ _ _ hb]
  exact e
theorem zip_small {vs : List Value} (h : vs.length < 2) : (((vs.toArray.zip vs.toArray).map (·.2)) : Array Value) = List.toArray ((List.toArray (List.range vs.length)).toList.map fun i => vs.getD i Value.none) := by
  cases vs with
  | nil => simp
  | cons a r => cases r with
    | nil => simp
    | cons b r => exact absurd h (by simp)
theorem sort_run {a : Addr} {vs : List Value} {n : Nat} {lt : Nat → Nat → Bool} {κ : SortKind} {P : PySem.Fin → Shared → Prop} (ho : s.heap.get? a = some (seqObj "list" vs.toArray n)) (h64 : vs.length < 64) (O : Ord lt)
    (hkind : 2 ≤ vs.length → ∀ (Q : SortKind → Shared → Prop) (E : Value → Shared → Prop), Q κ { s with heap := midH s.heap a vs } → wpAny (model prog w) A (keyKind' vs.toArray) Q E { s with heap := midH s.heap a vs })
    (hask : ∀ i j C, i < vs.length → j < vs.length → C (lt i j) { s with heap := midH s.heap a vs } → kas_ask prog w A κ vs i j C { s with heap := midH s.heap a vs })
    (h : ∀ p : Array Nat, PermN vs.length p → Asc lt p vs.length → P (.done (.ret .none)) { s with heap := sortedHeap s.heap a vs (List.toArray (p.toList.map fun i => vs.getD i Value.none)) }) :
    wpAny (model prog w) A (Builtin.«list.sort» ⟨[.ref a], []⟩) P E s := by
  rw [list_sort_plain]
  have ha : a < s.heap.objs.size := Heap.lt_size ho
  refine wpAny_bind (listItems_at ho rfl ?_)
  refine wpAny_bind (listUpdate_at ho rfl ?_ (by rw [List.size_toArray, sizeLine_eq]; (with_reducible exact Mine.om_ltle (by assumption) (by decide))) (Nat.zero_le _))
  obtain ⟨e1, ho1⟩ : ∃ e1, (s.heap.update a (Obj.mapSeq fun _ => (#[] : Array Value))).get? a = some (seqObj "list" #[] e1) := ⟨_, get?_update_seq ho fun _ => #[]⟩
  refine wpAny_bind (seqEpoch_at ho1 rfl ?_)
  refine wpAny_bind (wpAny_newTuple ?_ (by show vs.length ≤ _; rw [sizeLine_eq]; (with_reducible exact Mine.om_ltle (by assumption) (by decide))))
  refine wpAny_bind (wpAny_newList ?_ (Nat.zero_le _))
  refine wpAny_holding ?_
  have ho6 : (midH s.heap a vs).get? a = some (seqObj "list" #[] e1) := by
    unfold midH
    rw [Heap.get?_push_ne _ _ _ (by rw [size_push', Heap.size_update]; exact Nat.ne_of_lt (Nat.lt_succ_of_lt ha)), Heap.get?_push_ne _ _ _ (by rw [Heap.size_update]; exact Nat.ne_of_lt ha)]
    exact ho1
  show wpAny (model prog w) A _ P E { s with heap := midH s.heap a vs }
  dsimp only
  by_cases h2 : vs.toArray.size < 2
  · rw [if_pos h2, if_pos h2]
    refine wpAny_bind (wpAny_pure ?_)
    rw [StateT.run_pure]
    refine wpAny_bind (wpAny_pure ?_)
    dsimp only
    have h2' : vs.length < 2 := by simpa using h2
    refine wpAny_bind (seqEpoch_at ho6 rfl ?_)
    have hp : PermN vs.length (List.toArray (List.range vs.length)) := ⟨by simp, by simp⟩
    have hA : Asc lt (List.toArray (List.range vs.length)) vs.length := fun i j h1 h3 => by
      have : i = j := by omega
      subst this; exact O.refl _
    have hout : (((vs.toArray.zip vs.toArray).map (·.2)) : Array Value) = List.toArray ((List.toArray (List.range vs.length)).toList.map fun i => vs.getD i Value.none) := zip_small h2'
    refine wpAny_bind (listUpdate_at ho6 rfl ?_ (Nat.zero_le _) ?_)
    · simp only [bne_self_eq_false, Bool.false_eq_true, if_false]
      refine wpAny_pure ?_
      have := h _ hp hA
      rw [← hout] at this
      exact this
    · rw [show (arrOf (SortSt.mk' general' (vs.toArray.zip vs.toArray) #[] 7 none)).map (·.2) = (vs.toArray.zip vs.toArray).map (·.2) from rfl, hout]
      rw [List.size_toArray, sizeLine_eq]; simp; (with_reducible exact Mine.om_ltle (by assumption) (by decide))
  · rw [if_neg h2, if_neg h2]
    have h2' : 2 ≤ vs.length := by simp at h2; (with_reducible assumption)
    refine wpAny_bind (hkind h2' _ _ ?_)
    have hall := kall_wp (G := fun (p : Array Nat) s' => (PermN vs.length p ∧ Asc lt p vs.length) ∧ s' = { s with heap := midH s.heap a vs }) (s := { s with heap := midH s.heap a vs }) hask (fun p hp => ⟨hp, rfl⟩) (sort_ok O (N := vs.length) (by (with_reducible exact Nat.le_of_succ_le (by assumption))))
    refine wpAny_bind (wpAny_mono (kat_run (Q := fun st' s' => ∃ p : Array Nat, p.size = vs.length ∧ arrOf st' = p.map (kas_item (vs.toArray.zip vs.toArray)) ∧ failedOf st' = none ∧ (PermN vs.length p ∧ Asc lt p vs.length) ∧ s' = { s with heap := midH s.heap a vs })
      rfl h2' h64 (fun p' st' s' a1 a2 a3 a4 => ⟨p', a1, a2, a3, a4⟩) hall) ?_ fun _ _ e => e)
    rintro ⟨⟨⟩, st'⟩ s' ⟨p, hp, har, hf, ⟨hP, hA⟩, rfl⟩
    dsimp only
    have hout := kat_snds rfl har
    have hsz : (List.toArray (p.toList.map fun i => vs.getD i Value.none)).size = vs.length := by rw [List.size_toArray, List.length_map, Array.length_toList, hp]
    rw [hout]
    refine wpAny_bind (seqEpoch_at ho6 rfl ?_)
    refine wpAny_bind (listUpdate_at ho6 rfl ?_ (Nat.zero_le _) (Nat.le_trans (Nat.le_of_eq hsz) (by rw [sizeLine_eq]; (with_reducible exact Mine.om_ltle (by assumption) (by decide)))))
    rw [hf]
    simp only [bne_self_eq_false, Bool.false_eq_true, if_false]
    exact wpAny_pure (h p hP hA)
theorem sorted_run {l : Addr} {vs : List Value} {lt : Nat → Nat → Bool} {κ : SortKind} {Q : Value → Shared → Prop} (hl : s.heap.IsList l vs.toArray) (h64 : vs.length < 64) (O : Ord lt)
    (hkind : 2 ≤ vs.length → ∀ h', (∀ b o, s.heap.get? b = some o → h'.get? b = some o) → ∀ (Q : SortKind → Shared → Prop) (E : Value → Shared → Prop), Q κ { s with heap := h' } → wpAny (model prog w) A.in1.in1 (keyKind' vs.toArray) Q E { s with heap := h' })
    (hask : ∀ i j C h', (∀ b o, s.heap.get? b = some o → h'.get? b = some o) → i < vs.length → j < vs.length → C (lt i j) { s with heap := h' } → kas_ask prog w A.in1.in1 κ vs i j C { s with heap := h' })
    (h : ∀ p : Array Nat, PermN vs.length p → Asc lt p vs.length → Q (.ref (s.heap.objs.size + 1)) { s with heap := sortedAll s.heap vs (List.toArray (p.toList.map fun i => vs.getD i Value.none)) }) :
    wpAny (model prog w) A (call (.builtin "sorted") [.ref l]) Q E s := by
  refine Calls.call_function_entry kind_sorted plain_sorted entry_sorted (args_sorted1 _) ?_
  unfold Builtin.«sorted»
  refine wpAny_bind (m := checkCount "sorted" 1 1 _) (wpAny_pure ?_)
  refine wpAny_bind (collect_list hl ?_ (by rw [sizeLine_eq]; (with_reducible exact Mine.om_ltle (by assumption) (by decide))))
  refine wpAny_bind (wpAny_newList ?_ (by rw [sizeLine_eq]; (with_reducible exact Mine.om_ltle (by assumption) (by decide))))
  have hsz : ((s.heap.push (seqObj "list" #[] 0)).update s.heap.objs.size (Obj.mapSeq (· ++ vs.toArray))).objs.size = s.heap.objs.size + 1 := by
    rw [Heap.size_update, size_push']
  have hoL : (((s.heap.push (seqObj "list" #[] 0)).update s.heap.objs.size (Obj.mapSeq (· ++ vs.toArray))).push (seqObj "list" vs.toArray 0)).get? (s.heap.objs.size + 1) = some (seqObj "list" vs.toArray 0) := by
    rw [← hsz]; exact Heap.get?_push_size _ rfl
  have old : ∀ b o, s.heap.get? b = some o → (midH (((s.heap.push (seqObj "list" #[] 0)).update s.heap.objs.size (Obj.mapSeq (· ++ vs.toArray))).push (seqObj "list" vs.toArray 0)) (s.heap.objs.size + 1) vs).get? b = some o := fun b o e => by
    have hlt := Heap.lt_size e
    refine midH_old (Nat.ne_of_lt (Nat.lt_succ_of_lt hlt)) ?_
    rw [Heap.get?_push_ne _ _ _ (by rw [Heap.size_update, size_push']; exact Nat.ne_of_lt (Nat.lt_succ_of_lt hlt)), Heap.get?_update_ne _ _ _ _ (Nat.ne_of_lt hlt), Heap.get?_push_ne _ _ _ (Nat.ne_of_lt hlt)]
    exact e
  show wpAny _ _ _ _ _ { s with heap := ((s.heap.push (seqObj "list" #[] 0)).update s.heap.objs.size (Obj.mapSeq (· ++ vs.toArray))).push (seqObj "list" vs.toArray 0) }
  rw [hsz]
  refine wpAny_bind (wpAny_holding (wpAny_call_entry slot_list_sort ⟨_, hoL, rfl⟩ entry_list_sort (sort_run (lt := lt) (κ := κ) hoL h64 O (fun h2 Q E hq => hkind h2 _ old Q E hq) (fun i j C hi hj hc => hask i j C _ old hi hj hc) fun p a1 a2 => ⟨_, rfl, ?_⟩) (args_list_sort _)))
  exact wpAny_pure ⟨_, rfl, h p a1 a2⟩
end
end Mine

end
/- part Core25 -/
section
open PySem PySem.W PyProof.Rows
set_option Elab.async false
namespace Mine
open PySem PySem.W PyProof.Rows PySem.Calls PySem.Spec

noncomputable def tupW (pay : List Int → List Str) (t : List Int) : AV := .tup (t.map .int ++ (pay t).map .str)
theorem repL_split {h : Heap} {D : List Addr} : ∀ {xs ys : List AV} {vs : List Value}, RepL h D vs (xs ++ ys) → ∃ us ws, vs = us ++ ws ∧ RepL h D us xs ∧ RepL h D ws ys
  | [], _, vs, r => ⟨[], vs, rfl, .nil, r⟩
  | _ :: xs, ys, _, .cons x r => by
    obtain ⟨us, ws, rfl, h1, h2⟩ := repL_split (xs := xs) (ys := ys) r
    exact ⟨_ :: us, ws, rfl, .cons x h1, h2⟩
theorem tupV_of {h : Heap} {D : List Addr} {v : Value} {pay : List Int → List Str} {t : List Int} (r : RepV h D v (tupW pay t)) : TupV h v t (pay t) := by
  unfold tupW at r
  cases r with
  | tup e nb rl =>
    obtain ⟨us, ws, rfl, h1, h2⟩ := repL_split rl
    exact ⟨⟨_, us, ws, _, rfl, e, intsV_of h1, strVals_of h2⟩⟩
theorem TupV.keep {h h' : Heap} {v : Value} {t : List Int} {p : List Str} (T : TupV h v t p) (hk : ∀ b o, h.get? b = some o → h'.get? b = some o) : TupV h' v t p := by
  obtain ⟨a, vs, us, c, e, e2, r⟩ := T.ex
  exact ⟨⟨a, vs, us, c, e, hk _ _ e2, r⟩⟩
theorem getD_of {α : Type} {l : List α} {i : Nat} {d x : α} (h : l[i]? = some x) : l.getD i d = x := by
  rw [List.getD_eq_getElem?_getD, h]; rfl
theorem range_getD {α : Type} (l : List α) (d : α) : (List.range l.length).map (fun i => l.getD i d) = l := by
  apply List.ext_getElem
  · simp
  · intro i h1 h2
    simp [List.getD_eq_getElem?_getD]
    have : i < l.length := by simpa using h2
    simp [this]

section
variable {g : Gr} {A : Around} {s s₀ : Shared} {σ σ₀ : Store} {n : Nat} {env : Env} {ℓ : Loc}
theorem tups_kind {M : Model} {E : Value → Shared → Prop} {vs : List Value} {ts : List (List Int)} {pay : List Int → List Str} (hn : 1 ≤ vs.length) (hl : vs.length = ts.length) (h1 : ∀ t ∈ ts, 1 ≤ t.length) (hv : ∀ i, i < vs.length → TupV s.heap (vs.getD i Value.none) (ts.getD i []) (pay (ts.getD i [])))
    {Q : SortKind → Shared → Prop} (hq : Q (tuples' true) s) : wpAny M A (keyKind' vs.toArray) Q E s := by
  have key : ∀ (vs : List Value) (ts : List (List Int)), vs.length = ts.length → (∀ t ∈ ts, 1 ≤ t.length) → (∀ i, i < vs.length → TupV s.heap (vs.getD i Value.none) (ts.getD i []) (pay (ts.getD i []))) →
      ∃ fs : List Value, KatTups s.heap vs fs ∧ fs.length = vs.length ∧ ∀ v ∈ fs, ∃ i t, v = Value.int i t := by
    intro vs
    induction vs with
    | nil => intro ts _ _ _; exact ⟨[], .nil, rfl, by simp⟩
    | cons v vs ih =>
      intro ts hl h1 hv
      cases ts with
      | nil => simp at hl
      | cons t ts =>
        obtain ⟨fs, k1, k2, k3⟩ := ih ts (by simpa using hl) (fun t ht => h1 t (.tail _ ht)) fun i hi => by
          have := hv (i + 1) (by simpa using hi)
          simpa using this
        obtain ⟨a, us, ws, c, e, e2, hus, _⟩ := (hv 0 (by simp)).ex
        have e : v = .ref a := by simpa using e
        subst e
        have ht1 := h1 t (.head _)
        have hus' : IntsV us t := by simpa using hus
        cases hus' with
        | nil => simp at ht1
        | cons r =>
          refine ⟨_ :: fs, .cons e2 rfl rfl (by simp; rfl) k1, by simp [k2], fun v hv => ?_⟩
          rcases List.mem_cons.mp hv with rfl | hv
          · exact ⟨_, _, rfl⟩
          · exact k3 v hv
  obtain ⟨fs, k1, k2, k3⟩ := key vs ts hl h1 hv
  exact kat_kind (T := .type "int") k1 (by omega) (fun v hv => by obtain ⟨i, t, rfl⟩ := k3 v hv; exact Looks.of_pure rfl) (by decide) hq

theorem CALL_sorted {o : AV} {ts : List (List Int)} {pay : List Int → List Str} {m : Nat} {Q : AV → Store → Prop} (w : View σ o (.lst (ts.map (tupW pay)))) (hm : 1 ≤ m) (hts : ∀ t ∈ ts, t.length = m) (hpay : ∀ t ∈ ts, ∀ t' ∈ ts, (pay t).length = (pay t').length) (hz : ts.length < 64)
    (h : ∀ ts' : List (List Int), ts'.Perm ts → ts'.Pairwise (fun x y => ltI y x = false) → Q (.lst (ts'.map (tupW pay))) σ) : CALL g n (.builtin "sorted") [o] [] σ Q :=
  CALL_1 fun A s v hr hs rv => by
    obtain ⟨a, vs, k, rfl, e, rl⟩ := w.list hs rv
    have hl : s.heap.IsList a vs.toArray := ⟨_, e, rfl, k, rfl⟩
    have hlen := rl.length
    rw [List.length_map] at hlen
    have hv : ∀ i, i < vs.length → ∃ t, ts[i]? = some t ∧ t ∈ ts ∧ TupV s.heap (vs.getD i Value.none) t (pay t) := fun i hi => by
      have hi' : i < ts.length := by (with_reducible exact Mine.om_eqr (by assumption) (by assumption))
      obtain ⟨v, hv, rv⟩ := rl.get (k := i) (d := tupW pay ts[i]) (by simp [hi'])
      refine ⟨ts[i], by simp [hi'], List.getElem_mem hi', ?_⟩
      rw [getD_of hv]; exact tupV_of rv
    have hvD : ∀ i, i < vs.length → ts.getD i [] ∈ ts ∧ TupV s.heap (vs.getD i Value.none) (ts.getD i []) (pay (ts.getD i [])) := fun i hi => by
      obtain ⟨t, h1, h2, h3⟩ := hv i hi
      rw [getD_of h1]; exact ⟨h2, h3⟩
    refine sorted_run (lt := fun i j => ltI (ts.getD i []) (ts.getD j [])) (κ := tuples' true) hl (by (with_reducible exact Mine.om_eqlt (by assumption) (by assumption) (by decide))) ⟨fun i j => ltI_asym, fun i j k => ltI_trans⟩ (fun h2 h' hk Q E hq => ?_) (fun i j C h' hk hi hj hc => ?_) fun p hp hA => ?_
    · exact tups_kind (s := { s with heap := h' }) (by (with_reducible exact Nat.le_of_succ_le (by assumption))) hlen (fun t ht => by rw [hts t ht]; exact hm) (fun i hi => (hvD i hi).2.keep hk) hq
    · obtain ⟨m1, T1⟩ := hvD i hi
      obtain ⟨m2, T2⟩ := hvD j hj
      exact tup_lt (s := { s with heap := h' }) (T1.keep hk) (T2.keep hk) (by rw [hts _ m1, hts _ m2]) (hpay _ m1 _ m2) (fun e => by rw [e]) hc
    · have hperm : (p.toList.map fun i => ts.getD i []).Perm ts := by
        have := hp.perm.map fun i => ts.getD i []
        rwa [hlen, range_getD] at this
      have hpw : (p.toList.map fun i => ts.getD i []).Pairwise (fun x y => ltI y x = false) := by
        rw [List.pairwise_iff_getElem]
        intro i j hi hj hij
        simp only [List.length_map, Array.length_toList] at hi hj
        have hh := hA i j (by (with_reducible exact Nat.le_of_lt (by assumption))) (by rw [← hp.size]; exact hj)
        unfold pat at hh
        simpa [Array.getD, hi, hj] using hh
      obtain ⟨ep, hget⟩ := sortedAll_at s.heap vs (List.toArray (p.toList.map fun i => vs.getD i Value.none))
      have hk : ∀ b ob, s.heap.get? b = some ob → (sortedAll s.heap vs (List.toArray (p.toList.map fun i => vs.getD i Value.none))).get? b = some ob := fun b ob e => sortedAll_old e
      have P := Post.keeps (B := []) hs hk
      have hnew : s.heap.objs.size + 1 ∉ dom σ := fun q => by
        obtain ⟨ob, e⟩ := dom_some hs q
        exact absurd (Heap.lt_size e) (Nat.not_lt.mpr (Nat.le_succ _))
      have hrep : ∀ l : List Nat, (∀ i ∈ l, i < vs.length) → RepL s.heap (dom σ) (l.map fun i => vs.getD i Value.none) ((l.map fun i => ts.getD i []).map (tupW pay)) := by
        intro l
        induction l with
        | nil => intro _; exact .nil
        | cons i l ih =>
          intro hi
          have h1 : i < ts.length := by rw [← hlen]; exact hi i (.head _)
          obtain ⟨v, hv, rv⟩ := rl.get (k := i) (d := tupW pay ts[i]) (by simp [h1])
          rw [List.map_cons, List.map_cons, List.map_cons]
          refine .cons ?_ (ih fun j hj => hi j (.tail _ hj))
          rw [getD_of hv, getD_of (x := ts[i]) (by simp [h1])]
          exact rv
      refine ⟨_, σ, h _ hperm hpw, .lst (vs := p.toList.map fun i => vs.getD i Value.none) hget hnew ((hrep _ fun i hi => ?_).keep P.keepsF), P⟩
      have := (hp.perm.mem_iff).mp hi
      exact List.mem_range.mp this
end

section
variable {prog : Program} {w : World} {A : Around} {R : Result → Shared → Prop} {I : Addr} {fp wr : List Addr} {n : Nat} {P : Nat → Value → Prop} {St : Nat → Heap → Prop} {h₀ : Heap}
noncomputable def CmpH (prog : Program) (w : World) (A : Around) (h₀ : Heap) (P : Nat → Value → Prop) (bt : Nat → Nat → Bool) : Prop :=
  ∀ i j vi vj (s : Shared) (Q : Value → Shared → Prop) (E : Value → Shared → Prop), (∀ b o, h₀.get? b = some o → s.heap.get? b = some o) → P i vi → P j vj → Q (.bool (bt i j)) s → wpAny (model prog w) A (richCompare .Lt vi vj) Q E s

end
section
variable {g : Gr} {A : Around} {s s₀ : Shared} {σ σ₀ : Store} {n : Nat} {env : Env} {ℓ : Loc}
end
end Mine

end
/- part Core26 -/
section
open PySem PySem.W PyProof.Rows
set_option Elab.async false
namespace Mine
open PySem PySem.W PyProof.Rows PySem.Calls PySem.Spec

theorem repL_int_eq {h : Heap} {D D' : List Addr} : ∀ {vs : List Value} {x y : List Int}, RepL h D vs (x.map .int) → RepL h D' vs (y.map .int) → x = y
  | _, [], [], .nil, .nil => rfl
  | _, _ :: x, _ :: y, .cons a r, .cons b r' => by
    cases a; cases b
    rw [repL_int_eq r r']
  | _, [], _ :: _, .nil, h => by cases h
  | _, _ :: _, [], h, .nil => by cases h

section
variable {g : Gr} {A : Around} {s s₀ : Shared} {σ σ₀ : Store} {n : Nat} {env : Env} {ℓ : Loc}
theorem smalls_ints : ∀ (x : List Int) (k : Nat), smalls k (x.map .int) = true
  | [], _ => rfl
  | _ :: x, k => by simp only [List.map_cons, smalls, small, smalls_ints x k, Bool.and_self]
theorem small_tup (x : List Int) : small 9 (.tup (x.map .int)) = true := by simp only [small, smalls_ints]
theorem eqBool_tup {v u : Value} {x y : List Int} {Q : Bool → Shared → Prop} {E : Value → Shared → Prop} (hr : A.units + 20 < cLine) (h1 : RepV s.heap (dom σ) v (.tup (x.map .int))) (h2 : RepV s.heap (dom σ) u (.tup (y.map .int))) (h : Q (decide (x = y)) s) :
    wpAny (model g.prog g.w) A (eqBool v u) Q E s := by
  have kd := small_ok _ 9 (small_tup x)
  have ke := small_ok _ 9 (small_tup y)
  obtain ⟨as, r1⟩ := reads_of h1 kd.1
  obtain ⟨bs, r2⟩ := reads_of h2 ke.1
  have hq : PyData.eqv (py (.tup (x.map .int))) (py (.tup (y.map .int))) = decide (x = y) := by
    have := py_eqv (.tup (x.map .int)) (.tup (y.map .int)) kd.1 ke.1
    have inj : AV.tup (x.map .int) = AV.tup (y.map .int) ↔ x = y := by
      constructor
      · intro e
        injection e with e
        have : ∀ {x y : List Int}, x.map AV.int = y.map AV.int → x = y := by
          intro x
          induction x with
          | nil => intro y e; cases y with
            | nil => rfl
            | cons b y => simp at e
          | cons a x ih => intro y e; cases y with
            | nil => simp at e
            | cons b y => simp only [List.map_cons, List.cons.injEq, AV.int.injEq] at e; rw [e.1, ih e.2]
        exact this e
      · rintro rfl; rfl
    by_cases hq : x = y
    · rw [decide_eq_true hq]; exact this.mpr (inj.mpr hq)
    · rw [decide_eq_false hq]; exact Bool.eq_false_iff.mpr fun z => hq (inj.mp (this.mp z))
  cases h1 with
  | @tup a vs c _ ea na la => cases h2 with
    | @tup b us c' _ eb nb lb =>
      unfold eqBool
      refine wpAny_holding ?_
      by_cases hab : a = b
      · subst hab
        rw [ea] at eb
        have e1 : vs = us := by
          have := congrArg (fun o : Option Obj => o.map (·.data)) eb
          simp only [Option.map_some, Option.some.injEq, Data.seq.injEq] at this
          exact List.toArray_inj this.1
        subst e1
        have e2 := repL_int_eq la lb
        rw [decide_eq_true e2] at h
        rw [if_pos (by simp)]
        exact wpAny_bind (wpAny_rule (wpAny_pure h))
      · rw [if_neg (by simpa using hab)]
        have hu : A.units + min (py (.tup (x.map .int))).depth (py (.tup (y.map .int))).depth < cLine := by have := kd.2.2; have := Nat.min_le_left (py (.tup (x.map .int))).depth (py (.tup (y.map .int))).depth; omega
        refine wpAny_bind (show wpAny _ A (compareOp .Eq (.ref a) (.ref b)) _ _ s from SeqAt.compareEq_reads r1 r2 kd.2.1 ke.2.1 hu ?_)
        rw [hq]
        unfold truthOfDropped
        first
          | exact wpAny_truthy_bool h
          | exact wpAny_bind (wpAny_truthy_bool (wpAny_pure h))
          | exact wpAny_bind (wpAny_truthy_bool (wpAny_bind (wpAny_letGo (wpAny_pure h))))

theorem remove_turns {R : Result → Shared → Prop} {l : Addr} {items : Array Value} {c : Nat} {x : Value} {e : Nat → Bool} {j : Nat} (hl : s.heap.get? l = some { cls := .type "list", dict := none, data := .seq items c, slots := #[] }) (hz : items.size ≤ 1000)
    (he : ∀ i (h : i < items.size) (Q : Bool → Shared → Prop) (E : Value → Shared → Prop), Q (e i) s → wpAny (model g.prog g.w) A.in1 (eqBool items[i] x) Q E s) (hj : j < items.size) (hit : e j = true) (hno : ∀ m, m < j → e m = false)
    (hR : R (.ok (.ret .none)) { s with heap := s.heap.update l (Obj.mapSeq fun xs => xs.eraseIdxIfInBounds j) }) : ∀ k i, j - i = k → i ≤ j → codeAny (model g.prog g.w) A (.builtin "list.remove.loop" ⟨[.ref l, x, rawInt i], []⟩) R s := by
  intro k
  induction k with
  | zero =>
    intro i hk hij
    have : i = j := by omega
    subst this
    refine codeAny_builtin MeetsSeq.entry_remove_loop ?_
    rw [Around.under_plainId MeetsSeq.plain_remove_loop _]
    show wpAny _ _ (Builtin.List.listItems (.ref l) >>= _) _ _ s
    refine wpAny_bind (listItems_at hl rfl ?_)
    have hi : items[((i : Nat) : Int).toNat]? = some items[i] := by simp [hj]
    rw [hi]
    refine wpAny_bind (he i hj _ _ ?_)
    rw [hit]
    have hse := MeetsSeq.size_erased items i
    refine wpAny_bind (listUpdate_at hl rfl ?_ (by rw [sizeLine_eq]; (with_reducible exact Nat.le_trans (by assumption) (by decide))) (by rw [Int.toNat_natCast, sizeLine_eq]; omega))
    exact wpAny_pure hR
  | succ k ih =>
    intro i hk hij
    have hlt : i < items.size := by (with_reducible exact Nat.lt_of_le_of_lt (by assumption) (by assumption))
    refine codeAny_builtin MeetsSeq.entry_remove_loop ?_
    rw [Around.under_plainId MeetsSeq.plain_remove_loop _]
    show wpAny _ _ (Builtin.List.listItems (.ref l) >>= _) _ _ s
    refine wpAny_bind (listItems_at hl rfl ?_)
    have hi : items[((i : Nat) : Int).toNat]? = some items[i] := by simp [hlt]
    rw [hi]
    refine wpAny_bind (he i hlt _ _ ?_)
    rw [hno i (by omega)]
    simp only [Bool.false_eq_true, if_false]
    have hc : ((i : Int) + 1) = ((i + 1 : Nat) : Int) := by push_cast; rfl
    refine wpAny_pure ⟨plainId_quiet MeetsSeq.plain_remove_loop _, ?_⟩
    rw [hc]
    exact ih (i + 1) (by omega) (by omega)
theorem erase_at {t : List Int} : ∀ {ts : List (List Int)}, t ∈ ts → ∃ j, j < ts.length ∧ ts.getD j [] = t ∧ (∀ m, m < j → ts.getD m [] ≠ t) ∧ ts.eraseIdx j = ts.erase t
  | [], h => by simp at h
  | u :: ts, h => by
    by_cases hu : u = t
    · subst hu
      exact ⟨0, by simp, rfl, by simp, by simp⟩
    · obtain ⟨j, h1, h2, h3, h4⟩ := erase_at (ts := ts) ((List.mem_cons.mp h).resolve_left (Ne.symm hu))
      refine ⟨j + 1, by simpa using h1, by simpa using h2, fun m hm => ?_, ?_⟩
      · cases m with
        | zero => simpa using hu
        | succ m => have := h3 m (by omega); simpa using this
      · rw [List.eraseIdx_cons_succ, h4, List.erase_cons_tail (by simpa using hu)]
theorem eraseIdx_map' {α β : Type} (f : α → β) : ∀ (l : List α) (k : Nat), (l.map f).eraseIdx k = (l.eraseIdx k).map f
  | [], _ => rfl
  | _ :: _, 0 => rfl
  | x :: l, k + 1 => by rw [List.map_cons, List.eraseIdx_cons_succ, List.eraseIdx_cons_succ, List.map_cons, eraseIdx_map' f l k]
theorem RepL.eraseIdx {h : Heap} {D : List Addr} : ∀ (k : Nat) {vs : List Value} {ds : List AV}, RepL h D vs ds → RepL h D (vs.eraseIdx k) (ds.eraseIdx k)
  | _, _, _, .nil => .nil
  | 0, _, _, .cons _ r => r
  | k + 1, _, _, .cons x r => .cons x (RepL.eraseIdx k r)
theorem CALL_remove {a : Addr} {ts : List (List Int)} {t : List Int} {Q : AV → Store → Prop} (hl : σ.lookup a = some (.lst (ts.map fun t => .tup (t.map .int)))) (ht : t ∈ ts) (hz : ts.length < 1000) (h : Q .none (upd σ a (.lst ((ts.erase t).map fun t => .tup (t.map .int))))) :
    CALL g (n + 4) (.builtin "list.remove") [.raw (.ref a), .tup (t.map .int)] [] σ Q :=
  CALL_2 fun A s v u hr hs rv ru => by
    cases rv
    obtain ⟨vs, c, e, rl⟩ := hs.rep _ (mem_of_lookupA hl)
    have hlen := rl.length
    rw [List.length_map] at hlen
    obtain ⟨j, hj, hjt, hno, hera⟩ := erase_at ht
    have e' : IsL s.heap a vs.toArray c := e
    refine wpAny_call (codeAny_call_builtin PySem.F.slot_list_remove.plain PySem.F.entry_list_remove (PySem.F.slot_list_remove.check _ _ _ _ _ _ _ _ ⟨_, e, rfl⟩ (PySem.F.args_list_remove_2 _ _) ?_))
    refine wpAny_pure ⟨plainId_quiet MeetsSeq.plain_remove_loop _, ?_⟩
    refine remove_turns (e := fun i => decide (ts.getD i [] = t)) e (by simp; (with_reducible exact Mine.om_eqle (by assumption) (by assumption) (by decide))) (fun i hi Q E hq => ?_) (j := j) (by simp; (with_reducible exact Mine.om_eqr' (by assumption) (by assumption))) (decide_eq_true hjt) (fun m hm => decide_eq_false (hno m hm)) ?_ j 0 (by omega) (by (with_reducible exact Nat.zero_le _))
    · have hi' : i < ts.length := by simp at hi; (with_reducible exact Mine.om_eqr (by assumption) (by assumption))
      obtain ⟨v, hv, rv⟩ := rl.get (k := i) (d := .tup (ts[i].map .int)) (by simp [hi'])
      have ev : vs.toArray[i] = v := by
        have : vs[i]? = some v := hv
        rw [List.getElem?_eq_some_iff] at this
        obtain ⟨_, h⟩ := this
        simpa using h
      rw [ev]
      rw [getD_of (x := ts[i]) (by simp [hi'])] at hq
      exact eqBool_tup (by have := hr.2.2; show A.units + 1 + 20 < cLine; omega) rv ru hq
    · have P := Post.upd (o' := .lst ((ts.erase t).map fun t => .tup (t.map .int))) (h' := s.heap.update a (Obj.mapSeq fun xs => xs.eraseIdxIfInBounds j)) (tk := s.toks) hs hl (Heap.SameBut.update ..) fun k' => by
        have hu := e'.update (fun x => x.eraseIdxIfInBounds j)
        have e1 : vs.toArray.eraseIdxIfInBounds j = (vs.eraseIdx j).toArray := by
          have hlt : j < vs.toArray.size := by simp; (with_reducible exact Mine.om_eqr' (by assumption) (by assumption))
          rw [Array.eraseIdxIfInBounds, dif_pos hlt]
          apply Array.ext'
          simp
        rw [e1] at hu
        refine ⟨vs.eraseIdx j, _, hu, ?_⟩
        have := (RepL.eraseIdx j rl).keep k'
        rw [eraseIdx_map', hera] at this
        exact this
      exact ⟨_, _, h, .none, P⟩
end
end Mine

end
/- part P1b -/
section
open PySem PySem.W PyProof.Rows
set_option Elab.async false
namespace Mine
open PySem PySem.W PyProof.Rows PySem.Calls PySem.Spec

noncomputable abbrev LI := List (List Int)
noncomputable def gt' (xs : LI) (i : Nat) : List Int := xs.getD i []
theorem gt_set {xs : LI} {p i : Nat} {v : List Int} (hp : p < xs.length) : gt' (xs.set p v) i = if i = p then v else gt' xs i := by
  unfold gt'
  rw [List.getD_eq_getElem?_getD, List.getD_eq_getElem?_getD, List.getElem?_set]
  by_cases h : p = i
  · subst h; simp [hp]
  · rw [if_neg h, if_neg (Ne.symm h)]
noncomputable def le (a b : List Int) : Prop := ltI b a = false
theorem le.refl (a : List Int) : le a a := ltI_irrefl a
theorem le.trans {a b c : List Int} (h : le a b) (k : le b c) : le a c := ltI_trans h k
theorem le.of_lt {a b : List Int} (h : ltI a b = true) : le a b := ltI_asym h

theorem set_perm {l : LI} {p : Nat} (hp : p < l.length) (v : List Int) : (l.set p v).Perm (v :: l.eraseIdx p) := by
  have h := erase_perm (l.set p v) p (by simpa using hp)
  rw [List.getElem_set_self, List.eraseIdx_set_eq] at h
  exact h.symm
theorem self_perm {l : LI} {p : Nat} (hp : p < l.length) : l.Perm (gt' l p :: l.eraseIdx p) := by
  have h := erase_perm l p hp
  unfold gt'
  rw [List.getD_eq_getElem?_getD, List.getElem?_eq_getElem hp]
  exact h.symm
theorem move_perm {l : LI} {p q : Nat} (hp : p < l.length) (hq : q < l.length) (hpq : p ≠ q) (x : List Int) : ((l.set p (gt' l q)).set q x).Perm (l.set p x) := by
  have hq' : q < (l.set p (gt' l q)).length := by simpa using hq
  have h1 := set_perm hp (gt' l q)
  have h2 := set_perm hq' x
  have h3 := self_perm hq'
  rw [gt_set hp, if_neg (Ne.symm hpq)] at h3
  have h4 : (l.eraseIdx p).Perm ((l.set p (gt' l q)).eraseIdx q) := (List.perm_cons _).mp (h1.symm.trans h3)
  exact h2.trans ((h4.symm.cons x).trans (set_perm hp x).symm)

noncomputable def HeapFrom (s : Nat) (xs : LI) : Prop := ∀ i, 0 < i → i < xs.length → s ≤ (i - 1) / 2 → le (gt' xs ((i - 1) / 2)) (gt' xs i)
inductive Under (s : Nat) : Nat → Prop
  | base : Under s s
  | left {p} : Under s p → Under s (2 * p + 1)
  | right {p} : Under s p → Under s (2 * p + 2)
theorem Under.le {s p : Nat} (h : Under s p) : s ≤ p := by induction h <;> omega
theorem Under.up {s p : Nat} (h : Under s p) (hp : s < p) : Under s ((p - 1) / 2) := by
  cases h with
  | base => omega
  | @left p h => rw [show (2 * p + 1 - 1) / 2 = p by omega]; exact h
  | @right p h => rw [show (2 * p + 2 - 1) / 2 = p by omega]; exact h

structure Hole (s pos : Nat) (x : List Int) (ys : LI) : Prop where
  rest : ∀ i, 0 < i → i < ys.length → s ≤ (i - 1) / 2 → i ≠ pos → (i - 1) / 2 ≠ pos → le (gt' ys ((i - 1) / 2)) (gt' ys i)
  kids : ∀ i, 0 < i → i < ys.length → (i - 1) / 2 = pos → le x (gt' ys i)
  grand : s < pos → ∀ i, 0 < i → i < ys.length → (i - 1) / 2 = pos → le (gt' ys ((pos - 1) / 2)) (gt' ys i)

theorem sd_ok {s : Nat} {x : List Int} : ∀ (pos : Nat) (ys : LI), Under s pos → pos < ys.length → Hole s pos x ys → HeapFrom s (sdF ltI x s pos ys) ∧ (sdF ltI x s pos ys).Perm (ys.set pos x) := by
  intro pos
  induction pos using Nat.strongRecOn with
  | ind pos ih =>
    intro ys hu hp H
    rw [sdF]
    by_cases hsp : s < pos
    · have hpar : (pos - 1) / 2 < ys.length := by omega
      have hlt : (pos - 1) / 2 < pos := by omega
      rw [dif_pos hsp, List.getElem?_eq_getElem hpar]
      have hy : ys[(pos - 1) / 2] = gt' ys ((pos - 1) / 2) := by unfold gt'; rw [List.getD_eq_getElem?_getD, List.getElem?_eq_getElem hpar]; rfl
      have hup := hu.up hsp
      have hsl := hup.le
      dsimp only
      rw [hy]
      split
      · rename_i hc
        have hx := le.of_lt hc
        have H' : Hole s ((pos - 1) / 2) x (ys.set pos (gt' ys ((pos - 1) / 2))) := by
          refine ⟨fun i a b c d e => ?_, fun i a b c => ?_, fun hs i a b c => ?_⟩
          · rw [List.length_set] at b
            rw [gt_set hp, gt_set hp]
            have hip : i ≠ pos := by rintro rfl; exact e rfl
            rw [if_neg hip]
            by_cases hpp : (i - 1) / 2 = pos
            · rw [if_pos hpp]; exact H.grand hsp i a b hpp
            · rw [if_neg hpp]; exact H.rest i a b c hip hpp
          · rw [List.length_set] at b
            rw [gt_set hp]
            by_cases hip : i = pos
            · rw [if_pos hip]; exact hx
            · rw [if_neg hip]
              refine hx.trans ?_
              have := H.rest i a b (by omega) hip (by omega)
              rwa [c] at this
          · rw [List.length_set] at b
            rw [gt_set hp, gt_set hp, if_neg (by omega)]
            have hpp := H.rest ((pos - 1) / 2) (by omega) hpar (hup.up hs).le (by omega) (by omega)
            by_cases hip : i = pos
            · rw [if_pos hip]; exact hpp
            · rw [if_neg hip]
              refine hpp.trans ?_
              have := H.rest i a b (by omega) hip (by omega)
              rwa [c] at this
        obtain ⟨h1, h2⟩ := ih _ hlt (ys.set pos (gt' ys ((pos - 1) / 2))) hup (by simpa using hpar) H'
        exact ⟨h1, h2.trans (move_perm hp hpar (by omega) x)⟩
      · rename_i hc
        have hx : le (gt' ys ((pos - 1) / 2)) x := by
          show ltI x (gt' ys ((pos - 1) / 2)) = false
          simpa using hc
        refine ⟨fun i a b c => ?_, .refl _⟩
        rw [List.length_set] at b
        rw [gt_set hp, gt_set hp]
        by_cases hip : i = pos
        · subst hip; rw [if_pos rfl, if_neg (by omega)]; exact hx
        · rw [if_neg hip]
          by_cases hpp : (i - 1) / 2 = pos
          · rw [if_pos hpp]; exact H.kids i a b hpp
          · rw [if_neg hpp]; exact H.rest i a b c hip hpp
    · rw [dif_neg hsp]
      have hps : pos = s := by have := hu.le; omega
      refine ⟨fun i a b c => ?_, .refl _⟩
      rw [List.length_set] at b
      rw [gt_set hp, gt_set hp]
      have hip : i ≠ pos := by omega
      rw [if_neg hip]
      by_cases hpp : (i - 1) / 2 = pos
      · rw [if_pos hpp]; exact H.kids i a b hpp
      · rw [if_neg hpp]; exact H.rest i a b c hip hpp

structure Down (s p : Nat) (ys : LI) : Prop where
  rest : ∀ i, 0 < i → i < ys.length → s ≤ (i - 1) / 2 → i ≠ p → (i - 1) / 2 ≠ p → le (gt' ys ((i - 1) / 2)) (gt' ys i)
  grand : s < p → ∀ i, 0 < i → i < ys.length → (i - 1) / 2 = p → le (gt' ys ((p - 1) / 2)) (gt' ys i)
theorem su_ok {s : Nat} (x : List Int) : ∀ (k p : Nat) (ys : LI), ys.length - p ≤ k → Under s p → p < ys.length → Down s p ys →
    Under s (suL ltI p ys).1 ∧ (suL ltI p ys).1 < ys.length ∧ (suL ltI p ys).2.length = ys.length ∧ Hole s (suL ltI p ys).1 x (suL ltI p ys).2 ∧ ((suL ltI p ys).2.set (suL ltI p ys).1 x).Perm (ys.set p x) := by
  intro k
  induction k with
  | zero => intro p ys h1 _ h2 _; omega
  | succ k ih =>
    intro p ys hk hu hp D
    rw [suL]
    by_cases hc : 2 * p + 1 < ys.length
    · rw [if_pos hc]
      dsimp only
      -- the lesser child
      obtain ⟨c, hce, hcl, hcp, huc, hmin⟩ : ∃ c, (if 2 * p + 2 < ys.length ∧ ltI (ys.getD (2 * p + 1) []) (ys.getD (2 * p + 2) []) = false then 2 * p + 2 else 2 * p + 1) = c ∧ c < ys.length ∧ (c - 1) / 2 = p ∧ Under s c ∧ 0 < c ∧ ∀ i, 0 < i → i < ys.length → (i - 1) / 2 = p → le (gt' ys c) (gt' ys i) := by
        split
        · rename_i h
          refine ⟨_, rfl, h.1, by omega, hu.right, by omega, fun i a b e => ?_⟩
          have : i = 2 * p + 1 ∨ i = 2 * p + 2 := by omega
          rcases this with rfl | rfl
          · exact h.2
          · exact le.refl _
        · rename_i h
          refine ⟨_, rfl, hc, by omega, hu.left, by omega, fun i a b e => ?_⟩
          have : i = 2 * p + 1 ∨ i = 2 * p + 2 := by omega
          rcases this with rfl | rfl
          · exact le.refl _
          · have hne : ltI (ys.getD (2 * p + 1) []) (ys.getD (2 * p + 2) []) = true := by
              cases q : ltI (ys.getD (2 * p + 1) []) (ys.getD (2 * p + 2) []) with
              | true => rfl
              | false => exact absurd ⟨b, q⟩ h
            exact le.of_lt hne
      rw [hce]
      have hc0 := hmin.1
      have hmin := hmin.2
      have hpc : p < c := by omega
      have D' : Down s c (ys.set p (ys.getD c [])) := by
        refine ⟨fun i a b d e f => ?_, fun hs i a b d => ?_⟩
        · rw [List.length_set] at b
          rw [gt_set hp, gt_set hp]
          by_cases hip : i = p
          · subst hip
            rw [if_neg (by omega), if_pos rfl]
            exact D.grand (by omega) c hc0 hcl hcp
          · rw [if_neg hip]
            by_cases hpp : (i - 1) / 2 = p
            · rw [if_pos hpp]; exact hmin i a b hpp
            · rw [if_neg hpp]; exact D.rest i a b d hip hpp
        · rw [List.length_set] at b
          rw [gt_set hp, gt_set hp, hcp, if_pos rfl, if_neg (by omega)]
          have hsp := hu.le
          have := D.rest i a b (by omega) (by omega) (by omega)
          rwa [d] at this
      obtain ⟨h1, h2, h3, h4, h5⟩ := ih c (ys.set p (ys.getD c [])) (by rw [List.length_set]; omega) huc (by simpa using hcl) D'
      rw [List.length_set] at h2 h3
      exact ⟨h1, h2, h3, h4, h5.trans (move_perm hp hcl (by omega) x)⟩
    · rw [if_neg hc]
      exact ⟨hu, hp, rfl, ⟨D.rest, fun i a b e => by dsimp only at b; omega, fun _ i a b e => by dsimp only at b; omega⟩, .refl _⟩
theorem suF_ok {s : Nat} {xs : LI} (hs : s < xs.length) (h : HeapFrom (s + 1) xs) : HeapFrom s (suF ltI s xs) ∧ (suF ltI s xs).Perm xs := by
  obtain ⟨h1, h2, h3, h4, h5⟩ := su_ok (s := s) (gt' xs s) _ s xs (Nat.le_refl _) .base hs ⟨fun i a b c d e => h i a b (by omega), fun q => by omega⟩
  unfold suF
  have hlen : (suL ltI s xs).1 < ((suL ltI s xs).2.set (suL ltI s xs).1 (gt' xs s)).length := by rw [List.length_set, h3]; exact h2
  have h2' : (suL ltI s xs).1 < (suL ltI s xs).2.length := by rw [h3]; exact h2
  have H' : Hole s (suL ltI s xs).1 (gt' xs s) ((suL ltI s xs).2.set (suL ltI s xs).1 (gt' xs s)) := by
    refine ⟨fun i a b c d e => ?_, fun i a b e => ?_, fun q i a b e => ?_⟩
    · rw [List.length_set] at b
      rw [gt_set h2', gt_set h2', if_neg e, if_neg d]
      exact h4.rest i a b c d e
    · rw [List.length_set] at b
      rw [gt_set h2', if_neg (by omega)]
      exact h4.kids i a b e
    · rw [List.length_set] at b
      rw [gt_set h2', gt_set h2', if_neg (by omega), if_neg (by omega)]
      exact h4.grand q i a b e
  obtain ⟨k1, k2⟩ := sd_ok (x := gt' xs s) _ ((suL ltI s xs).2.set (suL ltI s xs).1 (gt' xs s)) h1 hlen H'
  refine ⟨k1, k2.trans ?_⟩
  rw [List.set_set]
  refine h5.trans ?_
  have := set_perm hs (gt' xs s)
  exact this.trans (self_perm hs).symm

noncomputable def IsHeap (xs : LI) : Prop := HeapFrom 0 xs
theorem IsHeap.root {xs : LI} (h : IsHeap xs) : ∀ i, i < xs.length → le (gt' xs 0) (gt' xs i) := by
  intro i
  induction i using Nat.strongRecOn with
  | ind i ih =>
    intro hi
    by_cases h0 : i = 0
    · subst h0; exact le.refl _
    · exact (ih ((i - 1) / 2) (by omega) (by omega)).trans (h i (by omega) hi (by (with_reducible exact Nat.zero_le _)))
theorem push_ok {xs : LI} {t : List Int} (h : IsHeap xs) : IsHeap (pushF xs t) ∧ (pushF xs t).Perm (t :: xs) := by
  have hl : xs.length < (xs ++ [t]).length := by simp
  have hu : ∀ n, Under 0 n := by
    intro n
    induction n using Nat.strongRecOn with
    | ind n ih =>
      by_cases h0 : n = 0
      · subst h0; exact .base
      · have := ih ((n - 1) / 2) (by omega)
        rcases Nat.mod_two_eq_zero_or_one n with e | e
        · have q := this.right; rwa [show 2 * ((n - 1) / 2) + 2 = n by omega] at q
        · have q := this.left; rwa [show 2 * ((n - 1) / 2) + 1 = n by omega] at q
  have hget : ∀ i, i < xs.length → gt' (xs ++ [t]) i = gt' xs i := fun i hi => by unfold gt'; rw [List.getD_eq_getElem?_getD, List.getD_eq_getElem?_getD, List.getElem?_append_left hi]
  have H' : Hole 0 xs.length t (xs ++ [t]) := by
    refine ⟨fun i a b c d e => ?_, fun i a b e => by simp at b; omega, fun _ i a b e => by simp at b; omega⟩
    simp at b
    rw [hget _ (by omega), hget _ (by omega)]
    exact h i a (by omega) c
  obtain ⟨h1, h2⟩ := sd_ok (s := 0) (x := t) xs.length (xs ++ [t]) (hu _) hl H'
  refine ⟨h1, h2.trans ?_⟩
  have e : (xs ++ [t]).set xs.length t = xs ++ [t] := by simp
  rw [e]
  exact List.perm_append_comm
theorem pop_ok {xs : LI} {t : List Int} (h : IsHeap (xs ++ [t])) : IsHeap (popF xs t) ∧ (gt' (xs ++ [t]) 0 :: popF xs t).Perm (xs ++ [t]) ∧ ∀ y ∈ xs ++ [t], le (gt' (xs ++ [t]) 0) y := by
  refine ⟨?_, ?_, fun y hy => ?_⟩
  rotate_left 2
  · obtain ⟨i, hi, rfl⟩ := List.getElem_of_mem hy
    have := h.root i hi
    unfold gt' at this ⊢
    rwa [List.getD_eq_getElem?_getD (i := i), List.getElem?_eq_getElem hi] at this
  · cases xs with
    | nil => intro i a b; simp [popF] at b
    | cons y ys =>
      refine (suF_ok (by simp) fun i a b c => ?_).1
      simp at b
      have := h i a (by simp; omega) (by (with_reducible exact Nat.zero_le _))
      have hg : ∀ k, 0 < k → k < ys.length + 1 → gt' (y :: ys ++ [t]) k = gt' ((y :: ys).set 0 t) k := fun k k1 k2 => by
        rw [gt_set (by simp), if_neg (by omega)]
        unfold gt'
        rw [List.getD_eq_getElem?_getD, List.getD_eq_getElem?_getD, List.getElem?_append_left (by simpa using k2)]
      rw [hg _ (by omega) (by omega), hg _ (by (with_reducible assumption)) (by (with_reducible assumption))] at this
      exact this
  · cases xs with
    | nil => exact .refl _
    | cons y ys =>
      have := (suF_ok (s := 0) (xs := (y :: ys).set 0 t) (by simp) fun i a b c => by
        simp at b
        have := h i a (by simp; omega) (by (with_reducible exact Nat.zero_le _))
        have hg : ∀ k, 0 < k → k < ys.length + 1 → gt' (y :: ys ++ [t]) k = gt' ((y :: ys).set 0 t) k := fun k k1 k2 => by
          rw [gt_set (by simp), if_neg (by omega)]
          unfold gt'
          rw [List.getD_eq_getElem?_getD, List.getD_eq_getElem?_getD, List.getElem?_append_left (by simpa using k2)]
        rw [hg _ (by omega) (by omega), hg _ (by (with_reducible assumption)) (by (with_reducible assumption))] at this
        exact this).2
      show (y :: suF ltI 0 ((y :: ys).set 0 t)).Perm _
      refine (this.cons y).trans ?_
      show (y :: t :: ys).Perm (y :: (ys ++ [t]))
      exact (List.perm_append_comm (l₁ := [t]) (l₂ := ys)).cons y
theorem heapF_ok : ∀ (k : Nat) (xs : LI), k ≤ xs.length / 2 → HeapFrom k xs → IsHeap (heapF xs k) ∧ (heapF xs k).Perm xs
  | 0, xs, _, h => ⟨h, .refl _⟩
  | k + 1, xs, hk, h => by
    obtain ⟨h1, h2⟩ := suF_ok (s := k) (by omega) h
    obtain ⟨h3, h4⟩ := heapF_ok k (suF ltI k xs) (by rw [h2.length_eq]; (with_reducible exact Nat.le_of_succ_le (by assumption))) h1
    exact ⟨h3, h4.trans h2⟩
theorem heapify_ok (xs : LI) : IsHeap (heapifyF xs) ∧ (heapifyF xs).Perm xs :=
  heapF_ok _ xs (Nat.le_refl _) fun i a b c => by omega
end Mine

end
/- part L2p -/
section
open PySem PySem.W PyProof.Rows
set_option Elab.async false
namespace Mine
open PySem PySem.W PyProof.Rows PySem.Calls PySem.Spec

noncomputable abbrev Blk := Nat × Nat
noncomputable def enc (b : Blk) : List Int := [(b.1 : Int), ((2 ^ b.2 : Nat) : Int)]
noncomputable def frB (c : Nat → Bool) (k a : Nat) : Bool := (List.range (2 ^ k)).all fun i => !c (a + i)
noncomputable def wid (c : Nat → Bool) : Nat → Nat → List Blk
  | 0, a => if frB c 0 a then [(a, 0)] else []
  | k + 1, a => if frB c (k + 1) a then [(a, k + 1)] else wid c k a ++ wid c k (a + 2 ^ k)
noncomputable def isIn (b : Blk) (i : Nat) : Bool := decide (b.1 ≤ i) && decide (i < b.1 + 2 ^ b.2)
theorem isIn_iff {b : Blk} {i : Nat} : isIn b i = true ↔ b.1 ≤ i ∧ i < b.1 + 2 ^ b.2 := by simp [isIn]

theorem frB_iff {c : Nat → Bool} {k a : Nat} : frB c k a = true ↔ ∀ i, a ≤ i → i < a + 2 ^ k → c i = false := by
  unfold frB
  rw [List.all_eq_true]
  constructor
  · intro h i h1 h2
    have := h (i - a) (List.mem_range.mpr (by omega))
    rw [show a + (i - a) = i by omega] at this
    simpa using this
  · intro h i hi
    have := h (a + i) (by omega) (by have := List.mem_range.mp hi; omega)
    simp [this]
theorem two_pos (k : Nat) : 0 < 2 ^ k := Nat.pow_pos (by decide)
theorem two_succ (k : Nat) : 2 ^ (k + 1) = 2 ^ k + 2 ^ k := by rw [Nat.pow_succ]; omega
theorem frB_half {c : Nat → Bool} {k a : Nat} : frB c (k + 1) a = (frB c k a && frB c k (a + 2 ^ k)) := by
  rw [Bool.eq_iff_iff, Bool.and_eq_true, frB_iff, frB_iff, frB_iff, two_succ]
  constructor
  · exact fun h => ⟨fun i h1 h2 => h i h1 (by omega), fun i h1 h2 => h i (by omega) (by omega)⟩
  · rintro ⟨h, h'⟩ i h1 h2
    by_cases q : i < a + 2 ^ k
    · exact h i h1 q
    · exact h' i (by omega) (by omega)
theorem wid_free {c : Nat → Bool} {k a : Nat} (h : frB c k a = true) : wid c k a = [(a, k)] := by
  cases k <;> rw [wid, if_pos h]
theorem wid_split {c : Nat → Bool} {k a : Nat} (h : frB c (k + 1) a = false) : wid c (k + 1) a = wid c k a ++ wid c k (a + 2 ^ k) := by
  rw [wid, if_neg (by simp [h])]
theorem wid_full {c : Nat → Bool} : ∀ {k a : Nat}, (∀ i, a ≤ i → i < a + 2 ^ k → c i = true) → wid c k a = []
  | 0, a, h => by
    rw [wid, if_neg]
    intro q
    have := frB_iff.mp q a (Nat.le_refl _) (by have := two_pos 0; omega)
    rw [h a (Nat.le_refl _) (by have := two_pos 0; omega)] at this; cases this
  | k + 1, a, h => by
    rw [two_succ] at h
    have hf : frB c (k + 1) a = false := by
      rw [Bool.eq_false_iff]
      intro q
      have := frB_iff.mp q a (Nat.le_refl _) (by have := two_pos (k + 1); omega)
      rw [h a (Nat.le_refl _) (by have := two_pos k; omega)] at this; cases this
    rw [wid_split hf, wid_full (fun i h1 h2 => h i h1 (by omega)), wid_full (fun i h1 h2 => h i (by omega) (by omega))]; rfl
theorem frB_congr {c c' : Nat → Bool} {k a : Nat} (h : ∀ i, a ≤ i → i < a + 2 ^ k → c i = c' i) : frB c k a = frB c' k a := by
  rw [Bool.eq_iff_iff, frB_iff, frB_iff]
  exact ⟨fun q i h1 h2 => (h i h1 h2).symm.trans (q i h1 h2), fun q i h1 h2 => (h i h1 h2).trans (q i h1 h2)⟩
theorem wid_congr {c c' : Nat → Bool} : ∀ {k a : Nat}, (∀ i, a ≤ i → i < a + 2 ^ k → c i = c' i) → wid c k a = wid c' k a
  | 0, a, h => by rw [wid, wid, frB_congr h]
  | k + 1, a, h => by
    have h' := h
    rw [two_succ] at h'
    rw [wid, wid, frB_congr h, wid_congr (fun i h1 h2 => h' i h1 (by omega)), wid_congr (fun i h1 h2 => h' i (by omega) (by omega))]
structure WidB (c : Nat → Bool) (k a : Nat) (b : Blk) : Prop where
  lo : a ≤ b.1
  hi : b.1 + 2 ^ b.2 ≤ a + 2 ^ k
  lev : b.2 ≤ k
  free : frB c b.2 b.1 = true
theorem wid_mem {c : Nat → Bool} : ∀ {k a : Nat} {b : Blk}, b ∈ wid c k a → WidB c k a b
  | 0, a, b, h => by
    rw [wid] at h
    split at h
    · rename_i q; rw [List.mem_singleton.mp h]; exact ⟨Nat.le_refl _, Nat.le_refl _, Nat.le_refl _, q⟩
    · cases h
  | k + 1, a, b, h => by
    by_cases q : frB c (k + 1) a = true
    · rw [wid_free q] at h
      rw [List.mem_singleton.mp h]; exact ⟨Nat.le_refl _, Nat.le_refl _, Nat.le_refl _, q⟩
    · rw [wid_split (by simpa using q)] at h
      have e := two_succ k
      have pk := two_pos k
      rcases List.mem_append.mp h with h | h
      · have W := wid_mem h
        exact ⟨W.lo, by have := W.hi; omega, by have := W.lev; omega, W.free⟩
      · have W := wid_mem h
        exact ⟨by have := W.lo; omega, by have := W.hi; omega, by have := W.lev; omega, W.free⟩
theorem wid_top {c : Nat → Bool} {k a : Nat} : (a, k) ∈ wid c k a ↔ frB c k a = true :=
  ⟨fun h => (wid_mem h).free, fun h => by rw [wid_free h]; exact .head _⟩
theorem wid_cover {c : Nat → Bool} : ∀ {k a i : Nat}, a ≤ i → i < a + 2 ^ k → ((wid c k a).any fun b => isIn b i) = !c i
  | 0, a, i, h1, h2 => by
    have e : i = a := by have : 2 ^ 0 = 1 := rfl; omega
    subst e
    by_cases q : frB c 0 i = true
    · rw [wid_free q, frB_iff.mp q i h1 h2]
      simp [isIn]
    · rw [wid, if_neg q]
      have : c i = true := by
        cases z : c i with
        | true => rfl
        | false => exact absurd (frB_iff.mpr fun j j1 j2 => by rw [show j = i by have : 2 ^ 0 = 1 := rfl; omega]; exact z) q
      rw [this]; rfl
  | k + 1, a, i, h1, h2 => by
    by_cases q : frB c (k + 1) a = true
    · rw [wid_free q, frB_iff.mp q i h1 h2]
      simp [isIn, h1, h2]
    · rw [wid_split (by simpa using q), List.any_append]
      have e := two_succ k
      have pk := two_pos k
      have none_of : ∀ {x : Nat}, (i < x ∨ x + 2 ^ k ≤ i) → ((wid c k x).any fun b => isIn b i) = false := fun {x} hx => by
        rw [List.any_eq_false]
        intro b hb z
        have W := wid_mem hb
        have := isIn_iff.mp z
        have := W.lo
        have := W.hi
        omega
      by_cases z : i < a + 2 ^ k
      · rw [wid_cover h1 z, none_of (x := a + 2 ^ k) (.inl z), Bool.or_false]
      · rw [wid_cover (a := a + 2 ^ k) (by omega) (by omega), none_of (x := a) (.inr (by omega)), Bool.false_or]
theorem wid_sorted {c : Nat → Bool} : ∀ {k a : Nat}, (wid c k a).Pairwise fun x y => x.1 < y.1
  | 0, a => by rw [wid]; split <;> simp
  | k + 1, a => by
    by_cases q : frB c (k + 1) a = true
    · rw [wid_free q]; simp
    · rw [wid_split (by simpa using q), List.pairwise_append]
      refine ⟨wid_sorted, wid_sorted, fun x hx y hy => ?_⟩
      have X := wid_mem hx
      have Y := wid_mem hy
      have := X.hi
      have := Y.lo
      have := two_pos x.2
      omega

inductive MgR : Nat → List Blk → Nat → Nat → List Blk → Prop
  | step {j S f m T} : (f ^^^ 2 ^ m, m) ∈ S → MgR j (S.erase (f ^^^ 2 ^ m, m)) (min f (f ^^^ 2 ^ m)) (m + 1) T → MgR (j + 1) S f m T
  | done {S f m} : (f ^^^ 2 ^ m, m) ∉ S → MgR 0 S f m ((f, m) :: S)
theorem MgR.perm {j : Nat} {S T : List Blk} {f m : Nat} (h : MgR j S f m T) : ∀ {S' : List Blk}, S'.Perm S → ∃ T', MgR j S' f m T' ∧ T'.Perm T := by
  induction h with
  | step hm _ ih =>
    intro S' p
    obtain ⟨T', h, q⟩ := ih (p.erase _)
    exact ⟨T', .step (p.mem_iff.mpr hm) h, q⟩
  | done hm =>
    intro S' p
    exact ⟨_, .done fun z => hm (p.mem_iff.mp z), p.cons _⟩
inductive MgE (c c' : Nat → Bool) (f j : Nat) (k a : Nat) (S rest : List Blk) : Prop
  | up (fr : frB c' k a = true) (h : ∀ i T, MgR i rest a k T → ∃ i' T', MgR i' S f j T' ∧ T'.Perm T)
  | fin (fr : frB c' k a = false) (h : ∃ i T, MgR i S f j T ∧ T.Perm (wid c' k a ++ rest))
structure Give (c c' : Nat → Bool) (f j : Nat) : Prop where
  was : ∀ i, f ≤ i → i < f + 2 ^ j → c i = true
  now : ∀ i, f ≤ i → i < f + 2 ^ j → c' i = false
  off : ∀ i, i < f ∨ f + 2 ^ j ≤ i → c' i = c i
theorem xor_lo : ∀ a, a < 16 → ∀ k, k < 4 → a % 2 ^ (k + 1) = 0 → a ^^^ 2 ^ k = a + 2 ^ k := by decide
theorem xor_hi : ∀ a, a < 16 → ∀ k, k < 4 → a % 2 ^ (k + 1) = 0 → (a + 2 ^ k) ^^^ 2 ^ k = a := by decide
theorem Give.occ {c c' : Nat → Bool} {f j k a : Nat} (G : Give c c' f j) (h1 : a ≤ f) (h2 : f + 2 ^ j ≤ a + 2 ^ k) : frB c k a = false := by
  rw [Bool.eq_false_iff]
  intro q
  have := two_pos j
  have := frB_iff.mp q f h1 (by omega)
  rw [G.was f (Nat.le_refl _) (by omega)] at this; cases this
theorem half_in {f j k a : Nat} (hj : j ≤ k) (hf : f % 2 ^ j = 0) (ha : a % 2 ^ (k + 1) = 0) (h1 : a ≤ f) (h2 : f + 2 ^ j ≤ a + 2 ^ (k + 1)) : f + 2 ^ j ≤ a + 2 ^ k ∨ a + 2 ^ k ≤ f := by
  obtain ⟨d, rfl⟩ : ∃ d, k = j + d := ⟨k - j, by omega⟩
  have e1 : 2 ^ (j + d) = 2 ^ j * 2 ^ d := Nat.pow_add ..
  have e2 : 2 ^ (j + d + 1) = 2 ^ j * (2 ^ d * 2) := by rw [show j + d + 1 = j + (d + 1) from rfl, Nat.pow_add, Nat.pow_succ]
  rw [e1]
  rw [e2] at ha
  have p := two_pos j
  obtain ⟨x, hx⟩ := Nat.dvd_of_mod_eq_zero hf
  obtain ⟨y, hy⟩ := Nat.dvd_of_mod_eq_zero ha
  rw [hx, hy, Nat.mul_assoc, ← Nat.mul_add, ← Nat.mul_succ]
  by_cases q : x + 1 ≤ 2 ^ d * 2 * y + 2 ^ d
  · left; exact Nat.mul_le_mul_left _ q
  · right; exact Nat.mul_le_mul_left _ (by omega)
theorem mod_half {a k : Nat} (h : a % 2 ^ (k + 1) = 0) : a % 2 ^ k = 0 ∧ (a + 2 ^ k) % 2 ^ k = 0 := by
  have : a % 2 ^ k = 0 := Nat.mod_eq_zero_of_dvd (Nat.dvd_trans ⟨2, Nat.pow_succ ..⟩ (Nat.dvd_of_mod_eq_zero h))
  exact ⟨this, by rw [Nat.add_mod_right]; exact this⟩
theorem give_up {c c' : Nat → Bool} {f j : Nat} (G : Give c c' f j) (hf : f % 2 ^ j = 0) : ∀ (d k a : Nat), k = j + d → k ≤ 4 → a % 2 ^ k = 0 → a + 2 ^ k ≤ 16 → a ≤ f → f + 2 ^ j ≤ a + 2 ^ k → ∀ {S rest : List Blk}, S.Perm (wid c k a ++ rest) → (∀ b ∈ rest, b.1 < a ∨ a + 2 ^ k ≤ b.1) → MgE c c' f j k a S rest := by
  intro d
  induction d with
  | zero =>
    rintro k a rfl hk ha h16 h1 h2 S rest hp hr
    have e : a = f := by omega
    subst e
    rw [wid_full G.was, List.nil_append] at hp
    exact .up (frB_iff.mpr G.now) fun i T h => by obtain ⟨T', h', q⟩ := h.perm hp; exact ⟨i, T', h', q⟩
  | succ d ih =>
    rintro k a rfl hk ha h16 h1 h2 S rest hp hr
    rw [← Nat.add_assoc] at *
    obtain ⟨m1, m2⟩ := mod_half ha
    have e2 := two_succ (j + d)
    have pk := two_pos (j + d)
    rw [wid_split (G.occ h1 h2)] at hp
    rcases half_in (by omega) hf ha h1 h2 with h3 | h3
    · -- the lower half
      have ho : ∀ i, a + 2 ^ (j + d) ≤ i → i < a + 2 ^ (j + d) + 2 ^ (j + d) → c' i = c i := fun i i1 i2 => G.off i (.inr (by (with_reducible exact Nat.le_trans (by assumption) (by assumption))))
      have hp' : S.Perm (wid c (j + d) a ++ (wid c (j + d) (a + 2 ^ (j + d)) ++ rest)) := by rw [← List.append_assoc]; exact hp
      have hr' : ∀ b ∈ wid c (j + d) (a + 2 ^ (j + d)) ++ rest, b.1 < a ∨ a + 2 ^ (j + d) ≤ b.1 := fun b hb => by
        rcases List.mem_append.mp hb with hb | hb
        · exact .inr (wid_mem hb).lo
        · rcases hr b hb with q | q
          · exact .inl q
          · exact .inr (by omega)
      cases ih (j + d) a rfl (by (with_reducible exact Nat.le_of_succ_le (by assumption))) m1 (by omega) h1 h3 hp' hr' with
      | up fr h =>
        by_cases q : frB c (j + d) (a + 2 ^ (j + d)) = true
        · refine .up (by rw [frB_half, fr, frB_congr ho, q]; rfl) fun i T hT => h (i + 1) T ?_
          rw [wid_free q]
          have ex := xor_lo a (by omega) (j + d) (by omega) ha
          refine .step (by rw [ex]; exact .head _) ?_
          rw [ex, List.singleton_append, List.erase_cons_head, Nat.min_eq_left (by omega)]
          exact hT
        · have q : frB c (j + d) (a + 2 ^ (j + d)) = false := by simpa using q
          have fr' : frB c' (j + d + 1) a = false := by rw [frB_half, frB_congr ho, q, Bool.and_false]
          refine .fin fr' ?_
          obtain ⟨i', T', hT, hT'⟩ := h 0 _ (.done (by
            rw [xor_lo a (by omega) (j + d) (by omega) ha]
            intro z
            rcases List.mem_append.mp z with z | z
            · rw [wid_top.mp z] at q; cases q
            · rcases hr _ z with z | z <;> (simp only [] at z; omega)))
          refine ⟨i', T', hT, hT'.trans ?_⟩
          rw [wid_split fr', wid_free fr, wid_congr ho, List.append_assoc]; exact .refl _
      | fin fr h =>
        have fr' : frB c' (j + d + 1) a = false := by rw [frB_half, fr, Bool.false_and]
        refine .fin fr' ?_
        rw [wid_split fr', wid_congr ho, List.append_assoc]; exact h
    · -- the upper half
      have ho : ∀ i, a ≤ i → i < a + 2 ^ (j + d) → c' i = c i := fun i i1 i2 => G.off i (.inl (by (with_reducible exact Nat.lt_of_lt_of_le (by assumption) (by assumption))))
      have hp' : S.Perm (wid c (j + d) (a + 2 ^ (j + d)) ++ (wid c (j + d) a ++ rest)) := by
        rw [← List.append_assoc]; exact hp.trans (List.perm_append_comm.append_right _)
      have hr' : ∀ b ∈ wid c (j + d) a ++ rest, b.1 < a + 2 ^ (j + d) ∨ a + 2 ^ (j + d) + 2 ^ (j + d) ≤ b.1 := fun b hb => by
        rcases List.mem_append.mp hb with hb | hb
        · have W := wid_mem hb
          have := W.hi
          have := two_pos b.2
          exact .inl (by omega)
        · rcases hr b hb with q | q
          · exact .inl (by omega)
          · exact .inr (by omega)
      cases ih (j + d) (a + 2 ^ (j + d)) rfl (by (with_reducible exact Nat.le_of_succ_le (by assumption))) m2 (by omega) h3 (by omega) hp' hr' with
      | up fr h =>
        by_cases q : frB c (j + d) a = true
        · refine .up (by rw [frB_half, fr, frB_congr ho, q]; rfl) fun i T hT => h (i + 1) T ?_
          rw [wid_free q]
          have ex := xor_hi a (by omega) (j + d) (by omega) ha
          refine .step (by rw [ex]; exact .head _) ?_
          rw [ex, List.singleton_append, List.erase_cons_head, Nat.min_eq_right (by omega)]
          exact hT
        · have q : frB c (j + d) a = false := by simpa using q
          have fr' : frB c' (j + d + 1) a = false := by rw [frB_half, frB_congr ho, q, Bool.false_and]
          refine .fin fr' ?_
          obtain ⟨i', T', hT, hT'⟩ := h 0 _ (.done (by
            rw [xor_hi a (by omega) (j + d) (by omega) ha]
            intro z
            rcases List.mem_append.mp z with z | z
            · rw [wid_top.mp z] at q; cases q
            · rcases hr _ z with z | z <;> (simp only [] at z; omega)))
          refine ⟨i', T', hT, hT'.trans ?_⟩
          rw [wid_split fr', wid_free fr, wid_congr ho, List.append_assoc]
          exact List.perm_middle.symm
      | fin fr h =>
        have fr' : frB c' (j + d + 1) a = false := by rw [frB_half, fr, Bool.and_false]
        refine .fin fr' ?_
        obtain ⟨i, T, hT, q⟩ := h
        refine ⟨i, T, hT, q.trans ?_⟩
        rw [wid_split fr', wid_congr ho, ← List.append_assoc]
        exact List.perm_append_comm.append_right _
theorem give_ok {c c' : Nat → Bool} {f j : Nat} (G : Give c c' f j) (hf : f % 2 ^ j = 0) (hj : j ≤ 4) (h16 : f + 2 ^ j ≤ 16) {S : List Blk} (hp : S.Perm (wid c 4 0)) : ∃ i T, MgR i S f j T ∧ T.Perm (wid c' 4 0) := by
  have := give_up G hf (4 - j) 4 0 (by omega) (by decide) (by decide) (by decide) (Nat.zero_le _) (by rw [Nat.zero_add]; exact h16) (S := S) (rest := []) (by rw [List.append_nil]; exact hp) nofun
  cases this with
  | up fr h =>
    obtain ⟨i, T, h1, h2⟩ := h 0 _ (.done nofun)
    exact ⟨i, T, h1, by rw [wid_free fr]; exact h2⟩
  | fin fr h => rw [List.append_nil] at h; exact h

noncomputable def halves (f j : Nat) : Nat → List Blk
  | 0 => []
  | d + 1 => halves f j d ++ [(f + 2 ^ (j + d), j + d)]
structure Take (c c' : Nat → Bool) (f j : Nat) : Prop where
  now : ∀ i, f ≤ i → i < f + 2 ^ j → c' i = true
  off : ∀ i, i < f ∨ f + 2 ^ j ≤ i → c' i = c i
theorem halves_ok {c c' : Nat → Bool} {f j : Nat} (G : Take c c' f j) : ∀ d, frB c (j + d) f = true → wid c' (j + d) f = halves f j d
  | 0, _ => wid_full G.now
  | d + 1, h => by
    rw [show j + (d + 1) = j + d + 1 from rfl] at *
    rw [frB_half, Bool.and_eq_true] at h
    have e := two_succ (j + d)
    have p1 := two_pos j
    have p2 : 2 ^ j ≤ 2 ^ (j + d) := Nat.pow_le_pow_right (by decide) (Nat.le_add_right _ _)
    have hfr : frB c' (j + d + 1) f = false := by
      rw [Bool.eq_false_iff]
      intro q
      have := frB_iff.mp q f (Nat.le_refl _) (by omega)
      rw [G.now f (Nat.le_refl _) (by omega)] at this; cases this
    rw [wid_split hfr, halves_ok G d h.1, wid_congr (c' := c) fun i i1 i2 => G.off i (.inr (by omega)), wid_free h.2]; rfl
theorem take_mid {c c' : Nat → Bool} {f m : Nat} (off : ∀ i, i < f ∨ f + 2 ^ m ≤ i → c' i = c i) (sub : ∀ i, c i = true → c' i = true) : ∀ (k a : Nat) (P R : List Blk), wid c k a = P ++ (f, m) :: R → wid c' k a = P ++ wid c' m f ++ R
  | 0, a, P, R, h => by
    by_cases q : frB c 0 a = true
    · rw [wid_free q] at h
      cases P with
      | nil =>
        injection h with h1 h2
        injection h1 with h1 h3
        subst h1 h3 h2
        simp
      | cons x P => simp at h
    · rw [wid, if_neg q] at h; simp at h
  | k + 1, a, P, R, h => by
    by_cases q : frB c (k + 1) a = true
    · rw [wid_free q] at h
      cases P with
      | nil =>
        injection h with h1 h2
        injection h1 with h1 h3
        subst h1 h3 h2
        simp
      | cons x P => simp at h
    · have q : frB c (k + 1) a = false := by simpa using q
      have q' : frB c' (k + 1) a = false := by
        rw [Bool.eq_false_iff] at q ⊢
        intro z
        refine q (frB_iff.mpr fun i i1 i2 => ?_)
        cases y : c i with
        | false => rfl
        | true => have := frB_iff.mp z i i1 i2; rw [sub i y] at this; cases this
      rw [wid_split q'] 
      have hm : (f, m) ∈ wid c (k + 1) a := by rw [h]; simp
      rw [wid_split q] at h
      have e := two_succ k
      rcases List.append_eq_append_iff.mp h with ⟨X, h1, h2⟩ | ⟨X, h1, h2⟩
      · -- the block lies in the upper half
        have hu : (f, m) ∈ wid c k (a + 2 ^ k) := by rw [h2]; simp
        have W := wid_mem hu
        have w1 := W.lo
        rw [take_mid off sub k (a + 2 ^ k) X R h2, wid_congr (c' := c) (k := k) (a := a) fun i i1 i2 => off i (.inl (by simp only [] at w1; (with_reducible exact Nat.lt_of_lt_of_le (by assumption) (by assumption)))), h1]
        simp [List.append_assoc]
      · cases X with
        | nil =>
          rw [List.nil_append] at h2
          rw [List.append_nil] at h1
          have hu : (f, m) ∈ wid c k (a + 2 ^ k) := by rw [← h2]; simp
          have w1 := (wid_mem hu).lo
          rw [take_mid off sub k (a + 2 ^ k) [] R h2.symm, wid_congr (c' := c) (k := k) (a := a) fun i i1 i2 => off i (.inl (by simp only [] at w1; (with_reducible exact Nat.lt_of_lt_of_le (by assumption) (by assumption)))), h1]
          simp [List.append_assoc]
        | cons x X =>
          injection h2 with h2 h3
          subst h2
          have hu : (f, m) ∈ wid c k a := by rw [h1]; simp
          have w1 := (wid_mem hu).hi
          rw [take_mid off sub k a P X h1, wid_congr (c' := c) (k := k) (a := a + 2 ^ k) fun i i1 i2 => off i (.inr (by simp only [] at w1; (with_reducible exact Nat.le_trans (by assumption) (by assumption)))), h3]
          simp [List.append_assoc]
theorem take_ok {c c' : Nat → Bool} {f j m : Nat} (G : Take c c' f j) (hj : j ≤ m) {P R : List Blk} (h : wid c 4 0 = P ++ (f, m) :: R) : wid c' 4 0 = P ++ halves f j (m - j) ++ R := by
  have p : 2 ^ j ≤ 2 ^ m := Nat.pow_le_pow_right (by decide) hj
  have W : WidB c 4 0 (f, m) := wid_mem (by rw [h]; simp)
  have hfr := W.free
  rw [take_mid (fun i hi => G.off i (by omega)) (fun i hi => by
    by_cases q : i < f ∨ f + 2 ^ j ≤ i
    · rw [G.off i q]; exact hi
    · exact G.now i (by omega) (by omega)) 4 0 P R h]
  have := halves_ok G (m - j) (by rw [show j + (m - j) = m by omega]; exact hfr)
  rw [show j + (m - j) = m by omega] at this
  rw [this]
end Mine

end
/- part Core27 -/
section
open PySem PySem.W PyProof.Rows
set_option Elab.async false
namespace Mine
open PySem PySem.W PyProof.Rows PySem.Calls PySem.Spec

theorem Grow.dom {σ σ' : Store} (h : Grow σ σ') (nd : (dom σ).Nodup) {b : Addr} (hb : b ∈ Mine.dom σ) : b ∈ Mine.dom σ' := by
  obtain ⟨p, hp, rfl⟩ := List.mem_map.mp hb
  exact dom_of (h _ _ (lookup_of_memA nd (show (p.1, p.2) ∈ σ from hp)))
theorem SI.shrink {P : Params} {hB h : Heap} {σ σ' : Store} (x : SI P hB σ' h) (hg : Grow σ σ') (nd : (dom σ).Nodup) : SI P hB σ h where
  base := x.base
  nodup := nd
  rep := fun p hp => by
    have e := hg _ _ (lookup_of_memA nd (show (p.1, p.2) ∈ σ from hp))
    have k : KeepsF h (dom σ') h (dom σ) := fun b o e' nb _ => ⟨e', fun q => nb (hg.dom nd q)⟩
    exact (x.rep _ (mem_of_lookupA e)).keep k rfl
  new := fun p hp => by
    have e := hg _ _ (lookup_of_memA nd (show (p.1, p.2) ∈ σ from hp))
    exact x.new _ (mem_of_lookupA e)
section
variable {g : Gr} {A : Around} {s s₀ : Shared} {σ σ₀ : Store} {n : Nat} {env : Env} {ℓ : Loc}
theorem TR.shrink {t : Sem Value} {Q : AV → Store → Prop} (hs : SIg g σ s.heap) (h : TR g A t s σ fun d σ' => Grow σ σ' ∧ Q d σ) : TR g A t s σ Q := by
  refine wpAny_mono h ?_ fun _ _ f => f
  rintro v s' ⟨d, σ', ⟨hg, q⟩, r, p⟩
  have k : KeepsF s'.heap (dom σ') s'.heap (dom σ) := fun b o e' nb _ => ⟨e', fun q => nb (hg.dom hs.nodup q)⟩
  refine ⟨d, σ, q, r.keep k, ⟨p.si.shrink hg hs.nodup, ⟨p.ext.there, fun b o e nb nB => ?_⟩, p.gens, p.os⟩⟩
  exact ⟨(p.ext.keep b o e nb nB).1, nb⟩
theorem CALL.shrink {f : Value} {args : List AV} {kw : List (Str × AV)} {Q : AV → Store → Prop} (h : CALL g n f args kw σ fun d σ' => Grow σ σ' ∧ Q d σ) : CALL g n f args kw σ Q :=
  fun A s vs kvs hr hS ra ek rk => (h A s vs kvs hr hS ra ek rk).shrink hS
theorem EV_sliceB {value : Expr} {lo hi : Option Expr} {p pos : Pos} {a : Addr} {vs : List Value} {ns : List Int} {Q : AV → Store → Prop} (hB : g.hB.IsList a vs.toArray) (hI : IntsAre vs ns) (hz : ns.length < 100000)
    (h : EV g n env value ℓ σ fun o σ₁ => o = .raw (.ref a) ∧ EP g n env lo ℓ σ₁ fun l σ₂ => EP g n env hi ℓ σ₂ fun u σ₃ => Q (.lst (pickL (intsA ns) l u none)) σ₃)
    (hs : ∀ o i, ∃ ops, subscripted (.Slice lo hi none p) false o i = operate ops (getItem o i) := by intro _ _; exact ⟨_, rfl⟩) : EV g n env (.Subscript value (.Slice lo hi none p) pos) ℓ σ Q := by
  intro A s hr hi' hf
  refine Subscript_ (wpAny_mono (h A s hr hi' hf) ?_ fun _ _ f => f)
  rintro vo s₁ ⟨o, σ₁, ⟨rfl, h₁⟩, ro, p₁⟩
  have hf₁ := hf.ext p₁.ext
  refine wpAny_Slice (wpAny_mono (part_ok h₁ hr p₁.si hf₁) ?_ fun _ _ f => f)
  rintro vl s₂ ⟨l, σ₂, h₂, pl, p₂⟩
  have hf₂ := hf₁.ext p₂.ext
  refine wpAny_mono (part_ok h₂ hr p₂.si hf₂) ?_ fun _ _ f => f
  rintro vu s₃ ⟨u, σ₃, q, pu, p₃⟩
  rw [evalPart_none]
  refine wpAny_pure ?_
  have pf := Post.frz (o := { cls := .type "slice", data := .fields #[vl, vu, .none] }) p₃.si
  cases ro
  have hl : (s₃.heap.push { cls := .type "slice", data := .fields #[vl, vu, .none] }).IsList a vs.toArray := by
    obtain ⟨ob, e, r⟩ := hB
    exact ⟨ob, pf.si.base _ _ e, r⟩
  obtain ⟨ops, hops⟩ := hs (.ref a) (.ref s₃.heap.objs.size)
  have hT : ({ s₃ with heap := s₃.heap.push { cls := .type "slice", data := .fields #[vl, vu, .none] } } : Shared).TypeIs (.ref a) "list" := hl.typeIs
  have rl : ∀ {vs : List Value} {ns : List Int}, IntsAre vs ns → RepL s₃.heap (dom σ₃) vs (intsA ns) := by
    intro vs ns h
    induction h with
    | nil => exact .nil
    | cons i t _ ih => exact .cons (.int _ _) ih
  refine tail_any hT slot_list_getitem.lookup (wpAny_getItem_list_slice hl (Heap.IsSliceOf.new ..) pl pu .none (by simp) ?_ ?_) hops
  · have pg := Post.frz (o := { cls := .type "list", data := .seq (slicePick vs.toArray l u none) }) pf.si
    have hsz : vs.length = (intsA ns).length := by rw [hI.length]; simp [intsA]
    have hpk : slicePick vs.toArray l u none = ((sliceRange (sliceBounds l u none (intsA ns).length).1 (sliceBounds l u none (intsA ns).length).2.1 (sliceBounds l u none (intsA ns).length).2.2).filterMap (vs[·]?)).toArray := by
      unfold slicePick; simp [hsz]
    have hrep := (((repL_pick (rl hI) (sliceRange (sliceBounds l u none (intsA ns).length).1 (sliceBounds l u none (intsA ns).length).2.1 (sliceBounds l u none (intsA ns).length).2.2))).keep pf.keepsF).keep pg.keepsF
    have hget := Heap.get?_push_size (s₃.heap.push { cls := .type "slice", data := .fields #[vl, vu, .none] }) (o := { cls := .type "list", data := .seq (slicePick vs.toArray l u none) }) rfl
    rw [hpk] at hget hrep pg ⊢
    exact ⟨_, σ₃, q, .lst (n := 0) hget (new_off' pf.si) hrep, (p₁.trans (p₂.trans p₃)).trans (pf.trans pg)⟩
  · have := hI.length
    simp; unfold sizeLine; (with_reducible exact Mine.om_eqle (by assumption) (by assumption) (by decide))

theorem BindOk.dflt (G : Gd g) {fd : FuncData} {args extra : List AV} {names : List Str} {T : Addr} {o : Obj} {items : Array Value} {c : Nat} {ex : List Value} (hd : fd.defaults = .ref T) (ho : g.K.lookup T = some o) (hs : o.data = .seq items c) (hl : names.length = args.length + extra.length)
    (hb : ∀ vs : List Value, vs.length = args.length → ∃ k, bindArgs fd ⟨vs, []⟩ = seqItems? fd.defaults >>= k ∧ k (some items) = pure (names.zip (vs ++ ex))) (hx : ∀ h D, RepL h D ex extra) : BindOk g fd args [] σ (names.zip (args ++ extra)) := by
  intro s vs kvs hS ra ek rk
  have hk : kvs = [] := by simpa using ek
  subst hk
  have hv : vs.length = args.length := ra.length
  obtain ⟨k, h1, h2⟩ := hb vs hv
  have hx' := hx s.heap (dom σ)
  have hxl := hx'.length
  obtain ⟨z1, z2⟩ := zip_maps (l := names) (r := vs ++ ex) (by rw [List.length_append]; omega)
  obtain ⟨z3, z4⟩ := zip_maps (l := names) (r := args ++ extra) (by rw [List.length_append]; (with_reducible assumption))
  refine ⟨names.zip (vs ++ ex), .of_defaults hd (hS.base _ _ (G.kin _ _ ho)) hs h1 h2, by rw [z1, z3], ?_⟩
  rw [z2, z4]
  exact ra.append hx'
theorem CALLc_dflt (G : Gd g) {a : Addr} {oc : Value} {od : Option Addr} {osl : Array (Option Value)} {fd : FuncData} {body : List Stmt} {args : List AV} {Q : AV → Store → Prop} (names : List Str) (extra : List AV) (ex : List Value) {T : Addr} {o : Obj} {items : Array Value} {c : Nat}
    (ho : g.K.lookup a = some ⟨oc, od, .func fd, osl⟩) (hbody : fd.body = .stmts body) (hcd : codeIn g.K fd.code fd.qualname = true) (hg : fd.globals = mainGlobals) (hbl : fd.builtins = builtinsNs) (hcl : fd.closure = [])
    (hk : fd.scope.kind = .function) (hco : fd.scope.isCoroutine = false) (hgen : fd.scope.isGenerator = false) (hfree : (fd.scope.names.all fun p => p.2 != .free) = true) (hnd : ((cellsFrom 0 fd.scope.names []).map (·.1)).Nodup)
    (hd : fd.defaults = .ref T) (hT : g.K.lookup T = some o) (hs : o.data = .seq items c)
    (hl : names.length = args.length + extra.length) (hnl : names.Nodup) (hkinds : (names.all fun y => fd.scope.names.lookup y == some .local || fd.scope.names.lookup y == some .cell) = true)
    (hb : ∀ vs : List Value, vs.length = args.length → ∃ k, bindArgs fd ⟨vs, []⟩ = seqItems? fd.defaults >>= k ∧ k (some items) = pure (names.zip (vs ++ ex))) (hx : ∀ h D, RepL h D ex extra)
    (h : ∀ L, EX g n (callEnvC fd L a) body (names.zip (args ++ extra)) σ fun r _ σ' => Q (retOf r) σ') : CALLc g (n + 1) (.ref a) args [] σ Q := by
  have hl' : names.length = (args ++ extra).length := by rw [List.length_append]; exact hl
  refine CALLc_def G ho hbody hcd hg hbl hcl hk hco hgen hfree hnd ((BindOk.dflt G hd hT hs hl hb hx).toS ⟨by rw [map_fst_zip' hl']; exact hnl, ?_, h⟩)
  rw [List.all_eq_true] at hkinds ⊢
  intro y hy
  exact hkinds y.1 (by have := List.mem_map_of_mem (f := (·.1)) hy; rwa [map_fst_zip' hl'] at this)
end
end Mine

end
/- part B1b -/
section
open PySem PySem.W PyProof.Rows
set_option Elab.async false
set_option maxRecDepth 100000
namespace Mine
open PySem PySem.W PyProof.Rows PySem.Calls PySem.Spec

theorem and_pow (x : Int) : ∀ (k : Nat) (b : Int), 0 ≤ b → b < 2 ^ k → Builtin.bitAnd (x * 2 ^ k) b = 0
  | 0, b, h0, h1 => by
    have : b = 0 := by simp at h1; omega
    subst this; exact bitAnd_zero _
  | k + 1, b, h0, h1 => by
    have e2 : (2 : Int) ^ (k + 1) = 2 ^ k * 2 := Int.pow_succ ..
    rw [e2] at h1
    rw [kbt_halves, e2, ← Int.mul_assoc]
    have e3 : x * 2 ^ k * 2 / 2 = x * 2 ^ k := by omega
    have e4 : x * 2 ^ k * 2 % 2 = 0 := by omega
    rw [e3, and_pow x k (b / 2) (by omega) (by omega), e4]
    simp
theorem or_octet {x b : Int} (h0 : 0 ≤ b) (h1 : b < 256) : Builtin.bitOr (x * 2 ^ (8 : Int).toNat) b = x * 256 + b := by
  rw [bitOr_and, show (8 : Int).toNat = 8 from rfl, and_pow x 8 b h0 (by simpa using h1)]
  simp

noncomputable def b64L : List UInt8 := [65,66,67,68,69,70,71,72,73,74,75,76,77,78,79,80,81,82,83,84,85,86,87,88,89,90,97,98,99,100,101,102,103,104,105,106,107,108,109,110,111,112,113,114,115,116,117,118,119,120,121,122,48,49,50,51,52,53,54,55,56,57,43,47]
noncomputable def sg (i : Int) : Int := (b64L.getD i.toNat 0).toNat
noncomputable def b64G : List Int → List Int
  | a :: b :: c :: r => sg (a / 4) :: sg (a % 4 * 16 + b / 16) :: sg (b % 16 * 4 + c / 64) :: sg (c % 64) :: b64G r
  | [a, b] => [sg (a / 4), sg (a % 4 * 16 + b / 16)]
  | [a] => [sg (a / 4)]
  | [] => []
noncomputable def remL : List Int → Int × Int
  | _ :: _ :: _ :: r => remL r
  | [_, b] => (4, b % 16)
  | [a] => (2, a % 4)
  | [] => (0, 0)
theorem b64_snoc (x : Int) (hx : 0 ≤ x ∧ x < 256) : ∀ l : List Int, 
    (remL l).1 = 0 ∧ b64G (l ++ [x]) = b64G l ++ [sg (x / 4)] ∧ remL (l ++ [x]) = (2, x % 4) ∨
    (remL l).1 = 2 ∧ b64G (l ++ [x]) = b64G l ++ [sg ((remL l).2 * 16 + x / 16)] ∧ remL (l ++ [x]) = (4, x % 16) ∨
    (remL l).1 = 4 ∧ b64G (l ++ [x]) = b64G l ++ [sg ((remL l).2 * 4 + x / 64), sg (x % 64)] ∧ remL (l ++ [x]) = (0, 0)
  | [] => .inl ⟨rfl, rfl, rfl⟩
  | [a] => .inr (.inl ⟨rfl, rfl, rfl⟩)
  | [a, b] => .inr (.inr ⟨rfl, rfl, rfl⟩)
  | a :: b :: c :: r => by
    have ih := b64_snoc x hx r
    simp only [List.cons_append, b64G, remL]
    rcases ih with ⟨h1, h2, h3⟩ | ⟨h1, h2, h3⟩ | ⟨h1, h2, h3⟩
    · exact .inl ⟨h1, by rw [h2], h3⟩
    · exact .inr (.inl ⟨h1, by rw [h2], h3⟩)
    · exact .inr (.inr ⟨h1, by rw [h2], h3⟩)

section
variable {w : World} {hB : Heap} {n : Nat} {σ : Store} {Q : AV → Store → Prop}
set_option maxHeartbeats 1000000
theorem buffer_spec (G : Gd (G1 w hB)) {b : Array UInt8} (h : Q (.bytes b) σ) : CALL (G1 w hB) (n + 1) (.ref 63) [.bytes b] [] σ Q := by
  refine CALL_pos G (a := 63) [st "data"] rfl rfl rfl rfl rfl rfl rfl rfl rfl rfl (by decide) rfl (by decide) rfl ?_ ?_
  · rintro (_ | ⟨v1, _ | ⟨_, _⟩⟩) h <;> first | rfl | (simp at h)
  intro L
  refine EX_cons (ES_assign (.inl rfl) ?_)
  refine EV_tcall G rfl rfl (by decide) rfl rfl (?_)
  refine EL_cons (EV_name rfl rfl (EL_nil (CALL_type type_bytes (by decide) ?_)))
  refine EX_cons (ES_if (EB_cmp (EV_name rfl rfl (EV_builtin G rfl rfl (by decide) rfl (is_tt (TruOk_bool ⟨fun _ => ?_, nofun⟩))))))
  exact EX_cons (ES_ret (EV_name rfl rfl h))
theorem truth_spec (G : Gd (G1 w hB)) {b : Bool} (h : Q (.bool b) σ) : CALL (G1 w hB) (n + 1) (.ref 70) [.bool b] [] σ Q := by
  refine CALL_pos G (a := 70) [st "x"] rfl rfl rfl rfl rfl rfl rfl rfl rfl rfl (by decide) rfl (by decide) rfl ?_ ?_
  · rintro (_ | ⟨v1, _ | ⟨_, _⟩⟩) h <;> first | rfl | (simp at h)
  intro L
  refine EX_cons (ES_assign (.inl rfl) ?_)
  refine EV_tcall G rfl rfl (by decide) rfl rfl (?_)
  refine EL_cons (EV_name rfl rfl (EL_nil (CALL_type type_bool (by decide) ?_)))
  refine EX_cons (ES_if (EB_bool (EAll_or (EB_cmp (EV_name rfl rfl (EV_none (is_none_bool (TruOk_bool ⟨fun _ => ?_, nofun⟩))))))))
  refine EAll_or (EB_cmp (EV_name rfl rfl (EV_builtin G rfl rfl (by decide) rfl (is_tt (TruOk_bool ⟨nofun, fun _ => ⟨fun _ => ?_, nofun⟩⟩)))))
  refine EX_cons (ES_ret (EV_ifexp (EB_value (EV_name rfl rfl (TruOk_bool ⟨fun hb => EV_bool ?_, fun hb => EV_bool ?_⟩)))))
  · rw [hb] at h; exact h
  · rw [hb] at h; exact h
end
end Mine

end
/- part B2b -/
section
open PySem PySem.W PyProof.Rows
set_option Elab.async false
set_option maxRecDepth 100000
namespace Mine
open PySem PySem.W PyProof.Rows PySem.Calls PySem.Spec

theorem sg_range (i : Int) : 0 ≤ sg i ∧ sg i < 256 := by
  unfold sg
  have := (b64L.getD i.toNat 0).toNat_lt
  omega
theorem b64G_len : ∀ l : List Int, (b64G l).length ≤ 2 * l.length
  | [] => by simp [b64G]
  | [a] => by simp [b64G]
  | [a, b] => by simp [b64G]
  | a :: b :: c :: r => by
    have := b64G_len r
    simp only [b64G, List.length_cons]
    omega
theorem b64G_range : ∀ l : List Int, ∀ x ∈ b64G l, 0 ≤ x ∧ x < 256
  | [], x, h => by simp [b64G] at h
  | [a], x, h => by simp only [b64G, List.mem_cons, List.not_mem_nil, or_false] at h; subst h; exact sg_range _
  | [a, b], x, h => by
    simp only [b64G, List.mem_cons, List.not_mem_nil, or_false] at h
    rcases h with rfl | rfl <;> exact sg_range _
  | a :: b :: c :: r, x, h => by
    simp only [b64G, List.mem_cons] at h
    rcases h with rfl | rfl | rfl | rfl | h
    · exact sg_range _
    · exact sg_range _
    · exact sg_range _
    · exact sg_range _
    · exact b64G_range r x h
theorem remL_mod : ∀ l : List Int, l.length % 3 = 0 → remL l = (0, 0)
  | [], _ => rfl
  | [a], h => by simp at h
  | [a, b], h => by simp at h
  | a :: b :: c :: r, h => by rw [remL]; exact remL_mod r (by simp at h; omega)
theorem bytesL_range {b : Array UInt8} : ∀ x ∈ bytesL b, 0 ≤ x ∧ x < 256 := by
  intro x hx
  obtain ⟨c, _, rfl⟩ := List.mem_map.mp hx
  have := c.toNat_lt
  omega
noncomputable def sgs (L lbF : Int) : Nat → List Int
  | 0 => []
  | k + 1 => sg (L / 2 ^ (lbF + 6 * (k : Int)).toNat % 64) :: sgs L lbF k
section
variable {w : World} {hB : Heap} {n : Nat} {σ : Store} {Q : AV → Store → Prop}
set_option maxHeartbeats 1000000
theorem b2a_sign (G : Gd (G1 w hB)) {env : Env} {ℓ : Loc} {a : Addr} {outs : List Int} {lc lb : Int} {Q : AV → Store → Prop} {p1 p2 p3 p4 p5 p6 p7 p8 p9 p10 p11 p12 : Pos} {k1 k2 : Nat} (hs : Sub [(st "out", .raw (.ref a)), (st "leftchar", .int lc), (st "leftbits", .int lb)] ℓ)
    (h1 : env.kindOf (st "out") = some .local) (h2 : env.kindOf (st "leftchar") = some .local) (h3 : env.kindOf (st "leftbits") = some .local) (h4 : env.kindOf (st "_B64") = some .globalImplicit) (hl : σ.lookup a = some (.lst (intsA outs))) (hz : outs.length < 1000) (hb : 6 ≤ lb)
    (hline : (p1.endLine == p2.line) = true) (h : Q .none (upd σ a (.lst (intsA (outs ++ [sg (lc / 2 ^ (lb - 6).toNat % 64)]))))) :
    EV (G1 w hB) n env (.Call (.Attribute (.Name (st "out") p3) (st "append") p1) [.Subscript (.Name (st "_B64") p4) (.BinOp (.BinOp (.Name (st "leftchar") p5) .RShift (.BinOp (.Name (st "leftbits") p6) .Sub (.Constant (.int 6) k1 p7) p8) p9) .BitAnd (.Constant (.int 63) k2 p10) p11) p12] [] p2) ℓ σ Q := by
  refine EV_subl hs ?_
  refine EV_meth PySem.F.plainAttrs_list PySem.F.slot_list_append PySem.F.type_list_append rfl (by simp) hline rfl (EV_name rfl h1 ⟨type_lst hl, ?_⟩)
  refine EL_cons (EV_sub (EV_globalV G (v := .bytes b64L.toArray _) (d := .bytes b64L.toArray) rfl (fun _ _ => .bytes _ _) h4 ?_))
  · refine EV_binop (EV_binop (EV_name rfl h2 (EV_binop (EV_name rfl h3 (EV_int (sub_ii (shr_ii (by omega) (EV_int (and_ii ?_)))))))))
    rw [bitAnd_m6, Int.fdiv_eq_ediv_of_nonneg _ (Int.le_of_lt (Int.pow_pos (by decide)))]
    have r1 := Int.emod_nonneg (lc / 2 ^ (lb - 6).toNat) (by decide : (64 : Int) ≠ 0)
    have r2 := Int.emod_lt_of_pos (lc / 2 ^ (lb - 6).toNat) (by decide : (0 : Int) < 64)
    refine item_bytes (by decide) r1 (by show _ < ((64 : Nat) : Int); (with_reducible exact Mine.om_ilt (by assumption) (by decide))) (EL_nil ?_)
    refine CALL_append hl (by simp [intsA]; (with_reducible exact Nat.lt_of_lt_of_le (by assumption) (by decide))) ?_
    have e : intsA outs ++ [AV.int ((b64L.getD (lc / 2 ^ (lb - 6).toNat % 64).toNat 0).toNat : Int)] = intsA (outs ++ [sg (lc / 2 ^ (lb - 6).toNat % 64)]) := by simp [intsA, sg]
    rw [e]; exact h

theorem kvs_one {kvs : List (Str × Value)} {k : Str} {u : Value} (h : kvs.map (·.1) = [k]) (h' : kvs.map (·.2) = [u]) : ∃ k' u', kvs = [(k', u')] ∧ k' = k ∧ u' = u := by
  match kvs with
  | [(a, b)] => exact ⟨a, b, rfl, List.cons.inj h |>.1, List.cons.inj h' |>.1⟩
  | [] => simp at h
  | _ :: _ :: _ => simp at h
inductive B64I (l : List Int) (a : Addr) (σ : Store) (i : Nat) (ℓ' : Loc) (σ' : Store) : Prop
  | mk (lc : Int) (hi : i ≤ l.length) (h0 : 0 ≤ lc) (h1 : lc < 65536) (h2 : (remL (l.take i)).1 = 2 → lc % 4 = (remL (l.take i)).2) (h4 : (remL (l.take i)).1 = 4 → lc % 16 = (remL (l.take i)).2)
      (hs : Sub [(st "newline", .bool false), (st "out", .raw (.ref a)), (st "leftchar", .int lc), (st "leftbits", .int (remL (l.take i)).1)] ℓ') (hσ : Upd ((a, AO.lst []) :: σ) a (.lst (intsA (b64G (l.take i)))) σ')
theorem b2a_spec (G : Gd (G1 w hB)) {b : Array UInt8} (h3 : (bytesL b).length % 3 = 0) (hz : (bytesL b).length < 100) (h : Q (.bytes (byteArr (b64G (bytesL b)))) σ) : CALL (G1 w hB) (n + 3) (.ref 78) [.bytes b] [(st "newline", .bool false)] σ Q := by
  refine CALL.shrink (CALL_def (ℓ₀ := [(st "data", .bytes b), (st "newline", .bool false)]) G (a := 78) rfl rfl rfl rfl rfl rfl rfl rfl rfl rfl (by decide) (by simp; decide) rfl ?_ ?_)
  · intro s vs kvs hs ra ek rk
    obtain ⟨v, rfl, rv⟩ := ra.oneI
    obtain ⟨u, hu, ru⟩ := rk.oneI
    obtain ⟨k, u', rfl, rfl, rfl⟩ := kvs_one ek hu
    exact ⟨_, .of_eq rfl, rfl, .cons rv (.cons ru .nil)⟩
  intro L
  refine EX_cons (ES_assign (.inl rfl) ?_)
  refine EV_gcall G rfl rfl rfl rfl (?_)
  refine EL_cons (EV_name rfl rfl (EL_nil (buffer_spec G ?_)))
  refine EX_cons (ES_assign (.inl rfl) ?_)
  refine EV_gcall G rfl rfl rfl rfl (?_)
  refine EL_cons (EV_name rfl rfl (EL_nil (truth_spec G ?_)))
  refine EX_cons (ES_assign (.inl rfl) (EV_listM (EL_nil ⟨by simp, fun a ha => ?_⟩)))
  refine EX_cons (ES_assign (.inl rfl) (EV_int ?_))
  refine EX_cons (ES_assign (.inl rfl) (EV_int ?_))
  have hg0 : Grow σ ((a, AO.lst []) :: σ) := .new ha
  have hna : σ.lookup a = none := by
    cases q : σ.lookup a with
    | none => rfl
    | some o => exact absurd (dom_of q) ha
  refine EX_cons (ES_for (EI_val (EV_name rfl rfl ⟨_, iter_bytes, fun i ℓ' σ' => B64I (bytesL b) a σ i ℓ' σ', ?_, ?_, ?_⟩)))
  · exact ⟨0, by (with_reducible exact Nat.zero_le _), by omega, by omega, fun _ => rfl, fun _ => rfl, ⟨rfl, rfl, rfl, rfl, trivial⟩, .refl (by simp [b64G, intsA])⟩
  · rintro i d ℓ' σ' hd ⟨lc, hi, hlc, hlc2, hr2, hr4, hsub, hσ⟩
    have hlt : i < (bytesL b).length := by
      have := (List.getElem?_eq_some_iff.mp hd).1
      simpa [intsA] using this
    rw [intsA_get hlt] at hd
    cases hd
    have hx := bytesL_range _ (List.getElem_mem hlt)
    generalize hxe : (bytesL b)[i] = x at hx ⊢
    have htk : (bytesL b).take (i + 1) = (bytesL b).take i ++ [x] := by rw [List.take_add_one, List.getElem?_eq_getElem hlt, hxe]; rfl
    have hlen := b64G_len ((bytesL b).take i)
    rw [List.length_take] at hlen
    refine ASG_name (.inl rfl) ?_
    refine EX_sub (ℓ' := [(st "newline", .bool false), (st "out", .raw (.ref a)), (st "leftchar", .int lc), (st "leftbits", .int (remL ((bytesL b).take i)).1), (st "b", .int x)]) ⟨hsub.1, hsub.2.1, hsub.2.2.1, hsub.2.2.2.1, rfl, trivial⟩ ?_
    refine EX_cons (ES_assign (.inl rfl) (EV_binop (EV_binop (EV_binop (EV_name rfl rfl (EV_int (shl_ii (by decide) (by decide) (by omega) (EV_name rfl rfl (or_ii (EV_int (and_ii ?_))))))))))) 
    rw [or_octet hx.1 hx.2, bitAnd_m16]
    have hL0 : 0 ≤ (lc * 256 + x) % 65536 := Int.emod_nonneg _ (by decide)
    have hL1 : (lc * 256 + x) % 65536 < 65536 := Int.emod_lt_of_pos _ (by decide)
    obtain ⟨lbF, K, hlb, hF0, hF1, hK, hfin, hrem, hm2, hm4⟩ : ∃ (lbF : Int) (K : Nat), (remL ((bytesL b).take i)).1 + 8 = lbF + 6 * K ∧ 0 ≤ lbF ∧ lbF < 6 ∧ K ≤ 2 ∧ b64G ((bytesL b).take i) ++ sgs ((lc * 256 + x) % 65536) lbF K = b64G ((bytesL b).take (i + 1)) ∧
        (remL ((bytesL b).take (i + 1))).1 = lbF ∧ (lbF = 2 → (lc * 256 + x) % 65536 % 4 = (remL ((bytesL b).take (i + 1))).2) ∧ (lbF = 4 → (lc * 256 + x) % 65536 % 16 = (remL ((bytesL b).take (i + 1))).2) := by
      rw [htk]
      rcases b64_snoc x hx ((bytesL b).take i) with ⟨e1, e2, e3⟩ | ⟨e1, e2, e3⟩ | ⟨e1, e2, e3⟩
      · refine ⟨2, 1, by rw [e1]; rfl, by decide, by decide, by decide, ?_, by rw [e3], fun _ => ?_, nofun⟩
        · rw [e2]
          have : (lc * 256 + x) % 65536 / 4 % 64 = x / 4 := by omega
          simp [sgs, this]
        · rw [e3]; show (lc * 256 + x) % 65536 % 4 = x % 4; omega
      · have r := hr2 e1
        refine ⟨4, 1, by rw [e1]; rfl, by decide, by decide, by decide, ?_, by rw [e3], nofun, fun _ => ?_⟩
        · rw [e2]
          have : (lc * 256 + x) % 65536 / 16 % 64 = (remL ((bytesL b).take i)).2 * 16 + x / 16 := by omega
          simp [sgs, this]
        · rw [e3]; show (lc * 256 + x) % 65536 % 16 = x % 16; omega
      · have r := hr4 e1
        refine ⟨0, 2, by rw [e1]; rfl, by decide, by decide, by decide, ?_, by rw [e3], nofun, nofun⟩
        rw [e2]
        have h1 : (lc * 256 + x) % 65536 / 64 % 64 = (remL ((bytesL b).take i)).2 * 4 + x / 64 := by omega
        have h2 : (lc * 256 + x) % 65536 % 64 = x % 64 := by omega
        simp [sgs, h1, h2]
    generalize (lc * 256 + x) % 65536 = LC at *
    refine EX_cons (ES_assign (.inl rfl) (EV_binop (EV_name rfl rfl (EV_int (add_ii ?_)))))
    rw [hlb]
    have hlen2 := b64G_len ((bytesL b).take (i + 1))
    rw [List.length_take] at hlen2
    refine EX_cons (ES.mono (Q := fun r ℓ' σ' => r = .next ∧ Sub [(st "newline", .bool false), (st "out", .raw (.ref a)), (st "leftchar", .int LC), (st "leftbits", .int lbF)] ℓ' ∧ Upd ((a, AO.lst []) :: σ) a (.lst (intsA (b64G ((bytesL b).take (i + 1))))) σ') ?_ ?_)
    rotate_left
    · rintro _ ℓ'' σ'' ⟨rfl, hs', hσ'⟩
      exact EX_nil ⟨LC, by (with_reducible exact Nat.succ_le_of_lt (by assumption)), hL0, hL1, by rw [hrem]; exact hm2, by rw [hrem]; exact hm4, by rw [hrem]; exact hs', hσ'⟩
    refine ES_while (fun k ℓ σ' => ∃ outs : List Int, Sub [(st "newline", .bool false), (st "out", .raw (.ref a)), (st "leftchar", .int LC), (st "leftbits", .int (lbF + 6 * k))] ℓ ∧ Upd ((a, AO.lst []) :: σ) a (.lst (intsA outs)) σ' ∧ k ≤ 2 ∧ outs ++ sgs LC lbF k = b64G ((bytesL b).take (i + 1))) ?_ K
      ⟨_, ⟨rfl, rfl, rfl, rfl, trivial⟩, hσ, hK, hfin⟩
    rintro k ℓ₂ σ₂ ⟨outs, hs₂, hσ₂, hk2, hf₂⟩
    have ho := congrArg List.length hf₂
    rw [List.length_append] at ho
    refine EB_sub hs₂ (EB_cmp (EV_name rfl rfl (EV_int (ge_ii (TruOk_bool ⟨fun hb => ?_, fun hb => ?_⟩)))))
    · have hb' := of_decide_eq_true hb
      cases k with
      | zero => exfalso; simp at hb'; omega
      | succ k =>
        refine EX_sub hs₂ (EX_cons (ES_expr (b2a_sign G (lc := LC) (lb := lbF + 6 * ((k + 1 : Nat) : Int)) ⟨rfl, rfl, rfl, trivial⟩ rfl rfl rfl rfl hσ₂.self (by omega) hb' rfl ?_)))
        refine EX_cons (ES_assign (.inl rfl) (EV_binop (EV_name rfl rfl (EV_int (sub_ii (EX_nil ?_))))))
        refine ⟨k, by omega, _, ⟨rfl, rfl, rfl, ?_, trivial⟩, hσ₂.trans (.upd hσ₂.self), by (with_reducible exact Nat.le_of_succ_le (by assumption)), ?_⟩
        · show some (AV.int (lbF + 6 * ((k + 1 : Nat) : Int) - 6)) = some (AV.int (lbF + 6 * (k : Int)))
          congr 2; push_cast; omega
        · rw [← hf₂, List.append_assoc, sgs, List.singleton_append]
          have : (lbF + 6 * ((k + 1 : Nat) : Int) - 6).toNat = (lbF + 6 * (k : Int)).toNat := by congr 1; push_cast; omega
          rw [this]
    · have hb' := of_decide_eq_false hb
      cases k with
      | succ k => exfalso; push_cast at hb'; omega
      | zero =>
        refine ⟨rfl, ⟨hs₂.1, hs₂.2.1, hs₂.2.2.1, ?_, trivial⟩, ?_⟩
        · have := hs₂.2.2.2.1; simpa using this
        · rw [← hf₂]; simpa [sgs] using hσ₂
  · rintro ℓ' σ' ⟨lc, hi, hlc, hlc2, hr2, hr4, hsub, hσ⟩
    have hlenI : (intsA (bytesL b)).length = (bytesL b).length := by simp [intsA]
    rw [hlenI, List.take_length] at hsub hσ
    have hrem := remL_mod _ h3
    have hlen := b64G_len (bytesL b)
    rw [hrem] at hsub
    refine EX_sub hsub (EX_cons (ES_if (EB_cmp (EV_name rfl rfl (EV_int (eq_ii (TruOk_bool ⟨nofun, fun _ => ?_⟩)))))))
    refine EX_cons (ES_if (EB_cmp (EV_name rfl rfl (EV_int (eq_ii (TruOk_bool ⟨nofun, fun _ => EX_nil (EX_nil ?_)⟩))))))
    refine EX_cons (ES_if (EB_value (EV_name rfl rfl (TruOk_bool ⟨nofun, fun _ => EX_nil ?_⟩))))
    refine EX_cons (ES_ret (EV_tcall G rfl rfl (by decide) rfl rfl (?_)))
    refine EL_cons (EV_name rfl rfl (EL_nil (CALL_bytes (.lst hσ.self) (b64G_range _) (by omega) ?_)))
    exact ⟨hg0.upd hσ hna, h⟩
theorem b64_spec (G : Gd (G1 w hB)) {b : Array UInt8} (h3 : (bytesL b).length % 3 = 0) (hz : (bytesL b).length < 100) (h : Q (.bytes (byteArr (b64G (bytesL b)))) σ) : CALL (G1 w hB) (n + 4) (.ref 86) [.bytes b] [] σ Q := by
  refine CALLc.call (CALLc_dflt G (a := 86) [st "s", st "altchars"] [.none] [.none] rfl rfl rfl rfl rfl rfl rfl rfl rfl rfl (by decide) rfl rfl rfl rfl (by decide) rfl ?_ (fun _ _ => .cons .none .nil) ?_)
  · rintro (_ | ⟨v1, _ | ⟨_, _⟩⟩) h <;> first | exact ⟨_, rfl, rfl⟩ | (simp at h)
  intro L
  refine EX_cons (ES_assign (.inl rfl) ?_)
  refine EV_callK (names := [st "newline"]) rfl G rfl rfl rfl (EV_global G rfl rfl ⟨rfl, ?_⟩)
  refine EL_cons (EV_name rfl rfl (EL_nil (EK_cons (EV_bool (EK_nil ⟨rfl, b2a_spec G h3 hz ?_⟩)))))
  refine EX_cons (ES_if (EB_cmp (EV_name rfl rfl (EV_none (isnot_none (.inr (.inl rfl)) (TruOk_bool ⟨nofun, fun _ => EX_nil ?_⟩))))))
  exact EX_cons (ES_ret (EV_name rfl rfl h))
end
end Mine

end
/- part I1b -/
section
open PySem PySem.W PyProof.Rows
set_option Elab.async false
set_option maxRecDepth 100000
namespace Mine
open PySem PySem.W PyProof.Rows PySem.Calls PySem.Spec

structure Rdr (P : Params) (σ : Store) (dx a : Addr) (mods dirs : List Str) (cache : List (Str × AV)) : Prop where
  dict : σ.lookup dx = some (.dct [(st "_mods", .sset P mods), (st "_dirs", .lst (dirs.map .str)), (st "_ignore", .raw (.ref a))])
  notes : σ.lookup a = some (.dct cache)
  ne : a ≠ sysModules
theorem Rdr.ne' {P : Params} {σ : Store} {dx a : Addr} {mods dirs : List Str} {cache : List (Str × AV)} (R : Rdr P σ dx a mods dirs cache) (hc : ∀ p ∈ cache, ∃ i, p.2 = .int i) : dx ≠ a := by
  rintro rfl
  have h1 := R.dict
  rw [R.notes] at h1
  have := Option.some.inj h1
  injection this with this
  rw [this] at hc
  obtain ⟨i, h⟩ := hc _ (.head _)
  cases h
noncomputable def dot : Str := st "."
noncomputable def asked (mods dirs : List Str) (f : Option Str) (m : Str) : Bool :=
  mods.any (fun x => decide (x = m) || Txt.startswith m (x ++ dot)) || (match f with | none => true | some f => dirs.any fun d => Txt.startswith f (d ++ st "/"))
noncomputable def fileV : Option Str → AV
  | none => .none
  | some f => .str f
noncomputable def noted (mods dirs : List Str) (f : Option Str) (cache : List (Str × AV)) (m : Str) : AV := match cache.lookup m with
  | some d => d
  | none => .int (if asked mods dirs f m then 1 else 0)
theorem lookup_mem {m : Str} : ∀ {l : List (Str × AV)}, m ∈ l.map (·.1) ↔ ∃ d, l.lookup m = some d
  | [] => by simp
  | (k, v) :: l => by
    rw [List.map_cons, List.mem_cons, List.lookup_cons]
    by_cases h : m = k
    · subst h; simp
    · rw [beq_eq_false_iff_ne.mpr h]
      simp only [h, false_or]
      exact lookup_mem

section
variable {w : World} {hB : Heap} {n : Nat} {σ : Store} {Q : AV → Store → Prop}
set_option maxHeartbeats 2000000
theorem ignore_cls : InstCls (G1 w hB) 144 := ⟨rfl, rfl, rfl, rfl, ⟨_, rfl, rfl⟩⟩

theorem EV_self (G : Gd (G1 w hB)) {env : Env} {ℓ : Loc} {dx : Addr} {l : List (Str × AV)} {attr : Str} {e : AV} {ps pe : Pos} (hl : σ.lookup dx = some (.dct l)) (h0 : env.kindOf (st "self") = some .local) (h1 : ℓ.lookup (st "self") = some (.inst 144 dx)) (h2 : findIn (G1 w hB).K (.ref 144) attr = some none)
    (h3 : l.lookup attr = some e) (h4 : Handed e) (h5 : Q e σ) : EV (G1 w hB) n env (.Attribute (.Name (st "self") ps) attr pe) ℓ σ Q :=
  EV_attr G (EV_name h1 h0 ⟨_, _, _, _, rfl, ignore_cls, h2, hl, h3, h4, h5⟩)
theorem names_spec (G : Gd (G1 w hB)) {dx a : Addr} {mods dirs : List Str} {cache : List (Str × AV)} {f : Option Str} {m : Str} (R : Rdr w.params σ dx a mods dirs cache) (hm : ∀ x ∈ mods, x.length < 1000) (hd : ∀ x ∈ dirs, x.length < 1000) (hdl : dirs.length < 1000) (hc : cache.length < 1000)
    (h : Q (noted mods dirs f cache m) (if m ∈ cache.map (·.1) then σ else upd σ a (.dct (putA cache m (.int (if asked mods dirs f m then 1 else 0)))))) : CALL (G1 w hB) (n + 1) (.ref 141) [.inst 144 dx, fileV f, .str m] [] σ Q := by
  have X := ignore_cls (w := w) (hB := hB)
  refine CALL_pos G (a := 141) [st "self", st "filename", st "modulename"] rfl rfl rfl rfl rfl rfl rfl rfl rfl rfl (by decide) rfl (by decide) rfl ?_ ?_
  · rintro (_ | ⟨v1, _ | ⟨v2, _ | ⟨v3, _ | ⟨_, _⟩⟩⟩⟩) h <;> first | rfl | (simp at h)
  intro L
  refine EX_cons (ES_if (EB_cmp (EV_name rfl rfl (EV_self G R.dict rfl rfl rfl rfl (handed_dct _) (in_dct R.ne R.notes (TruOk_bool ⟨fun hb => ?_, fun hb => ?_⟩))))))
  · have hin : m ∈ cache.map (·.1) := of_decide_eq_true hb
    obtain ⟨d, hd'⟩ := lookup_mem.mp hin
    refine EX_cons (ES_ret (EV_sub (EV_self G R.dict rfl rfl rfl rfl (handed_dct _) (EV_name rfl rfl (item_dct R.notes hd' ?_)))))
    rw [if_pos hin, noted, hd'] at h
    exact h
  have hin : m ∉ cache.map (·.1) := of_decide_eq_false hb
  have hlk : cache.lookup m = none := by
    cases q : cache.lookup m with
    | none => rfl
    | some d => exact absurd (lookup_mem.mpr ⟨d, q⟩) hin
  rw [if_neg hin, noted, hlk] at h
  refine EX_nil ?_
  -- the answer is noted and given back
  have fin : ∀ (r : Int) {env : Env} {ℓ : Loc} {p1 p2 p3 p4 p5 p6 p7 p8 : Pos} {k1 k2 : Nat} {R' : AF → Loc → Store → Prop}, env.kindOf (st "self") = some .local → env.kindOf (st "modulename") = some .local → ℓ.lookup (st "self") = some (.inst 144 dx) → ℓ.lookup (st "modulename") = some (.str m) → r = (if asked mods dirs f m then 1 else 0) →
      (Q (.int r) (upd σ a (.dct (putA cache m (.int r)))) → R' (.ret (.int r)) ℓ (upd σ a (.dct (putA cache m (.int r))))) →
      EX (G1 w hB) n env [.Assign [.Subscript (.Attribute (.Name (st "self") p1) (st "_ignore") p2) (.Name (st "modulename") p3) p4] (.Constant (.int r) k1 p5) p6, .Return (some (.Constant (.int r) k2 p7)) p8] ℓ σ R' := by
    intro r env ℓ p1 p2 p3 p4 p5 p6 p7 p8 k1 k2 R' h1 h2 h3 h4 hr hR
    subst hr
    exact EX_cons (ES_storeD (EV_int (EV_self G R.dict h1 h3 rfl rfl (handed_dct _) (EV_name h4 h2 ⟨_, _, _, rfl, rfl, R.notes, by (with_reducible exact Nat.lt_of_lt_of_le (by assumption) (by decide)), EX_cons (ES_ret (EV_int (hR h)))⟩))))
  have hmods : mods.any (fun x => decide (x = m) || Txt.startswith m (x ++ dot)) = true → asked mods dirs f m = true := fun q => by unfold asked; rw [q]; rfl
  refine EX_cons (ES_if (EB_cmp (EV_name rfl rfl (EV_self G R.dict rfl rfl rfl rfl (handed_sset _ _) (in_set (TruOk_bool ⟨fun hb => ?_, fun hb => ?_⟩))))))
  · have hin : m ∈ mods := of_decide_eq_true hb
    refine fin 1 rfl rfl rfl rfl ?_ id
    rw [if_pos (hmods ?_)]
    exact List.any_eq_true.mpr ⟨m, hin, by simp⟩
  have hnin : m ∉ mods := of_decide_eq_false hb
  refine EX_nil ?_
  refine EX_cons (ES_for (EI_set (EV_self G R.dict rfl rfl rfl rfl (handed_sset _ _) ⟨mods, rfl, fun items hit hlen => ?_⟩)))
  refine ⟨fun i ℓ' σ' => σ' = σ ∧ Sub [(st "self", .inst 144 dx), (st "filename", fileV f), (st "modulename", .str m)] ℓ' ∧ ∀ k, k < i → ∀ x, items[k]? = some x → Txt.startswith m (x ++ dot) = false, ⟨rfl, ⟨rfl, rfl, rfl, trivial⟩, fun k hk => by omega⟩, ?_, ?_⟩
  · rintro i d ℓ' σ' hd ⟨rfl, hsub, hno⟩
    rw [List.getElem?_map] at hd
    cases q : items[i]? with
    | none => rw [q] at hd; cases hd
    | some x =>
      rw [q] at hd; cases hd
      have hxm : x ∈ mods := (hit x).mp (List.mem_of_getElem? q)
      refine ASG_name (.inl rfl) (EX_sub (ℓ' := [(st "self", .inst 144 dx), (st "filename", fileV f), (st "modulename", .str m), (st "mod", .str x)]) ⟨hsub.1, hsub.2.1, hsub.2.2.1, rfl, trivial⟩ ?_)
      refine EX_cons (ES_if (EB_value (EV_meth PySem.F.plainAttrs_str PySem.F.slot_str_startswith PySem.F.type_str_startswith rfl (by decide) rfl rfl (EV_name rfl rfl ⟨type_str, ?_⟩))))
      refine EL_cons (EV_binop (EV_name rfl rfl (EV_str (add_ss (by have := hm x hxm; show x.length + 1 < _; omega) (EL_nil (CALL_startswith (TruOk_bool ⟨fun hb => ?_, fun hb => ?_⟩)))))))
      · refine fin 1 rfl rfl rfl rfl ?_ id
        rw [if_pos (hmods ?_)]
        exact List.any_eq_true.mpr ⟨x, hxm, by rw [Bool.or_eq_true]; exact .inr hb⟩
      · refine EX_nil (EX_nil ⟨rfl, ⟨rfl, rfl, rfl, trivial⟩, fun k hk y hy => ?_⟩)
        by_cases hki : k = i
        · subst hki; rw [q] at hy; cases hy; exact hb
        · exact hno k (by omega) y hy
  rintro ℓ' σ' ⟨rfl, hsub, hno⟩
  have hno' : mods.any (fun x => decide (x = m) || Txt.startswith m (x ++ dot)) = false := by
    rw [List.any_eq_false]
    intro x hx
    rw [Bool.not_eq_true, Bool.or_eq_false_iff]
    refine ⟨decide_eq_false fun e => hnin (e ▸ hx), ?_⟩
    obtain ⟨k, hk⟩ := List.mem_iff_getElem?.mp ((hit x).mpr hx)
    exact hno k (by have := (List.getElem?_eq_some_iff.mp hk).1; simpa using this) x hk
  refine EX_sub hsub ?_
  cases f with
  | none =>
    refine EX_cons (ES_if (EB_cmp (EV_name rfl rfl (EV_none (is_none (.inr (.inl rfl)) (TruOk_bool ⟨fun _ => ?_, nofun⟩))))))
    refine fin 1 rfl rfl rfl rfl ?_ id
    rw [if_pos (by unfold asked; rw [hno']; rfl)]
  | some f =>
    refine EX_cons (ES_if (EB_cmp (EV_name rfl rfl (EV_none (is_none (.inr (.inr ⟨_, rfl⟩)) (TruOk_bool ⟨nofun, fun _ => EX_nil ?_⟩))))))
    refine EX_cons (ES_for (EI_val (EV_self G R.dict rfl rfl rfl rfl (handed_lst _) ⟨_, iter_lst rfl, ?_⟩)))
    refine ⟨fun i ℓ' τ => τ = σ' ∧ Sub [(st "self", .inst 144 dx), (st "filename", .str f), (st "modulename", .str m)] ℓ' ∧ ∀ k, k < i → ∀ x, dirs[k]? = some x → Txt.startswith f (x ++ st "/") = false, ⟨rfl, ⟨rfl, rfl, rfl, trivial⟩, fun k hk => by omega⟩, ?_, ?_⟩
    · rintro i d ℓ' σ' hd' ⟨rfl, hsub, hno⟩
      rw [List.getElem?_map] at hd'
      cases q : dirs[i]? with
      | none => rw [q] at hd'; cases hd'
      | some x =>
        rw [q] at hd'; cases hd'
        have hxm : x ∈ dirs := List.mem_of_getElem? q
        refine ASG_name (.inl rfl) (EX_sub (ℓ' := [(st "self", .inst 144 dx), (st "filename", .str f), (st "modulename", .str m), (st "d", .str x)]) ⟨hsub.1, hsub.2.1, hsub.2.2.1, rfl, trivial⟩ ?_)
        refine EX_cons (ES_if (EB_value (EV_meth PySem.F.plainAttrs_str PySem.F.slot_str_startswith PySem.F.type_str_startswith rfl (by decide) rfl rfl (EV_name rfl rfl ⟨type_str, ?_⟩))))
        refine EL_cons (EV_binop (EV_name rfl rfl (EV_globalV G (v := .str (st "/") _) (d := .str (st "/")) rfl (fun _ _ => .str _ _) rfl (add_ss (by have := hd x hxm; show x.length + 1 < _; omega) (EL_nil (CALL_startswith (TruOk_bool ⟨fun hb => ?_, fun hb => ?_⟩)))))))
        · refine fin 1 rfl rfl rfl rfl ?_ id
          have : (dirs.any fun d => Txt.startswith f (d ++ st "/")) = true := List.any_eq_true.mpr ⟨x, hxm, hb⟩
          rw [if_pos (by unfold asked; rw [hno']; exact this)]
        · refine EX_nil (EX_nil ⟨rfl, ⟨rfl, rfl, rfl, trivial⟩, fun k hk y hy => ?_⟩)
          by_cases hki : k = i
          · subst hki; rw [q] at hy; cases hy; exact hb
          · exact hno k (by omega) y hy
    rintro ℓ' σ' ⟨rfl, hsub, hno2⟩
    refine EX_sub hsub (fin 0 rfl rfl rfl rfl ?_ id)
    have : (dirs.any fun d => Txt.startswith f (d ++ st "/")) = false := by
      rw [List.any_eq_false]
      intro x hx
      rw [Bool.not_eq_true]
      obtain ⟨k, hk⟩ := List.mem_iff_getElem?.mp hx
      exact hno2 k (by have := (List.getElem?_eq_some_iff.mp hk).1; simpa using this) x hk
    rw [if_neg (by unfold asked; rw [hno']; show ¬ (false || dirs.any fun d => Txt.startswith f (d ++ st "/")) = true; rw [this]; simp)]
end
end Mine

end
/- part I2b -/
section
open PySem PySem.W PyProof.Rows
set_option Elab.async false
set_option maxRecDepth 100000
namespace Mine
open PySem PySem.W PyProof.Rows PySem.Calls PySem.Spec

noncomputable def cache0 : List (Str × AV) := [(st "<string>", .int 1)]
section
variable {w : World} {hB : Heap} {n : Nat} {σ : Store} {Q : AV → Store → Prop}
set_option maxHeartbeats 2000000
theorem mods_ok (G : Gd (G1 w hB)) {env : Env} {ℓ : Loc} {mods : List Str} {p1 p2 p3 p4 p5 p6 p7 p8 : Pos} (h0 : env.kindOf (st "modules") = some .local) (h2 : env.kindOf (st "set") = some .globalImplicit) (h1 : ℓ.lookup (st "modules") = some (.lst (mods.map .str))) (hz : mods.length < 900)
    (h : Q (.sset w.params mods) σ) : EV (G1 w hB) n env (.IfExp (.UnaryOp .Not (.Name (st "modules") p1) p2) (.Call (.Name (st "set") p3) [] [] p4) (.Call (.Name (st "set") p5) [.Name (st "modules") p6] [] p7) p8) ℓ σ Q := by
  refine EV_ifexp (EB_not (EB_value (EV_name h1 h0 (TruOk_list .refl (by simp; (with_reducible exact Nat.lt_of_lt_of_le (by assumption) (by decide))) ⟨fun hb => ?_, fun hb => ?_⟩))))
  · have : mods = [] := by simpa using hb
    subst this
    refine EV_tcall G rfl rfl (by decide) h2 rfl (EL_nil (CALL_set0 h))
  · exact EV_tcall G rfl rfl (by decide) h2 rfl (EL_cons (EV_name h1 h0 (EL_nil (CALL_setL .refl (by (with_reducible exact Nat.lt_of_lt_of_le (by assumption) (by decide))) h))))
theorem init_end {dx a : Addr} {mods dirs : List Str} (hl : σ.lookup dx = some (.dct [])) (ha : a ∉ dom (upd (upd σ dx (.dct [(st "_mods", .sset w.params mods)])) dx (.dct [(st "_mods", .sset w.params mods), (st "_dirs", .lst (dirs.map .str))]))) (hs : a ≠ sysModules) :
    Rdr w.params (upd ((a, .dct cache0) :: upd (upd σ dx (.dct [(st "_mods", .sset w.params mods)])) dx (.dct [(st "_mods", .sset w.params mods), (st "_dirs", .lst (dirs.map .str))])) dx (.dct [(st "_mods", .sset w.params mods), (st "_dirs", .lst (dirs.map .str)), (st "_ignore", .raw (.ref a))])) dx a mods dirs cache0 ∧
    ∀ b x, b ≠ dx → σ.lookup b = some x → (upd ((a, .dct cache0) :: upd (upd σ dx (.dct [(st "_mods", .sset w.params mods)])) dx (.dct [(st "_mods", .sset w.params mods), (st "_dirs", .lst (dirs.map .str))])) dx (.dct [(st "_mods", .sset w.params mods), (st "_dirs", .lst (dirs.map .str)), (st "_ignore", .raw (.ref a))])).lookup b = some x := by
  rw [upd_upd] at ha ⊢
  have h1 := upd_self (o := .dct [(st "_mods", .sset w.params mods), (st "_dirs", .lst (dirs.map .str))]) hl
  have hne : dx ≠ a := fun q => ha (q ▸ dom_of h1)
  have h2 := lookup_new (o := .dct cache0) h1 ha
  refine ⟨⟨upd_self h2, ?_, hs⟩, fun b x hb e => ?_⟩
  · rw [upd_ne (Ne.symm hne)]; simp
  · rw [upd_ne hb]
    refine lookup_new ?_ ha
    rw [upd_ne hb]; exact e
theorem none_dom {τ : Store} {a : Addr} (h : a ∉ dom τ) : τ.lookup a = none := by
  cases q : τ.lookup a with
  | none => rfl
  | some o => exact absurd (dom_of q) h
theorem lookup_none_cons {τ : Store} {a b : Addr} {o : AO} (h : List.lookup a ((b, o) :: τ) = none) : τ.lookup a = none := by
  rw [List.lookup_cons] at h
  cases q : a == b with
  | true => rw [q] at h; cases h
  | false => rw [q] at h; exact h
theorem init_spec (G : Gd (G1 w hB)) (B : Big (G1 w hB)) {dx : Addr} {mods : List Str} (hl : σ.lookup dx = some (.dct [])) (hz : mods.length < 900)
    (h : ∀ a σ', σ.lookup a = none → Rdr w.params σ' dx a mods [] cache0 → (∀ b x, b ≠ dx → σ.lookup b = some x → σ'.lookup b = some x) → Q .none σ') : CALLc (G1 w hB) (n + 1) (.ref 134) [.inst 144 dx, .lst (mods.map .str)] [] σ Q := by
  refine CALLc_dflt G (a := 134) [st "self", st "modules", st "dirs"] [.none] [.none] rfl rfl rfl rfl rfl rfl rfl rfl rfl rfl (by decide) rfl rfl rfl rfl (by decide) rfl ?_ (fun _ _ => .cons .none .nil) ?_
  · rintro (_ | ⟨v1, _ | ⟨v2, _ | ⟨_, _⟩⟩⟩) h <;> first | exact ⟨_, rfl, rfl⟩ | (simp at h)
  intro L
  refine EX_cons (ES_setattr G (mods_ok G rfl rfl rfl hz (EV_name rfl rfl ⟨_, _, _, rfl, ignore_cls, rfl, hl, by simp, ?_⟩)))
  have e1 : putA [] (st "_mods") (AV.sset w.params mods) = [(st "_mods", .sset w.params mods)] := rfl
  rw [e1]
  have hl1 := upd_self (o := .dct [(st "_mods", .sset w.params mods)]) hl
  refine EX_cons (ES_setattr G (EV_ifexp (EB_not (EB_value (EV_name rfl rfl (TruOk_none ⟨fun _ => EV_list (EL_nil ⟨by simp, EV_name rfl rfl ⟨_, _, _, rfl, ignore_cls, rfl, hl1, by simp, ?_⟩⟩), nofun⟩))))))
  have e2 : putA [(st "_mods", AV.sset w.params mods)] (st "_dirs") (AV.lst []) = [(st "_mods", .sset w.params mods), (st "_dirs", .lst (([] : List Str).map .str))] := by
    unfold putA
    rw [if_neg (by show ¬ st "_dirs" ∈ [st "_mods"]; decide)]; rfl
  rw [e2]
  have hl2 := upd_self (o := .dct [(st "_mods", .sset w.params mods), (st "_dirs", .lst (([] : List Str).map .str))]) hl1
  refine EX_cons (ES_setattr G (EV_dict1 G B fun a ha hs => EV_str ⟨rfl, EV_int ⟨rfl, EV_name rfl rfl ⟨_, _, _, rfl, ignore_cls, rfl, lookup_new hl2 ha, by simp, ?_⟩⟩⟩))
  have e3 : putA [(st "_mods", AV.sset w.params mods), (st "_dirs", .lst (([] : List Str).map .str))] (st "_ignore") (AV.raw (.ref a)) = [(st "_mods", .sset w.params mods), (st "_dirs", .lst (([] : List Str).map .str)), (st "_ignore", .raw (.ref a))] := by
    unfold putA
    rw [if_neg (by show ¬ st "_ignore" ∈ [st "_mods", st "_dirs"]; decide)]; rfl
  rw [e3]
  obtain ⟨r1, r2⟩ := init_end (w := w) (mods := mods) (dirs := []) hl ha hs
  exact EX_nil (h a _ (none_dom (by rw [dom_upd, dom_upd] at ha; exact ha)) r1 r2)
theorem big_ok : Big (G1 w hB) := ⟨144, _, rfl, by decide⟩
theorem mk_spec (G : Gd (G1 w hB)) {mods : List Str} (hz : mods.length < 900) (h : ∀ dx a σ', σ.lookup dx = none → σ.lookup a = none → Rdr w.params σ' dx a mods [] cache0 → Grow σ σ' → Q (.inst 144 dx) σ') : CALL (G1 w hB) (n + 2) (.ref 144) [.lst (mods.map .str)] [] σ Q := by
  refine CALLc.call (CALLc_cls G big_ok rfl rfl rfl fun dx hdx hm => init_spec G big_ok (by simp) hz fun a σ' ha R ho => ⟨rfl, h dx a σ' (none_dom hdx) (lookup_none_cons ha) R fun b x e => ho b x (fun q => hdx (q ▸ dom_of e)) (lookup_new e hdx)⟩)
end
end Mine

end
/- part Core28 -/
section
open PySem PySem.W PyProof.Rows
set_option Elab.async false
namespace Mine
open PySem PySem.W PyProof.Rows PySem.Calls PySem.Spec

theorem gd_of {g : Gr} {p : Program} {loose : List Str} {mean : ExcName → Option Value} {mg mb : Str → Option Value} (KX : g.K.In g.hB) (T : Top p loose mean mg mb g.hB) : Gd g :=
  ⟨KX, T.nolimit, T.nodigits, fun _ _ e => ⟨mg, T.g, mg_of KX T.g e⟩, fun _ _ e hb hx => ⟨mg, mb, T.g, mg_none_of KX T.g e, T.b, (T.builtins _ hx).trans hb⟩⟩
theorem law_close {g : Gr} {a l : Addr} {s₁ : Shared} {c : ClaimW} {cl : Str → Option Addr} {mean : ExcName → Option Value} {args : List WData} (hs : g.hB = s₁.heap) (h : CALLc g 100 (.ref a) [.raw (.ref l)] [] [] fun d _ => d = .bool true)
    (hg : s₁.gens = #[]) (hn : ∀ cls, c.raises args cls = false) (hp : c.post args (.bool true) args = true) : codeAny (model g.prog g.w) callerA (.call (.ref a) ⟨[.ref l], []⟩) (GoodWG c cl mean args s₁) s₁ := by
  refine codeAny_mono (h callerA s₁ [.ref l] [] ⟨rfl, by decide +kernel, by decide +kernel⟩ ⟨fun b o e => by rw [hs] at e; exact e, List.nodup_nil, by simp, by simp⟩ (.cons (.raw _) .nil) rfl .nil) fun r s' z => ?_
  rcases r with e | (v | _ | _ | _) <;> first | exact z.elim | skip
  obtain ⟨d, σ', rfl, rv, p⟩ := z
  cases rv
  refine GoodW.toG ⟨.inl ⟨_, .bool true, [], rfl, hn, .bool _, hp, unshared_nil⟩, fun b o e => p.si.base b o (by rw [hs]; exact e), p.os, p.gens.trans hg⟩
noncomputable def Clm (cells : List (Str × Addr)) : List (Str × Addr) → Prop
  | [] => True
  | p :: r => cells.lookup p.1 = some p.2 ∧ Clm cells r
theorem Clm.get {cells : List (Str × Addr)} : ∀ {cl : List (Str × Addr)}, Clm cells cl → ∀ p ∈ cl, cells.lookup p.1 = some p.2
  | [], _, _, h => by simp at h
  | _ :: _, c, p, h => by
    rcases List.mem_cons.mp h with rfl | h
    · exact c.1
    · exact Clm.get c.2 p h
noncomputable def sideB (scope : Scope) (env : Env) (cn lc : List Str) : Bool :=
  scope.names.all (fun y => y.2 != .cell) && scope.kind == .function && scope.names.all (fun x => x.2 != .local || scope.names.lookup x.1 == some .local) &&
  cn.all (fun x => env.kindOf x == some .cell || env.kindOf x == some .free) && decide cn.Nodup &&
  (relabel scope env).names.all (fun y => (y.2 != .cell && y.2 != .free) || cn.contains y.1) && lc.all (fun x => (relabel scope env).names.lookup x != some .local)
theorem compSide {env : Env} {scope : Scope} {cl : List (Str × Addr)} {ℓ ℓc : Loc} (clos : closureFor scope env = pure cl) (hb : sideB scope env (cl.map (·.1)) (ℓc.map (·.1)) = true) (clm : Clm env.cells cl) (sub : Sub ℓc ℓ) : CompSide env scope cl ℓ ℓc := by
  unfold sideB at hb
  simp only [Bool.and_eq_true] at hb
  obtain ⟨⟨⟨⟨⟨⟨h1, h2⟩, h3⟩, h4⟩, h5⟩, h6⟩, h7⟩ := hb
  refine ⟨clos, fun y hy => ?_, ?_, fun x hx hk => ?_, clm.get, fun p hp => ?_, of_decide_eq_true h5, fun x hx => ?_, sub, fun p hp => ?_⟩
  · have := List.all_eq_true.mp h1 y hy
    simpa using this
  · exact beq_iff_eq.mp h2
  · have := List.all_eq_true.mp h3 x hx
    rw [hk] at this
    simpa using this
  · have := List.all_eq_true.mp h4 p.1 (List.mem_map_of_mem hp)
    simpa using this
  · have hm : ∃ k, (x, k) ∈ (relabel scope env).names ∧ (k = .cell ∨ k = .free) := by
      rcases hx with e | e
      · exact ⟨_, mem_of_lookup e, .inl rfl⟩
      · exact ⟨_, mem_of_lookup e, .inr rfl⟩
    obtain ⟨k, hm, hk⟩ := hm
    have := List.all_eq_true.mp h6 _ hm
    have hc : (cl.map (·.1)).contains x = true := by
      rcases hk with rfl | rfl <;> simpa using this
    rw [List.contains_iff_mem] at hc
    obtain ⟨p, hp, rfl⟩ := List.mem_map.mp hc
    have nd : (cl.map (·.1)).Nodup := of_decide_eq_true h5
    rw [lookup_of_mem_nodup nd (show (p.1, p.2) ∈ cl from hp)]; rfl
  · have := List.all_eq_true.mp h7 p.1 (List.mem_map_of_mem hp)
    simpa using this
end Mine

end
/- part Core29 -/
section
open PySem PySem.W PyProof.Rows
set_option Elab.async false
namespace Mine
open PySem PySem.W PyProof.Rows PySem.Calls PySem.Spec

section
variable {g : Gr} {A : Around} {s s₀ : Shared} {σ σ₀ : Store} {n : Nat} {env : Env} {ℓ : Loc}

noncomputable def StepE (g : Gr) (n : Nat) (cenv : Env) (target : Expr) (ifs : List Expr) (elt : Expr) (ℓc : Loc) (σ₁ : Store) {α : Type} (l : List α) (enc : α → AV) (out : α → List AV) : Prop :=
  ∀ a ys x, x ∈ l → a ∉ dom σ₁ → ASGc g n cenv target (enc x) ℓc ((a, .lst ys) :: σ₁) fun ℓ'' => Sub ℓc ℓ'' ∧ ETests g n cenv ifs ℓ'' ((a, .lst ys) :: σ₁) fun b σ'' => σ'' = (a, .lst ys) :: σ₁ ∧
    (b = true → EV g n cenv elt ℓ'' ((a, .lst ys) :: σ₁) fun e σ'' => σ'' = (a, .lst ys) :: σ₁ ∧ out x = [e]) ∧ (b = false → out x = [])
open Classical in
noncomputable def decF {α : Type} (l : List α) (enc : α → AV) (out : α → List AV) (d : AV) : List AV := if h : ∃ x, x ∈ l ∧ enc x = d then out (Classical.choose h) else []
theorem decF_of {α : Type} {l : List α} {enc : α → AV} {out : α → List AV} (hinj : ∀ x y, x ∈ l → y ∈ l → enc x = enc y → out x = out y) {x : α} (hx : x ∈ l) : decF l enc out (enc x) = out x := by
  have h : ∃ y, y ∈ l ∧ enc y = enc x := ⟨x, hx, rfl⟩
  unfold decF
  rw [dif_pos h]
  obtain ⟨h1, h2⟩ := Classical.choose_spec h
  exact hinj _ _ h1 hx h2
theorem flatMap_dec {α : Type} {l : List α} {enc : α → AV} {out : α → List AV} (hinj : ∀ x y, x ∈ l → y ∈ l → enc x = enc y → out x = out y) : (l.map enc).flatMap (decF l enc out) = l.flatMap out := by
  rw [List.flatMap_map]
  have : ∀ l' : List α, (∀ x ∈ l', x ∈ l) → l'.flatMap (fun x => decF l enc out (enc x)) = l'.flatMap out := by
    intro l'
    induction l' with
    | nil => intro _; rfl
    | cons x l' ih =>
      intro hx
      rw [List.flatMap_cons, List.flatMap_cons, decF_of hinj (hx x (.head _)), ih fun y hy => hx y (.tail _ hy)]
  exact this l fun _ h => h
theorem StepE.map {cenv : Env} {target : Expr} {ifs : List Expr} {elt : Expr} {ℓc : Loc} {α : Type} {l : List α} {enc : α → AV} {out : α → List AV} (hinj : ∀ x y, x ∈ l → y ∈ l → enc x = enc y → out x = out y) (h : StepE g n cenv target ifs elt ℓc σ l enc out) :
    MapStep g n cenv target ifs elt ℓc σ (l.map enc) (decF l enc out) := by
  intro a ys ha d hd
  obtain ⟨x, hx, rfl⟩ := List.mem_map.mp hd
  rw [decF_of hinj hx]
  exact h a ys x hx ha
theorem EV_mapE {elt target iter : Expr} {ifs : List Expr} {scope : Scope} {pos : Pos} {cl : List (Str × Addr)} {Q : AV → Store → Prop} (ℓc : Loc) (X : CompSide env scope cl ℓ ℓc) (hself : Sub ℓc ℓc) {α : Type} (enc : α → AV)
    (h : EI g n env iter ℓ σ fun items σ₁ => ∃ (l : List α) (out : α → List AV), items = l.map enc ∧ l.length < 100000 ∧ (∀ x y, x ∈ l → y ∈ l → enc x = enc y → out x = out y) ∧ (∀ x ∈ l, (out x).length ≤ 1) ∧ (∀ C, StepE g n (compEnvC scope cl C env) target ifs elt ℓc σ₁ l enc out) ∧ Q (.lst (l.flatMap out)) σ₁)
    (hs : ∀ x, foldedSetIterable iter env x = pure x := by intro _; rfl) : EV g n env (.ListComp elt [⟨target, iter, ifs, 0⟩] scope pos) ℓ σ Q := by
  refine EV_map ℓc X hself ?_ hs
  intro A s hr hi hf
  refine wpAny_mono (h A s hr hi hf) (fun x s₁ h₁ => wpAny_mono h₁ ?_ fun _ _ f => f) fun _ _ f => f
  rintro it s₂ ⟨items, σ₂, ⟨l, out, rfl, hz, hinj, hf1, hm, hq⟩, itr⟩
  refine ⟨_, σ₂, ⟨decF l enc out, by simpa using hz, fun d hd => ?_, fun C => (hm C).map hinj, by rw [flatMap_dec hinj]; exact hq⟩, itr⟩
  obtain ⟨x, hx, rfl⟩ := List.mem_map.mp hd
  rw [decF_of hinj hx]; exact hf1 x hx
theorem ES_mapE {elt target iter : Expr} {ifs : List Expr} {scope : Scope} {x : Str} {px pos spos : Pos} {cl : List (Str × Addr)} {Q : AF → Loc → Store → Prop} (ℓc : Loc) (X : CompSide env scope cl ℓ ℓc) (hself : Sub ℓc ℓc) (hx : env.kindOf x = some .local)
    (hsw : swapsWith (.ListComp elt [⟨target, iter, ifs, 0⟩] scope pos) (some (.Name x px)) spos.line env = pure true) {α : Type} (enc : α → AV)
    (h : EI g n env iter ℓ σ fun items σ₁ => ∃ (l : List α) (out : α → List AV), items = l.map enc ∧ l.length < 100000 ∧ (∀ x y, x ∈ l → y ∈ l → enc x = enc y → out x = out y) ∧ (∀ x ∈ l, (out x).length ≤ 1) ∧ (∀ C, StepE g n (compEnvC scope cl C env) target ifs elt ℓc σ₁ l enc out) ∧ Q .next ((x, .lst (l.flatMap out)) :: ℓ) σ₁)
    (hs : ∀ x, foldedSetIterable iter env x = pure x := by intro _; rfl) : ES g n env (.Assign [.Name x px] (.ListComp elt [⟨target, iter, ifs, 0⟩] scope pos) spos) ℓ σ Q := by
  refine ES_map ℓc X hself hx hsw ?_ hs
  intro A s hr hi hf
  refine wpAny_mono (h A s hr hi hf) (fun x s₁ h₁ => wpAny_mono h₁ ?_ fun _ _ f => f) fun _ _ f => f
  rintro it s₂ ⟨items, σ₂, ⟨l, out, rfl, hz, hinj, hf1, hm, hq⟩, itr⟩
  refine ⟨_, σ₂, ⟨decF l enc out, by simpa using hz, fun d hd => ?_, fun C => (hm C).map hinj, by rw [flatMap_dec hinj]; exact hq⟩, itr⟩
  obtain ⟨x, hx, rfl⟩ := List.mem_map.mp hd
  rw [decF_of hinj hx]; exact hf1 x hx

noncomputable def StepM (g : Gr) (n : Nat) (cenv : Env) (target elt : Expr) (ℓc : Loc) (σ₁ : Store) {α : Type} (l : List α) (enc : α → AV) (res : α → AV) : Prop :=
  ∀ σ' x, x ∈ l → Grow σ₁ σ' → ASGc g n cenv target (enc x) ℓc σ' fun ℓ'' => Sub ℓc ℓ'' ∧ EV g n cenv elt ℓ'' σ' fun e σ'' => σ'' = σ' ∧ e = res x
theorem flatMap_one {α β : Type} (f : α → β) : ∀ l : List α, l.flatMap (fun x => [f x]) = l.map f
  | [] => rfl
  | x :: l => by rw [List.flatMap_cons, List.map_cons, flatMap_one f l]; rfl
theorem StepM.step {cenv : Env} {target elt : Expr} {ℓc : Loc} {α : Type} {l : List α} {enc res : α → AV} (h : StepM g n cenv target elt ℓc σ l enc res) : StepE g n cenv target [] elt ℓc σ l enc fun x => [res x] := by
  intro a ys x hx ha A s v hr hs hf rv
  refine wpAny_mono (h _ x hx (.new ha) A s v hr hs hf rv) ?_ fun _ _ f => f
  rintro _ s' ⟨ℓ', ⟨h1, h2⟩, hf', p⟩
  exact ⟨ℓ', ⟨h1, ⟨rfl, fun _ => h2.mono fun d σ'' ⟨e1, e2⟩ => ⟨e1, by rw [e2]⟩, nofun⟩⟩, hf', p⟩
theorem EV_mapM {elt target iter : Expr} {scope : Scope} {pos : Pos} {cl : List (Str × Addr)} {Q : AV → Store → Prop} (ℓc : Loc) (X : CompSide env scope cl ℓ ℓc) (hself : Sub ℓc ℓc) {α : Type} (enc : α → AV)
    (h : EI g n env iter ℓ σ fun items σ₁ => ∃ (l : List α) (res : α → AV), items = l.map enc ∧ l.length < 100000 ∧ (∀ x y, x ∈ l → y ∈ l → enc x = enc y → res x = res y) ∧ (∀ C, StepM g n (compEnvC scope cl C env) target elt ℓc σ₁ l enc res) ∧ Q (.lst (l.map res)) σ₁)
    (hs : ∀ x, foldedSetIterable iter env x = pure x := by intro _; rfl) : EV g n env (.ListComp elt [⟨target, iter, [], 0⟩] scope pos) ℓ σ Q := by
  refine EV_mapE ℓc X hself enc ?_ hs
  intro A s hr hi hf
  refine wpAny_mono (h A s hr hi hf) (fun x s₁ h₁ => wpAny_mono h₁ ?_ fun _ _ f => f) fun _ _ f => f
  rintro it s₂ ⟨items, σ₂, ⟨l, res, he, hz, hinj, hm, hq⟩, itr⟩
  exact ⟨_, σ₂, ⟨l, fun x => [res x], he, hz, fun x y hx hy e => congrArg (fun d => [d]) (hinj x y hx hy e), fun _ _ => Nat.le_refl _, fun C => (hm C).step, by rw [flatMap_one]; exact hq⟩, itr⟩
theorem int_inj {α : Type} {res : Int → α} {l : List Int} : ∀ x y, x ∈ l → y ∈ l → AV.int x = AV.int y → res x = res y := fun x y _ _ e => by cases e; rfl
theorem EI_range {p pos : Pos} {e : Expr} {Q : List AV → Store → Prop} (G : Gd g) (hg : nsIn g.K mainGlobals (Str.ofString "range") = some none) (hk : env.kindOf (Str.ofString "range") = some .globalImplicit)
    (h : EV g n env e ℓ σ fun d σ₁ => ∃ k : Int, d = .int k ∧ -(2 ^ 62) ≤ k ∧ k < 2 ^ 62 ∧ Q (intsA (rangeL 0 k.toNat)) σ₁) (hes : (backTo pos (starEach [e] env)).all (fun x => !x.1) = true) (hes2 : starEach [e] env = (false, eval e env) :: starEach [] env := by rfl) : EI g n env (.Call (.Name (Str.ofString "range") p) [e] [] pos) ℓ σ Q := by
  refine EI_val (EV_call (.inr (.inr ⟨"range", rfl⟩)) G hes (EV_builtin G hg (by decide +kernel) (by decide) hk ⟨rfl, EL_cons (h.mono ?_) hes2⟩))
  rintro d σ₁ ⟨k, rfl, h1, h2, q⟩
  refine EL_nil (CALL_range1 ⟨_, iter_rng (by decide) (by decide) h1 h2, ?_⟩)
  rw [Int.sub_zero]; exact q
end
end Mine

end
/- part L2a -/
section
open PySem PySem.W PyProof.Rows
set_option Elab.async false
set_option maxRecDepth 100000
namespace Mine
open PySem PySem.W PyProof.Rows PySem.Calls PySem.Spec

theorem fdivN (a b : Nat) : Int.fdiv (a : Int) (b : Int) = ((a / b : Nat) : Int) := by
  rw [Int.fdiv_eq_ediv_of_nonneg _ (by (with_reducible exact Int.natCast_nonneg _))]; rfl
theorem fmodN (a b : Nat) : Int.fmod (a : Int) (b : Int) = ((a % b : Nat) : Int) := by
  rw [Int.fmod_eq_emod_of_nonneg _ (by (with_reducible exact Int.natCast_nonneg _))]; rfl
noncomputable def halfS (b : Blk) (h : Nat) : Str := ([st ".o", st ".oo"]).getD (b.1 / 2 ^ h % 2) (st "")
noncomputable def partsS (b : Blk) : List Str := [3, 2, 1, 0].flatMap fun h => if b.2 ≤ h then [halfS b h] else []
noncomputable def nameS (b : Blk) : Str := st "o" ++ Txt.join (st "") (partsS b)
theorem name_join : ∀ a, a < 16 → ∀ k, k < 5 → JoinOk (st "") (partsS (a, k)) = true ∧ (st "o").length + (Txt.join (st "") (partsS (a, k))).length < 16 := by decide +kernel
theorem pow_inj : ∀ j, j < 4 → ∀ k, k < 4 → ((2 ^ j : Nat) : Int) = ((2 ^ k : Nat) : Int) → j = k := by decide
theorem pow_small : ∀ j, j < 5 → (2 : Nat) ^ j ≤ 16 := by decide

section
variable {w : World} {hB : Heap} {n : Nat} {σ : Store} {Q : AV → Store → Prop}
set_option maxHeartbeats 2000000
theorem name_spec (G : Gd (G1 w hB)) {b : Blk} (h1 : b.1 < 16) (h2 : b.2 < 5) (h : Q (.str (nameS b)) σ) : CALL (G1 w hB) (n + 2) (.ref 153) [.int b.1, .int ((2 ^ b.2 : Nat) : Int)] [] σ Q := by
  obtain ⟨f, k⟩ := b
  refine CALL.shrink (CALL_pos G (a := 153) [st "first", st "size"] rfl rfl rfl rfl rfl rfl rfl rfl rfl rfl (by decide) rfl (by decide) rfl ?_ ?_)
  · rintro (_ | ⟨v1, _ | ⟨v2, _ | ⟨_, _⟩⟩⟩) h <;> first | rfl | (simp at h)
  intro L
  refine EX_cons (ES_ret (EV_binop (EV_str (EV_meth PySem.F.plainAttrs_str PySem.F.slot_str_join PySem.F.type_str_join rfl (by decide) rfl rfl (EV_str ⟨type_str, EL_cons ?_⟩)))))
  refine EV_mapE (cl := [(st "size", L + 1 + 1), (st "first", L + 1)]) [(st "first", .int (f : Int)), (st "size", .int ((2 ^ k : Nat) : Int))] (compSide rfl rfl ⟨rfl, rfl, trivial⟩ ⟨rfl, rfl, trivial⟩) ⟨rfl, rfl, trivial⟩ (fun (h : Nat) => AV.int ((2 ^ h : Nat) : Int)) ?_
  refine EI_val (EV_tuple (EL_cons (EV_int (EL_cons (EV_int (EL_cons (EV_int (EL_cons (EV_int (EL_nil ⟨by simp, _, iter_tup, ?_⟩))))))))))
  refine ⟨[3, 2, 1, 0], fun h => (if k ≤ h then [halfS (f, k) h] else []).map AV.str, rfl, by decide, ?_, fun h _ => by rw [List.length_map]; split <;> simp, fun Cc => ?_, ?_⟩
  · intro x y hx hy e
    have hx4 : x < 4 := by simp at hx; omega
    have hy4 : y < 4 := by simp at hy; omega
    rw [pow_inj x hx4 y hy4 (AV.int.inj e)]
  · intro a ys x hx hna
    have hx4 : x < 4 := by simp at hx; omega
    refine ASGc_name rfl ⟨⟨rfl, rfl, trivial⟩, EB_cmp (EV_name rfl rfl (EV_cell rfl rfl (ge_ii (TruOk_bool ⟨rfl, fun hb => ?_, fun hb => ?_⟩))))⟩
    · have hb' : k ≤ x := (Nat.pow_le_pow_iff_right (by decide)).mp (Int.ofNat_le.mp (of_decide_eq_true hb))
      simp only [if_pos hb']
      refine EV_sub (EV_tuple (EL_cons (EV_str (EL_cons (EV_str (EL_nil ⟨by decide, ?_⟩))))))
      have e : Int.fmod (Int.fdiv (f : Int) ((2 ^ x : Nat) : Int)) 2 = ((f / 2 ^ x % 2 : Nat) : Int) := by rw [fdivN]; exact fmodN _ 2
      have hp : ((2 ^ x : Nat) : Int) ≠ 0 := by have := two_pos x; omega
      refine EV_binop (EV_binop (EV_cell rfl rfl (EV_name rfl rfl (fdiv_ii hp ?_ (EV_int (fmod_ii (by decide) ?_))))))
      · exact (by decide : ∀ x, x < 4 → ((2 ^ x : Nat) : Int).natAbs.log2 < 9000) x hx4
      rw [e]
      have hm : f / 2 ^ x % 2 = 0 ∨ f / 2 ^ x % 2 = 1 := by omega
      refine item_tup (by (with_reducible exact Mine.om_neg (by decide))) (by omega) (d := .str (halfS (f, k) x)) (j := f / 2 ^ x % 2) ?_ ?_ ⟨rfl, rfl⟩
      · rcases hm with q | q <;> rw [q] <;> rfl
      · show _ = some (AV.str (([st ".o", st ".oo"]).getD (f / 2 ^ x % 2) (st "")))
        rcases hm with q | q <;> rw [q] <;> rfl
    · have hb' : ¬ k ≤ x := fun z => of_decide_eq_false hb (Int.ofNat_le.mpr (Nat.pow_le_pow_right (by decide) z))
      simp only [if_neg hb', List.map_nil]
  have e : [3, 2, 1, 0].flatMap (fun h => (if k ≤ h then [halfS (f, k) h] else []).map AV.str) = (partsS (f, k)).map AV.str := by unfold partsS; rw [List.map_flatMap]
  rw [e]
  have hj := name_join f h1 k h2
  exact EL_nil (CALL_join .refl hj.1 (add_ss (Nat.lt_trans hj.2 (by decide)) ⟨.refl, h⟩))
end
end Mine

end
/- part Core30 -/
section
open PySem PySem.W PyProof.Rows
set_option Elab.async false
namespace Mine
open PySem PySem.W PyProof.Rows PySem.Calls PySem.Spec

section
variable {g : Gr} {A : Around} {s s₂ : Shared} {σ σ₂ : Store} {n : Nat} {env : Env} {ℓ : Loc}
end
end Mine

end
/- part Core31 -/
section
open PySem PySem.W PyProof.Rows
set_option Elab.async false
namespace Mine
open PySem PySem.W PyProof.Rows PySem.Calls PySem.Spec
section
variable {g : Gr} {A : Around} {s s₂ : Shared} {σ σ₂ : Store} {n : Nat} {env : Env} {ℓ : Loc}
theorem FI.freeze {hB h : Heap} {x : Str} {a : Addr} {xs : List AV} (S : SI g.w.params g.hB σ h) (F : FI hB h (dom σ) env ℓ) (hx : ℓ.lookup x = some (.raw (.ref a))) (hl : σ.lookup a = some (.lst xs)) : FI hB h (dom (del σ a)) env ((x, .lst xs) :: ℓ) := by
  have k : KeepsF h (dom σ) h (dom (Mine.del σ a)) := keepsF_del
  have rv := Mine.freeze S hl
  refine ⟨F.new, F.kind, F.glob, F.blt, fun b hb q => F.off b hb (del_dom.mp q).1, ?_, fun p hp => ?_, F.has, F.inj, F.uniq⟩
  · obtain ⟨m, hn, hm⟩ := F.ns
    refine ⟨m, hn, fun y d hk hly => ?_⟩
    rw [List.lookup_cons] at hly
    by_cases hyx : y = x
    · subst hyx
      rw [beq_self_eq_true] at hly; cases hly
      obtain ⟨v, e, r⟩ := hm y _ hk hx
      cases r
      exact ⟨_, e, rv⟩
    · rw [beq_eq_false_iff_ne.mpr hyx] at hly
      obtain ⟨v, e, r⟩ := hm y d hk hly
      exact ⟨v, e, r.keep k⟩
  · obtain ⟨v, hc, r⟩ := F.cell p hp
    refine ⟨v, hc, fun d hk hly => ?_⟩
    rw [List.lookup_cons] at hly
    by_cases hyx : p.1 = x
    · rw [hyx, beq_self_eq_true] at hly; cases hly
      obtain ⟨u, e, q⟩ := r _ hk (by rw [hyx]; exact hx)
      cases q
      exact ⟨_, e, rv⟩
    · rw [beq_eq_false_iff_ne.mpr hyx] at hly
      obtain ⟨u, e, q⟩ := r d hk hly
      exact ⟨u, e, q.keep k⟩
theorem Post.del {B : List Addr} {a : Addr} (S : SIg g σ s.heap) : Post g B s σ s (Mine.del σ a) :=
  ⟨SI.del S, ⟨fun b o e => ⟨o, e⟩, fun b o e nb _ => ⟨e, fun q => nb (del_dom.mp q).1⟩⟩, rfl, rfl⟩
theorem EX_freeze {x : Str} {a : Addr} {xs : List AV} {ss : List Stmt} {Q : AF → Loc → Store → Prop} (hx : ℓ.lookup x = some (.raw (.ref a))) (hl : σ.lookup a = some (.lst xs)) (h : EX g n env ss ((x, .lst xs) :: ℓ) (del σ a) Q) : EX g n env ss ℓ σ Q := by
  intro A s hr hs hf
  have p := Post.del (B := fa env) (a := a) hs
  exact (h A s hr p.si (FI.freeze hs hf hx hl)).of_post p
theorem Grow.del {σ σ' : Store} {a : Addr} (h : Grow σ σ') (ha : σ.lookup a = none) : Grow σ (Mine.del σ' a) := fun b x e => by
  rw [del_lookup (fun q => by rw [q, ha] at e; cases e)]; exact h b x e
end
theorem dec_t {p : Prop} {i : Decidable p} (h : @decide p i = true) : p := of_decide_eq_true h
theorem dec_f {p : Prop} {i : Decidable p} (h : @decide p i = false) : ¬ p := of_decide_eq_false h
noncomputable def KOK (env : Env) : List Str → Prop
  | [] => True
  | x :: r => (env.kindOf x = some .local ∨ env.kindOf x = some .cell) ∧ KOK env r
theorem KOK.get {env : Env} : ∀ {l : List Str}, KOK env l → ∀ x ∈ l, env.kindOf x = some .local ∨ env.kindOf x = some .cell
  | [], _, _, h => by simp at h
  | _ :: _, c, x, h => by
    rcases List.mem_cons.mp h with rfl | h
    · exact c.1
    · exact KOK.get c.2 x h
noncomputable def KOL (env : Env) : List Str → Prop
  | [] => True
  | x :: r => env.kindOf x = some .local ∧ KOL env r
theorem KOL.get {env : Env} : ∀ {l : List Str}, KOL env l → ∀ x ∈ l, env.kindOf x = some .local
  | [], _, _, h => by simp at h
  | _ :: _, c, x, h => by
    rcases List.mem_cons.mp h with rfl | h
    · exact c.1
    · exact KOL.get c.2 x h
section
variable {g : Gr} {A : Around} {s s₂ : Shared} {σ σ₂ : Store} {n : Nat} {env : Env} {ℓ : Loc}
theorem ES_assignN {elts : List Expr} {k : Nat} {tp pos : Pos} {e : Expr} {Q : AF → Loc → Store → Prop} (xs : List (Str × Pos)) (helts : assignEach elts env = xs.map fun x => (false, assign (.Name x.1 x.2) env)) (hk : KOK env (xs.map (·.1)))
    (h : EV g n env e ℓ σ fun d σ₁ => ∃ ds, d = .tup ds ∧ xs.length = ds.length ∧ Q .next (puts (xs.map (·.1)) ds ℓ) σ₁)
    (hs : swapsWithSole [.Tuple elts k tp] e pos.line env = pure false := by rfl)
    (hw : swappedStores [.Tuple elts k tp] e env = pure none := by rfl) : ES g n env (.Assign [.Tuple elts k tp] e pos) ℓ σ Q :=
  ES_assignT helts (fun x hx => hk.get _ (List.mem_map_of_mem hx)) h hs hw
theorem ASG_tupN {k : Nat} {pos : Pos} {ds : List AV} {elts : List Expr} {Q : Loc → Prop} (xs : List (Str × Pos)) (helts : assignEach elts env = xs.map fun x => (false, assign (.Name x.1 x.2) env)) (hl : xs.length = ds.length)
    (hk : KOK env (xs.map (·.1))) (h : Q (puts (xs.map (·.1)) ds ℓ)) : ASG g n env (.Tuple elts k pos) (.tup ds) ℓ σ Q :=
  ASG_tup helts hl (fun x hx => hk.get _ (List.mem_map_of_mem hx)) h
theorem ASGc_tupN {k : Nat} {pos : Pos} {ds : List AV} {elts : List Expr} {Q : Loc → Prop} (xs : List (Str × Pos)) (helts : assignEach elts env = xs.map fun x => (false, assign (.Name x.1 x.2) env)) (hl : xs.length = ds.length)
    (hk : KOL env (xs.map (·.1))) (h : Q (puts (xs.map (·.1)) ds ℓ)) : ASGc g n env (.Tuple elts k pos) (.tup ds) ℓ σ Q :=
  ASGc_tup helts hl (fun x hx => hk.get _ (List.mem_map_of_mem hx)) h
end
theorem none_of {σ : Store} {a : Addr} (h : a ∉ dom σ) : σ.lookup a = none := by
  cases q : σ.lookup a with
  | none => rfl
  | some o => exact absurd (dom_of q) h
end Mine

end
/- part L2b -/
section
open PySem PySem.W PyProof.Rows
set_option Elab.async false
set_option maxRecDepth 100000
namespace Mine
open PySem PySem.W PyProof.Rows PySem.Calls PySem.Spec

theorem smalls_tups : ∀ (l : LI) (k : Nat), smalls (k + 1) (l.map tupI) = true
  | [], _ => rfl
  | _ :: l, k => by simp only [List.map_cons, smalls, tupI, small, smalls_ints, Bool.true_and]; exact smalls_tups l k
theorem small_tupI (x : List Int) (k : Nat) : small (k + 1) (tupI x) = true := by simp only [tupI, small, smalls_ints]
theorem enc_inj {b d : Blk} (h : enc b = enc d) : b = d := by
  obtain ⟨f, k⟩ := b
  obtain ⟨f', k'⟩ := d
  unfold enc at h
  injection h with h1 h2
  injection h2 with h2 _
  have e1 : f = f' := Int.ofNat.inj h1
  have e2 : 2 ^ k = 2 ^ k' := Int.ofNat.inj h2
  rw [e1, Nat.le_antisymm ((Nat.pow_le_pow_iff_right (by decide : 1 < 2)).mp (Nat.le_of_eq e2)) ((Nat.pow_le_pow_iff_right (by decide : 1 < 2)).mp (Nat.le_of_eq e2.symm))]
theorem tupI_inj' {x y : List Int} (h : tupI x = tupI y) : x = y := by
  have h := AV.tup.inj h
  have : ∀ x y : List Int, x.map AV.int = y.map AV.int → x = y := by
    intro x
    induction x with
    | nil => intro y h; cases y with | nil => rfl | cons _ _ => simp at h
    | cons a x ih => intro y h; cases y with
      | nil => simp at h
      | cons b y =>
        injection h with h1 h2
        rw [AV.int.inj h1, ih y h2]
  exact this x y h
theorem enc_lt {b d : Blk} (h : b.1 < d.1) : ltI (enc b) (enc d) = true := by
  unfold enc
  rw [ltI, if_neg (by omega)]
  exact decide_eq_true (by omega)
theorem wid_len {c : Nat → Bool} : ∀ {k a : Nat}, (wid c k a).length ≤ 2 ^ k
  | 0, a => by rw [wid]; split <;> simp
  | k + 1, a => by
    have e := two_succ k
    have p := two_pos k
    by_cases q : frB c (k + 1) a = true
    · rw [wid_free q]; simp; omega
    · rw [wid_split (by simpa using q), List.length_append]
      have h1 := wid_len (c := c) (k := k) (a := a)
      have h2 := wid_len (c := c) (k := k) (a := a + 2 ^ k)
      omega
theorem root_is {F : LI} {b : Blk} {R : List Blk} (hh : IsHeap F) (hp : F.Perm ((b :: R).map enc)) (hs : (b :: R).Pairwise fun x y => x.1 < y.1) : gt' F 0 = enc b := by
  have hl : 0 < F.length := by rw [hp.length_eq]; simp
  have hm : gt' F 0 ∈ F := by unfold gt'; rw [List.getD_eq_getElem?_getD, List.getElem?_eq_getElem hl]; exact List.getElem_mem _
  obtain ⟨d, hd, hde⟩ := List.mem_map.mp (hp.mem_iff.mp hm)
  rcases List.mem_cons.mp hd with rfl | hd
  · exact hde.symm
  · exfalso
    have hlt := enc_lt ((List.pairwise_cons.mp hs).1 d hd)
    rw [hde] at hlt
    obtain ⟨i, hi, he⟩ := List.getElem_of_mem (hp.mem_iff.mpr (List.mem_map.mpr ⟨b, .head _, rfl⟩))
    have := hh.root i hi
    unfold le at this
    rw [show gt' F i = enc b by unfold gt'; rw [List.getD_eq_getElem?_getD, List.getElem?_eq_getElem hi]; exact he] at this
    rw [this] at hlt; cases hlt
theorem heap_cons {F : LI} {b : Blk} {R : List Blk} (hh : IsHeap F) (hp : F.Perm ((b :: R).map enc)) (hs : (b :: R).Pairwise fun x y => x.1 < y.1) :
    ∃ xs t, F = xs ++ [t] ∧ (xs ++ [t]).getD 0 [] = enc b ∧ IsHeap (popF xs t) ∧ (popF xs t).Perm (R.map enc) := by
  have hne : F ≠ [] := fun q => by rw [q] at hp; exact absurd hp.length_eq (by simp)
  obtain ⟨xs, t, rfl⟩ : ∃ xs t, F = xs ++ [t] := ⟨F.dropLast, F.getLast hne, (List.dropLast_concat_getLast hne).symm⟩
  have hr := root_is hh hp hs
  obtain ⟨p1, p2, _⟩ := pop_ok hh
  rw [hr] at p2
  exact ⟨xs, t, rfl, hr, p1, List.Perm.cons_inv (p2.trans hp)⟩
inductive TakeI (W : List Blk) (j : Nat) (σ : Store) (a sa : Addr) (m : Nat) (ℓ : Loc) (τ : Store) : Prop
  | mk (P R : List Blk) (F : LI) (hW : W = P ++ R) (hP : ∀ b ∈ P, b.2 < j) (hF : F.Perm (R.map enc)) (hh : IsHeap F) (hm : m = R.length) (hl : τ.lookup a = some (.lst (F.map tupI))) (hs : τ.lookup sa = some (.lst ((P.map enc).map tupI)))
      (ho : ∀ b x, b ≠ a → σ.lookup b = some x → τ.lookup b = some x) (hsub : Sub [(st "free", .raw (.ref a)), (st "size", .int ((2 ^ j : Nat) : Int)), (st "small", .raw (.ref sa)), (st "first", .none)] ℓ)
inductive HalfI (P R : List Blk) (f j d0 : Nat) (σ : Store) (a sa : Addr) (d : Nat) (ℓ : Loc) (τ : Store) : Prop
  | mk (H : List Blk) (F : LI) (hH : (halves f j d ++ H).Perm (halves f j d0)) (hF : F.Perm ((R ++ H).map enc)) (hh : IsHeap F) (hl : τ.lookup a = some (.lst (F.map tupI))) (hs : τ.lookup sa = some (.lst ((P.map enc).map tupI)))
      (ho : ∀ b x, b ≠ a → σ.lookup b = some x → τ.lookup b = some x) (hsub : Sub [(st "free", .raw (.ref a)), (st "size", .int ((2 ^ j : Nat) : Int)), (st "small", .raw (.ref sa)), (st "first", .int (f : Int)), (st "room", .int ((2 ^ (j + d) : Nat) : Int))] ℓ)
inductive TakeR (c : Nat → Bool) (j : Nat) (F : LI) : AV → Prop
  | one (P R : List Blk) (f m : Nat) (hW : wid c 4 0 = P ++ (f, m) :: R) (hP : ∀ b ∈ P, b.2 < j) (hj : j ≤ m) (hF : F.Perm ((P ++ halves f j (m - j) ++ R).map enc)) : TakeR c j F (.int (f : Int))
  | no (hP : ∀ b ∈ wid c 4 0, b.2 < j) (hF : F.Perm ((wid c 4 0).map enc)) : TakeR c j F .none
theorem halves_len {f j : Nat} : ∀ d, (halves f j d).length = d
  | 0 => rfl
  | d + 1 => by rw [halves, List.length_append, halves_len d]; rfl

theorem EB.mono {g : Gr} {n : Nat} {env : Env} {e : PySem.Expr} {ℓ : Loc} {σ : Store} {Q Q' : Bool → Store → Prop} (h : EB g n env e ℓ σ Q) (hq : ∀ b σ', Q b σ' → Q' b σ') : EB g n env e ℓ σ Q' :=
  fun A s r i f => wpAny_mono (h A s r i f) (fun _ _ ⟨σ', q, p⟩ => ⟨σ', hq _ _ q, p⟩) fun _ _ f => f
section
variable {w : World} {hB : Heap} {n : Nat} {σ : Store} {Q : AV → Store → Prop}
set_option maxHeartbeats 4000000
theorem take_tail (G : Gd (G1 w hB)) {env : Env} {ℓ : Loc} {τ : Store} {a sa : Addr} {F P : LI} {d : AV} {K : AF → Loc → Store → Prop} {p1 p2 p3 p4 p5 p6 p7 p8 p9 p10 p11 : Pos} (h1 : env.kindOf (st "free") = some .local) (h2 : env.kindOf (st "small") = some .local) (h3 : env.kindOf (st "first") = some .local) (h4 : env.kindOf (st "heapify") = some .globalImplicit)
    (l1 : ℓ.lookup (st "free") = some (.raw (.ref a))) (l2 : ℓ.lookup (st "small") = some (.raw (.ref sa))) (l3 : ℓ.lookup (st "first") = some d) (hl : τ.lookup a = some (.lst (F.map tupI))) (hs : τ.lookup sa = some (.lst (P.map tupI))) (hF : F.length < 1000) (hP : P.length < 1000) (hline : (p2.endLine == p4.line) = true)
    (e8 : (backTo p8 (starEach [.Name (st "free") p7] env)).all (fun x => !x.1) = true) (e4 : (backTo p4 (starEach [.Name (st "small") p3] env)).all (fun x => !x.1) = true)
    (h : ∀ F' σ', IsHeap F' → F'.Perm (F ++ P) → Upd τ a (.lst (F'.map tupI)) σ' → K (.ret d) ℓ σ') :
    EX (G1 w hB) (n + 9) env [.Expr (.Call (.Attribute (.Name (st "free") p1) (st "extend") p2) [.Name (st "small") p3] [] p4) p5, .Expr (.Call (.Name (st "heapify") p6) [.Name (st "free") p7] [] p8) p9, .Return (some (.Name (st "first") p10)) p11] ℓ τ K := by
  refine EX_cons (ES_expr (EV_meth PySem.F.plainAttrs_list PySem.F.slot_list_extend PySem.F.type_list_extend e4 (by simp) hline rfl (EV_name l1 h1 ⟨type_lst hl, EL_cons (EV_name l2 h2 (EL_nil (CALL_extend hl (.lst hs) (by rw [List.length_map]; (with_reducible exact Nat.lt_of_lt_of_le (by assumption) (by decide))) (by rw [List.length_map]; (with_reducible exact Nat.lt_of_lt_of_le (by assumption) (by decide))) ?_)))⟩)))
  have hl2 := upd_self (o := .lst (F.map tupI ++ P.map tupI)) hl
  rw [← List.map_append] at hl2 ⊢
  obtain ⟨q1, q2⟩ := heapify_ok (F ++ P)
  refine EX_cons (ES_expr (EV_gcall G rfl h4 rfl e8 (EL_cons (EV_name l1 h1 (EL_nil (heapify_spec G hl2 (by rw [List.length_append]; omega) fun σ₂ U => ?_))))))
  exact EX_cons (ES_ret (EV_name l3 h3 (h _ _ q1 q2 ((Upd.upd hl).trans U))))
theorem take_spec (G : Gd (G1 w hB)) {c : Nat → Bool} {a : Addr} {F : LI} {j : Nat} (hj : j < 4) (hl : σ.lookup a = some (.lst (F.map tupI))) (hF : F.Perm ((wid c 4 0).map enc)) (hh : IsHeap F)
    (h : ∀ d F' σ', TakeR c j F' d → IsHeap F' → Upd σ a (.lst (F'.map tupI)) σ' → Q d σ') : CALL (G1 w hB) (n + 12) (.ref 160) [.raw (.ref a), .int ((2 ^ j : Nat) : Int)] [] σ Q := by
  refine CALL_pos G (a := 160) [st "free", st "size"] rfl rfl rfl rfl rfl rfl rfl rfl rfl rfl (by decide) rfl (by decide) rfl ?_ ?_
  · rintro (_ | ⟨v1, _ | ⟨v2, _ | ⟨_, _⟩⟩⟩) h <;> first | rfl | (simp at h)
  intro L
  refine EX_cons (ES_assignTS (KOK.get (l := [st "small", st "first"]) ⟨.inl rfl, .inl rfl, trivial⟩) (EV_tuple (EL_cons (EV_listM (EL_nil ⟨by simp, fun sa hsa => EL_cons (EV_none (EL_nil ⟨by simp, _, rfl, rfl, ?_⟩))⟩)))))
  have hne : sa ≠ a := fun q => hsa (q ▸ dom_of hl)
  have hsa0 := none_of hsa
  have hwl : (wid c 4 0).length ≤ 16 := wid_len (c := c) (k := 4) (a := 0)
  have hws := wid_sorted (c := c) (k := 4) (a := 0)
  refine EX_cons (ES_while (TakeI (wid c 4 0) j σ a sa) ?_ (wid c 4 0).length ⟨[], _, F, rfl, nofun, hF, hh, rfl, lookup_new hl hsa, by simp, fun b x hb e => lookup_new e hsa, ⟨rfl, rfl, rfl, rfl, trivial⟩⟩)
  rintro m ℓ τ ⟨P, R, F, hW, hP, hF, hh, rfl, hl, hs, ho, hsub⟩
  have hlenW : P.length + R.length ≤ 16 := by rw [← List.length_append, ← hW]; exact hwl
  have hFl : F.length = R.length := by rw [hF.length_eq, List.length_map]
  have hRs : R.Pairwise fun x y => x.1 < y.1 := by rw [hW] at hws; exact (List.pairwise_append.mp hws).2.1
  have hb16 : ∀ b ∈ wid c 4 0, b.1 < 16 ∧ b.2 < 5 := fun b hb => by
    have W := wid_mem hb
    have := W.hi
    have := two_pos b.2
    have := W.lev
    omega
  have ups : ∀ {o : AO} {τ' : Store}, Upd τ a o τ' → ∀ b x, b ≠ a → σ.lookup b = some x → τ'.lookup b = some x := fun U b x hb e => U.old b x hb (ho b x hb e)
  refine EB_sub hsub (EB.mono (Q := fun b τ' => τ' = τ ∧ (b = true → ∃ b0 R', R = b0 :: R' ∧ b0.2 < j) ∧ (b = false → R = [] ∨ ∃ b0 R', R = b0 :: R' ∧ j ≤ b0.2)) ?_ ?_)
  · refine EB_bool (EAll_and (EB_cmp (EV_name rfl rfl (EV_list (EL_nil ⟨by simp, ne_view (.lst hl) .refl (smalls_tups F 7) rfl (TruOk_bool ⟨fun hb => ?_, fun hb => ?_⟩)⟩)))))
    · cases R with
      | nil =>
        have : F = [] := by simpa using hF
        subst this
        exact absurd rfl (dec_f ((Bool.not_eq_true' _).mp hb))
      | cons b0 R =>
        obtain ⟨xs, t, rfl, e0, -, -⟩ := heap_cons hh hF hRs
        have hx0 : ((xs ++ [t]).map tupI)[(0 : Int).toNat]? = some (tupI (enc b0)) := by
          rw [List.getElem?_map, show (0 : Int).toNat = 0 from rfl]
          rw [List.getD_eq_getElem?_getD] at e0
          cases q : (xs ++ [t])[0]? with
          | none => simp at q
          | some y => rw [q] at e0; rw [← e0]; rfl
        obtain ⟨hb1, hb2⟩ := hb16 b0 (by rw [hW]; simp)
        refine EAll_and (EB_cmp (EV_sub (EV_sub (EV_name rfl rfl (EV_int (item_list (.lst hl) (by decide) (by decide) hx0 (EV_int (item_tup (by decide) (by decide) (j := 1) rfl (d := .int ((2 ^ b0.2 : Nat) : Int)) rfl (EV_name rfl rfl (lt_ii (TruOk_bool ⟨fun hc => EAll_andnil ⟨rfl, fun _ => ?_, nofun⟩, fun hc => ⟨rfl, nofun, fun _ => ?_⟩⟩)))))))))))
        · refine ⟨b0, R, rfl, (Nat.pow_lt_pow_iff_right (by decide : 1 < 2)).mp ?_⟩
          exact Int.ofNat_lt.mp (of_decide_eq_true hc)
        · refine .inr ⟨b0, R, rfl, (Nat.pow_le_pow_iff_right (by decide : 1 < 2)).mp ?_⟩
          have := of_decide_eq_false hc
          exact Int.ofNat_le.mp (Int.not_lt.mp this)
    · refine ⟨rfl, nofun, fun _ => .inl ?_⟩
      have : F.map tupI = [] := AV.lst.inj (dec_t ((Bool.not_eq_false' _).mp hb))
      cases R with
      | nil => rfl
      | cons _ _ =>
        have : F.length = 0 := by rw [← List.length_map (f := tupI), this]; rfl
        rw [hFl] at this; simp at this
  rintro b _ ⟨rfl, ht, hf⟩
  refine ⟨fun e => ?_, fun e => ?_⟩
  · -- too small
    obtain ⟨b0, R, rfl, hb0⟩ := ht e
    obtain ⟨xs, t, rfl, e0, g1, g2⟩ := heap_cons hh hF hRs
    have hxl : xs.length ≤ 16 := by simp at hFl hlenW; omega
    refine EX_sub hsub (EX_cons (ES_expr (EV_meth PySem.F.plainAttrs_list PySem.F.slot_list_append PySem.F.type_list_append rfl (by decide) rfl rfl (EV_name rfl rfl ⟨type_lst hs, EL_cons (EV_gcall G rfl rfl rfl rfl (EL_cons (EV_name rfl rfl (EL_nil (heappop_spec G hl (by (with_reducible exact Nat.lt_of_le_of_lt (by assumption) (by decide))) fun τ' U => EL_nil (CALL_append (U.old _ _ hne hs) (by simp at hlenW ⊢; omega) ?_))))))⟩))))
    rw [e0]
    have e1 : (P.map enc).map tupI ++ [tupI (enc b0)] = ((P ++ [b0]).map enc).map tupI := by simp
    rw [e1]
    have hs' := U.old _ _ hne hs
    refine EX_nil ⟨R.length, by simp, P ++ [b0], R, _, by rw [hW]; simp, fun b hb => ?_, g2, g1, rfl, (upd_ne (Ne.symm hne)).trans U.self, upd_self hs', fun b x hb e => ?_, ⟨rfl, rfl, rfl, rfl, trivial⟩⟩
    · rcases List.mem_append.mp hb with hb | hb
      · exact hP b hb
      · rw [List.mem_singleton.mp hb]; exact hb0
    · by_cases q : b = sa
      · rw [q, hsa0] at e; cases e
      · exact (upd_ne q).trans (ups U b x hb e)
  · refine EX_sub hsub (EX_cons (ES_if (EB_cmp (EV_name rfl rfl (EV_list (EL_nil ⟨by simp, ne_view (.lst hl) .refl (smalls_tups F 7) rfl (TruOk_bool ⟨fun hb => ?_, fun hb => ?_⟩)⟩))))))
    · rcases hf e with rfl | ⟨⟨f, m⟩, R, rfl, hjm⟩
      · have : F = [] := by simpa using hF
        subst this
        exact absurd rfl (dec_f ((Bool.not_eq_true' _).mp hb))
      · simp only at hjm
        obtain ⟨xs, t, rfl, e0, g1, g2⟩ := heap_cons hh hF hRs
        have hxl : xs.length ≤ 16 := by simp at hFl hlenW; omega
        obtain ⟨hb1, hb2⟩ := hb16 (f, m) (by rw [hW]; simp)
        simp only at hb1 hb2
        refine EX_cons (ES_assignN [(st "first", _), (st "room", _)] rfl ⟨.inl rfl, .inl rfl, trivial⟩ (EV_gcall G rfl rfl rfl rfl (EL_cons (EV_name rfl rfl (EL_nil (heappop_spec G hl (by (with_reducible exact Nat.lt_of_le_of_lt (by assumption) (by decide))) fun τ₁ U => ?_))))))
        rw [e0]
        refine ⟨_, rfl, rfl, ?_⟩
        have hs₁ := U.old _ _ hne hs
        have ho₁ := ups U
        obtain ⟨dd, rfl⟩ : ∃ dd, m = j + dd := ⟨m - j, by omega⟩
        refine EX_cons (ES_while (HalfI P R f j dd σ a sa) ?_ dd ⟨[], _, by rw [List.append_nil], by rw [List.append_nil]; exact g2, g1, U.self, hs₁, ho₁, ⟨rfl, rfl, rfl, rfl, rfl, trivial⟩⟩)
        rintro d ℓ₂ τ₂ ⟨H, F₂, hH, hF₂, hh₂, hl₂, hs₂, ho₂, hsub₂⟩
        have hHl := hH.length_eq
        rw [List.length_append, halves_len, halves_len] at hHl
        have hF₂l := hF₂.length_eq
        rw [List.length_map, List.length_append] at hF₂l
        have hRl : R.length ≤ 16 := by simp at hlenW; omega
        have hPl : P.length ≤ 16 := by omega
        refine EB_sub hsub₂ (EB_cmp (EV_name rfl rfl (EV_name rfl rfl (gt_ii (TruOk_bool ⟨fun hc => ?_, fun hc => ?_⟩)))))
        · have hd : 0 < d := by
            have := (Nat.pow_lt_pow_iff_right (by decide : 1 < 2)).mp (Int.ofNat_lt.mp (of_decide_eq_true hc))
            omega
          obtain ⟨d, rfl⟩ : ∃ d', d = d' + 1 := ⟨d - 1, by omega⟩
          refine EX_sub hsub₂ (EX_cons (ES_assign (.inl rfl) (EV_binop (EV_name rfl rfl (EV_int (fdiv_ii (by decide) (by decide) ?_))))))
          have ed : Int.fdiv ((2 ^ (j + (d + 1)) : Nat) : Int) 2 = ((2 ^ (j + d) : Nat) : Int) := by
            have := fdivN (2 ^ (j + (d + 1))) 2
            rw [show j + (d + 1) = j + d + 1 from rfl, Nat.pow_succ, Nat.mul_div_cancel _ (by decide)] at this
            exact this
          rw [ed]
          have p16 := pow_small (j + d) (by omega)
          refine EX_cons (ES_expr (EV_gcall G rfl rfl rfl rfl (EL_cons (EV_name rfl rfl (EL_cons (EV_tuple (EL_cons (EV_binop (EV_name rfl rfl (EV_name rfl rfl (add_ii (EL_cons (EV_name rfl rfl (EL_nil ⟨by simp, EL_nil ?_⟩))))))))))))))
          refine heappush_spec (t := enc (f + 2 ^ (j + d), j + d)) G hl₂ (by omega) fun τ₃ U₃ => EX_nil ?_
          obtain ⟨r1, r2⟩ := push_ok (t := enc (f + 2 ^ (j + d), j + d)) hh₂
          refine ⟨d, Nat.lt_succ_self _, H ++ [(f + 2 ^ (j + d), j + d)], _, ?_, ?_, r1, U₃.self, U₃.old _ _ hne hs₂, fun b x hb e => U₃.old b x hb (ho₂ b x hb e), ⟨rfl, rfl, rfl, rfl, rfl, trivial⟩⟩
          · refine List.Perm.trans ?_ hH
            rw [halves, List.append_assoc]
            exact List.perm_append_comm.append_left _
          · refine r2.trans ?_
            rw [← List.append_assoc, List.map_append]
            exact (hF₂.cons _).trans (List.perm_append_comm (l₁ := [enc (f + 2 ^ (j + d), j + d)]))
        · have hd : d = 0 := by
            have := Int.ofNat_le.mp (Int.not_lt.mp (of_decide_eq_false hc))
            have := (Nat.pow_le_pow_iff_right (by decide : 1 < 2)).mp this
            omega
          subst hd
          refine EX_sub hsub₂ (EX_nil (take_tail G rfl rfl rfl rfl rfl rfl rfl hl₂ hs₂ (by omega) (by rw [List.length_map]; (with_reducible exact Nat.lt_of_le_of_lt (by assumption) (by decide))) rfl rfl rfl fun F' σ' q1 q2 U => ?_))
          refine h _ _ _ (.one P R f (j + dd) hW hP hjm ?_) q1 ⟨U.self, fun b x hb e => U.old b x hb (ho₂ b x hb e)⟩
          rw [Nat.add_sub_cancel_left]
          refine q2.trans ((hF₂.append_right _).trans ?_)
          rw [← List.map_append]
          refine List.Perm.map _ ?_
          have : (R ++ H ++ P).Perm (P ++ (H ++ R)) := List.perm_append_comm.trans (List.perm_append_comm.append_left _)
          refine this.trans ?_
          rw [List.append_assoc]
          refine List.Perm.append_left _ (List.Perm.append_right _ ?_)
          simpa [halves] using hH
    · have : F.map tupI = [] := AV.lst.inj (dec_t ((Bool.not_eq_false' _).mp hb))
      have hF0 : F = [] := by simpa using this
      have hR0 : R = [] := by
        have : F.length = 0 := by rw [hF0]; rfl
        rw [hFl] at this; exact List.length_eq_zero_iff.mp this
      subst hR0
      rw [List.append_nil] at hW
      refine EX_nil (take_tail G rfl rfl rfl rfl rfl rfl rfl hl hs (by (with_reducible exact Mine.om_eql (by assumption) (by decide))) (by rw [List.length_map]; omega) rfl rfl rfl fun F' σ' q1 q2 U => ?_)
      refine h _ _ _ (.no (by rw [hW]; exact hP) ?_) q1 ⟨U.self, fun b x hb e => U.old b x hb (ho b x hb e)⟩
      rw [hW]
      rw [hF0, List.nil_append] at q2; exact q2
end
end Mine

end
/- part L2c -/
section
open PySem PySem.W PyProof.Rows
set_option Elab.async false
set_option maxRecDepth 100000
namespace Mine
open PySem PySem.W PyProof.Rows PySem.Calls PySem.Spec

theorem xor_val : ∀ f : Nat, f < 16 → ∀ m, m < 5 → Builtin.bitXor (f : Int) ((2 ^ m : Nat) : Int) = ((f ^^^ 2 ^ m : Nat) : Int) := by decide
theorem xor_small : ∀ f, f < 16 → ∀ m, m < 4 → f ^^^ 2 ^ m < 16 := by decide
theorem xor_big : ∀ f, f < 16 → ¬ f ^^^ 2 ^ 4 < 16 := by decide
inductive GiveI (T : List Blk) (σ : Store) (a : Addr) (i : Nat) (ℓ : Loc) (τ : Store) : Prop
  | mk (S : List Blk) (f m : Nat) (F : LI) (hm : MgR i S f m T) (hS : ∀ b ∈ S, b.1 < 16) (hf : f < 16) (h5 : m < 5) (hF : F.Perm (S.map enc)) (hh : IsHeap F) (hlen : S.length ≤ 16) (hl : τ.lookup a = some (.lst (F.map tupI)))
      (ho : ∀ b x, b ≠ a → σ.lookup b = some x → τ.lookup b = some x) (hsub : Sub [(st "free", .raw (.ref a)), (st "first", .int (f : Int)), (st "size", .int ((2 ^ m : Nat) : Int))] ℓ)
theorem erase_enc {F : LI} {S : List Blk} {b : Blk} (h : F.Perm (S.map enc)) : (F.erase (enc b)).Perm ((S.erase b).map enc) := by
  refine (h.erase _).trans ?_
  have : ∀ S : List Blk, (S.map enc).erase (enc b) = (S.erase b).map enc := by
    intro S
    induction S with
    | nil => rfl
    | cons x S ih =>
      by_cases q : x = b
      · subst q; simp
      · have q' : enc x ≠ enc b := fun z => q (enc_inj z)
        rw [List.map_cons, List.erase_cons_tail (by simpa using q'), List.erase_cons_tail (by simpa using q), ih]; rfl
  rw [this S]
section
variable {w : World} {hB : Heap} {n : Nat} {σ : Store} {Q : AV → Store → Prop}
set_option maxHeartbeats 4000000
theorem give_spec (G : Gd (G1 w hB)) {S T : List Blk} {i f m : Nat} {a : Addr} {F : LI} (hm : MgR i S f m T) (hS : ∀ b ∈ S, b.1 < 16) (hf : f < 16) (h5 : m < 5) (hF : F.Perm (S.map enc)) (hh : IsHeap F) (hlen : S.length ≤ 16) (hl : σ.lookup a = some (.lst (F.map tupI)))
    (h : ∀ F' σ', F'.Perm (T.map enc) → IsHeap F' → Upd σ a (.lst (F'.map tupI)) σ' → Q .none σ') : CALL (G1 w hB) (n + 12) (.ref 167) [.raw (.ref a), .int (f : Int), .int ((2 ^ m : Nat) : Int)] [] σ Q := by
  refine CALL_pos G (a := 167) [st "free", st "first", st "size"] rfl rfl rfl rfl rfl rfl rfl rfl rfl rfl (by decide) rfl (by decide) rfl ?_ ?_
  · rintro (_ | ⟨v1, _ | ⟨v2, _ | ⟨v3, _ | ⟨_, _⟩⟩⟩⟩) h <;> first | rfl | (simp at h)
  intro L
  refine EX_cons (ES_while (GiveI T σ a) ?_ i ⟨S, f, m, F, hm, hS, hf, h5, hF, hh, hlen, hl, fun _ _ _ e => e, ⟨rfl, rfl, rfl, trivial⟩⟩)
  rintro i ℓ τ ⟨S, f, m, F, hm, hS, hf, h5, hF, hh, hlen, hl, ho, hsub⟩
  have hFl : F.length ≤ 16 := by rw [hF.length_eq, List.length_map]; exact hlen
  have ex := xor_val f hf m h5
  have et : AV.tup [.int ((f ^^^ 2 ^ m : Nat) : Int), .int ((2 ^ m : Nat) : Int)] = tupI (enc (f ^^^ 2 ^ m, m)) := rfl
  have hmem : tupI (enc (f ^^^ 2 ^ m, m)) ∈ F.map tupI ↔ (f ^^^ 2 ^ m, m) ∈ S := by
    constructor
    · intro z
      obtain ⟨y, hy, e⟩ := List.mem_map.mp z
      obtain ⟨b, hb, e2⟩ := List.mem_map.mp (hF.mem_iff.mp hy)
      rw [tupI_inj' e] at e2
      rw [enc_inj e2] at hb; exact hb
    · exact fun z => List.mem_map_of_mem (hF.mem_iff.mpr (List.mem_map_of_mem z))
  refine EB_sub hsub (EB_cmp (EV_tuple (EL_cons (EV_binop (EV_name rfl rfl (EV_name rfl rfl (xor_ii ?_)))))))
  rw [ex]
  refine EL_cons (EV_name rfl rfl (EL_nil ⟨by simp, EV_name rfl rfl ?_⟩))
  rw [et]
  refine in_view (.lst hl) (small_tupI _ 7) (smalls_tups F 7) (TruOk_bool ⟨fun hb => ?_, fun hb => ?_⟩)
  · have hin := hmem.mp (dec_t hb)
    cases hm with
    | done hn => exact absurd hin hn
    | @step i _ _ _ _ _ hm' =>
      have h4 : m < 4 := by
        rcases Nat.lt_or_ge m 4 with q | q
        · exact q
        · have : m = 4 := by omega
          subst this
          exact absurd (hS _ hin) (xor_big f hf)
      have xs := xor_small f hf m h4
      refine EX_sub hsub (EX_cons (ES_expr (EV_meth PySem.F.plainAttrs_list PySem.F.slot_list_remove PySem.F.type_list_remove rfl (by decide) rfl rfl (EV_name rfl rfl ⟨type_lst hl, EL_cons (EV_tuple (EL_cons (EV_binop (EV_name rfl rfl (EV_name rfl rfl (xor_ii ?_))))))⟩))))
      rw [ex]
      refine EL_cons (EV_name rfl rfl (EL_nil ⟨by simp, EL_nil (CALL_remove (t := enc (f ^^^ 2 ^ m, m)) hl (hF.mem_iff.mpr (List.mem_map_of_mem hin)) (by (with_reducible exact Nat.lt_of_le_of_lt (by assumption) (by decide))) ?_)⟩))
      have hl1 := upd_self (o := .lst ((F.erase (enc (f ^^^ 2 ^ m, m))).map tupI)) hl
      have g1 := erase_enc (b := (f ^^^ 2 ^ m, m)) hF
      obtain ⟨q1, q2⟩ := heapify_ok (F.erase (enc (f ^^^ 2 ^ m, m)))
      have hel : (F.erase (enc (f ^^^ 2 ^ m, m))).length ≤ 16 := Nat.le_trans (List.length_erase_le ..) hFl
      refine EX_cons (ES_expr (EV_gcall G rfl rfl rfl rfl (EL_cons (EV_name rfl rfl (EL_nil (heapify_spec G hl1 (by (with_reducible exact Nat.lt_of_le_of_lt (by assumption) (by decide))) fun τ₂ U => ?_))))))
      refine EX_cons (ES_assignTS (KOK.get (l := [st "first", st "size"]) ⟨.inl rfl, .inl rfl, trivial⟩) (EV_tuple (EL_cons (EV_bcall G rfl rfl (by decide) rfl rfl (EL_cons (EV_name rfl rfl (EL_cons (EV_binop (EV_name rfl rfl (EV_name rfl rfl (xor_ii ?_)))))))))))
      rw [ex]
      refine EL_nil (CALL_min2 (EL_cons (EV_binop (EV_int (EV_name rfl rfl (mul_ii ?_ (EL_nil ⟨by simp, _, rfl, rfl, ?_⟩)))))))
      · exact .of_left (by decide)
      have em : (if ((f ^^^ 2 ^ m : Nat) : Int) < (f : Int) then ((f ^^^ 2 ^ m : Nat) : Int) else (f : Int)) = ((min f (f ^^^ 2 ^ m) : Nat) : Int) := by
        generalize f ^^^ 2 ^ m = x
        split <;> omega
      have e2 : 2 * ((2 ^ m : Nat) : Int) = ((2 ^ (m + 1) : Nat) : Int) := by rw [two_succ]; omega
      rw [em, e2]
      refine EX_nil ⟨i, Nat.lt_succ_self _, _, _, _, _, hm', fun b hb => hS b (List.mem_of_mem_erase hb), by omega, by omega, q2.trans g1, q1, Nat.le_trans (List.length_erase_le ..) hlen, U.self, fun b x hb e => U.old b x hb ((upd_ne hb).trans (ho b x hb e)), ⟨rfl, rfl, rfl, trivial⟩⟩
  · have hin := fun z => dec_f hb (hmem.mpr z)
    cases hm with
    | step h' _ => exact absurd h' hin
    | done _ =>
      obtain ⟨r1, r2⟩ := push_ok (t := enc (f, m)) hh
      refine EX_sub hsub (EX_cons (ES_expr (EV_gcall G rfl rfl rfl rfl (EL_cons (EV_name rfl rfl (EL_cons (EV_tuple (EL_cons (EV_name rfl rfl (EL_cons (EV_name rfl rfl (EL_nil ⟨by simp, EL_nil ?_⟩))))))))))))
      refine heappush_spec (t := enc (f, m)) G hl (by (with_reducible exact Nat.lt_of_le_of_lt (by assumption) (by decide))) fun τ₃ U₃ => EX_nil ?_
      exact h _ _ (r2.trans (hF.cons _)) r1 ⟨U₃.self, fun b x hb e => U₃.old b x hb (ho b x hb e)⟩
end
end Mine

end
/- part Core32 -/
section
open PySem PySem.W PyProof.Rows
set_option Elab.async false
namespace Mine
open PySem PySem.W PyProof.Rows PySem.Calls PySem.Spec
theorem fm_range (xs : List AV) (a : Nat) : ∀ c : Nat, ((List.range c).map fun k => a + k).filterMap (xs[·]?) = (xs.drop a).take c
  | 0 => by simp
  | c + 1 => by
    rw [List.range_succ, List.map_append, List.filterMap_append, fm_range xs a c, List.take_add_one]
    congr 1
    simp only [List.map_cons, List.map_nil, List.getElem?_drop]
    cases q : xs[a + c]? <;> simp [q]
theorem range_up {a b : Nat} : sliceRange (a : Int) (b : Int) 1 = (List.range (b - a)).map fun k => a + k := by
  unfold sliceRange
  have hc : (if (1 : Int) > 0 then (if (a : Int) < b then ((b : Int) - a + 1 - 1) / 1 else 0) else (if (a : Int) > b then ((a : Int) - b - 1 - 1) / (-1) else 0)).toNat = b - a := by
    rw [if_pos (by decide)]
    split <;> omega
  simp only [hc]
  apply List.map_congr_left
  intro k _
  omega
theorem pick_to {xs : List AV} {m : Nat} : pickL xs none (some (m : Int)) none = xs.take m := by
  unfold pickL
  have hb : sliceBounds none (some (m : Int)) none xs.length = (((0 : Nat) : Int), ((min m xs.length : Nat) : Int), 1) := by
    unfold sliceBounds
    simp only [Option.getD_none]
    refine Prod.ext rfl (Prod.ext ?_ rfl)
    show (if (1 : Int) > 0 then max 0 (min (if (m : Int) < 0 then (m : Int) + xs.length else m) xs.length) else max (-1) (min (if (m : Int) < 0 then (m : Int) + xs.length else m) ((xs.length : Int) - 1))) = _
    rw [if_pos (by decide), if_neg (by omega)]
    dsimp only
    omega
  rw [hb]
  dsimp only
  rw [range_up, fm_range]
  simp
theorem pick_from {xs : List AV} {m : Nat} : pickL xs (some (m : Int)) none none = xs.drop m := by
  unfold pickL
  have hb : sliceBounds (some (m : Int)) none none xs.length = (((min m xs.length : Nat) : Int), ((xs.length : Nat) : Int), 1) := by
    unfold sliceBounds
    simp only [Option.getD_none]
    refine Prod.ext ?_ (Prod.ext rfl rfl)
    show (if (1 : Int) > 0 then max 0 (min (if (m : Int) < 0 then (m : Int) + xs.length else m) xs.length) else max (-1) (min (if (m : Int) < 0 then (m : Int) + xs.length else m) ((xs.length : Int) - 1))) = _
    rw [if_pos (by decide), if_neg (by omega)]
    dsimp only
    omega
  rw [hb]
  dsimp only
  rw [range_up, fm_range]
  by_cases h : m ≤ xs.length
  · rw [Nat.min_eq_left h, List.take_of_length_le (by simp)]
  · rw [Nat.min_eq_right (by omega)]
    rw [List.drop_of_length_le (Nat.le_refl _), List.drop_of_length_le (by omega)]; simp
theorem pick_mid {xs : List AV} {a b : Nat} : pickL xs (some (a : Int)) (some (b : Int)) none = (xs.drop a).take (b - a) := by
  unfold pickL
  have hb : sliceBounds (some (a : Int)) (some (b : Int)) none xs.length = (((min a xs.length : Nat) : Int), ((min b xs.length : Nat) : Int), 1) := by
    unfold sliceBounds
    simp only [Option.getD_none]
    refine Prod.ext ?_ (Prod.ext ?_ rfl)
    · show (if (1 : Int) > 0 then max 0 (min (if (a : Int) < 0 then (a : Int) + xs.length else a) xs.length) else max (-1) (min (if (a : Int) < 0 then (a : Int) + xs.length else a) ((xs.length : Int) - 1))) = _
      rw [if_pos (by decide), if_neg (by omega)]
      dsimp only
      omega
    · show (if (1 : Int) > 0 then max 0 (min (if (b : Int) < 0 then (b : Int) + xs.length else b) xs.length) else max (-1) (min (if (b : Int) < 0 then (b : Int) + xs.length else b) ((xs.length : Int) - 1))) = _
      rw [if_pos (by decide), if_neg (by omega)]
      dsimp only
      omega
  rw [hb]
  dsimp only
  rw [range_up, fm_range]
  apply List.ext_getElem?
  intro i
  simp only [List.getElem?_take, List.getElem?_drop]
  by_cases h1 : a ≤ xs.length
  · rw [Nat.min_eq_left h1]
    by_cases h2 : i < b - a
    · rw [if_pos h2]
      by_cases h3 : i < min b xs.length - a
      · rw [if_pos h3]
      · rw [if_neg h3, List.getElem?_eq_none (by omega)]
    · rw [if_neg h2, if_neg (by omega)]
  · rw [Nat.min_eq_right (a := a) (b := xs.length) (by omega), if_neg (by omega)]
    by_cases h2 : i < b - a
    · rw [if_pos h2, List.getElem?_eq_none (by omega)]
    · rw [if_neg h2]
end Mine

end
/- part L2d -/
section
open PySem PySem.W PyProof.Rows
set_option Elab.async false
set_option maxRecDepth 100000
namespace Mine
open PySem PySem.W PyProof.Rows PySem.Calls PySem.Spec

noncomputable def blkV (b : Blk) : AV := tupI (enc b)
noncomputable def bitI (b : Bool) : Int := if b then 1 else 0
noncomputable def cellsA (c : Nat → Bool) : List AV := (List.range 16).map fun i => .int (bitI (c i))
theorem blkV_inj {b d : Blk} (h : blkV b = blkV d) : b = d := enc_inj (tupI_inj' h)
theorem cells_get {c : Nat → Bool} {i : Nat} (h : i < 16) : (cellsA c)[i]? = some (.int (bitI (c i))) := by
  rw [cellsA, List.getElem?_map, List.getElem?_range h]; rfl
theorem cells_mem {c : Nat → Bool} {k a : Nat} (h : a + 2 ^ k ≤ 16) : AV.int 1 ∉ ((cellsA c).drop a).take (2 ^ k) ↔ frB c k a = true := by
  rw [frB_iff]
  constructor
  · intro q i h1 h2
    cases z : c i with
    | false => rfl
    | true =>
      refine absurd (List.mem_of_getElem? (i := i - a) ?_) q
      rw [List.getElem?_take, if_pos (by omega), List.getElem?_drop, show a + (i - a) = i by omega, cells_get (by (with_reducible exact Nat.lt_of_lt_of_le (by assumption) (by assumption))), z]; rfl
  · intro q z
    obtain ⟨i, hi⟩ := List.mem_iff_getElem?.mp z
    rw [List.getElem?_take] at hi
    split at hi
    · rename_i hlt
      rw [List.getElem?_drop, cells_get (by omega), q (a + i) (by omega) (by omega)] at hi
      cases hi
    · cases hi
theorem smalls_cells (c : Nat → Bool) (k a n : Nat) : smalls k (((cellsA c).drop a).take n) = true := by
  have : ∀ l : List AV, (∀ d ∈ l, small k d = true) → smalls k l = true := by
    intro l
    induction l with
    | nil => intro _; rfl
    | cons x l ih => intro h; rw [smalls, h x (.head _), ih fun d hd => h d (.tail _ hd)]; rfl
  refine this _ fun d hd => ?_
  obtain ⟨i, _, rfl⟩ := List.mem_map.mp (List.mem_of_mem_drop (List.mem_of_mem_take hd))
  rfl

structure NQ (mods : List Str) (cache : List (Str × AV)) (m : Nat) : Prop where
  look : ∀ k d, cache.lookup k = some d → k = st "<string>" ∨ d = .int (bitI (asked mods [] (some (st "")) k))
  size : cache.length ≤ 1 + m
  allI : ∀ p ∈ cache, ∃ i, p.2 = .int i
theorem nq0 {mods : List Str} : NQ mods cache0 0 := by
  refine ⟨fun k d h => ?_, by decide, fun p hp => ?_⟩
  · unfold cache0 at h
    rw [List.lookup_cons] at h
    cases q : k == st "<string>" with
    | true => exact .inl (beq_iff_eq.mp q)
    | false => rw [q] at h; cases h
  · rw [List.mem_singleton.mp hp]; exact ⟨_, rfl⟩
theorem ask_gen {P : Params} {σ : Store} {dx a : Addr} {mods : List Str} {cache : List (Str × AV)} {m : Nat} {k : Str} (R : Rdr P σ dx a mods [] cache) (N : NQ mods cache m) (hk : k ≠ st "<string>") :
    noted mods [] (some (st "")) cache k = .int (bitI (asked mods [] (some (st "")) k)) ∧
    ∃ cache', Rdr P (if k ∈ cache.map (·.1) then σ else upd σ a (.dct (putA cache k (.int (if asked mods [] (some (st "")) k then 1 else 0))))) dx a mods [] cache' ∧ NQ mods cache' (m + 1) ∧
      ∀ b, b ≠ a → (if k ∈ cache.map (·.1) then σ else upd σ a (.dct (putA cache k (.int (if asked mods [] (some (st "")) k then 1 else 0))))).lookup b = σ.lookup b := by
  by_cases hin : k ∈ cache.map (·.1)
  · obtain ⟨d, hd⟩ := lookup_mem.mp hin
    simp only [if_pos hin]
    refine ⟨?_, cache, R, ⟨N.look, by have := N.size; omega, N.allI⟩, fun b _ => trivial⟩
    unfold noted; rw [hd]
    exact (N.look k d hd).resolve_left hk
  · simp only [if_neg hin]
    have hn : cache.lookup k = none := by
      cases q : cache.lookup k with
      | none => rfl
      | some d => exact absurd (lookup_mem.mpr ⟨d, q⟩) hin
    have hput : putA cache k (.int (if asked mods [] (some (st "")) k then 1 else 0)) = cache ++ [(k, .int (bitI (asked mods [] (some (st "")) k)))] := by unfold putA; rw [if_neg hin]; rfl
    have hne := R.ne' N.allI
    rw [hput]
    refine ⟨by unfold noted; rw [hn]; rfl, _, ⟨(upd_ne hne).trans R.dict, upd_self R.notes, R.ne⟩, ⟨fun x d h => ?_, by rw [List.length_append]; have := N.size; simp; omega, fun p hp => ?_⟩, fun b hb => upd_ne hb⟩
    · rw [List.lookup_append] at h
      cases q : cache.lookup x with
      | some d' => rw [q] at h; exact N.look x d (by rw [q]; exact h)
      | none =>
        rw [q, Option.none_or, List.lookup_cons] at h
        cases z : x == k with
        | true => rw [z] at h; cases h; rw [beq_iff_eq.mp z]; exact .inr rfl
        | false => rw [z] at h; cases h
    · rcases List.mem_append.mp hp with h | h
      · exact N.allI p h
      · rw [List.mem_singleton.mp h]; exact ⟨_, rfl⟩
noncomputable def within (a b : Blk) : Bool := decide (a.1 ≤ b.1) && decide (b.1 + 2 ^ b.2 ≤ a.1 + 2 ^ a.2)
structure BlkOk (b : Blk) : Prop where
  lo : b.1 < 16
  lev : b.2 < 5
  al : b.1 % 2 ^ b.2 = 0
  hi : b.1 + 2 ^ b.2 ≤ 16
noncomputable def blks : List Blk := (List.range 5).flatMap fun j => (List.range (2 ^ (4 - j))).map fun i => (i * 2 ^ j, j)
theorem BlkOk.mem {b : Blk} (h : BlkOk b) : b ∈ blks := by
  obtain ⟨x, j⟩ := b
  have h1 := h.al
  have h2 := h.lo
  simp only at h1 h2
  refine List.mem_flatMap.mpr ⟨j, List.mem_range.mpr h.lev, List.mem_map.mpr ⟨x / 2 ^ j, List.mem_range.mpr ?_, ?_⟩⟩
  · refine (Nat.div_lt_iff_lt_mul (two_pos j)).mpr ?_
    rw [← Nat.pow_add, show 4 - j + j = 4 by have := h.lev; simp only at this; omega]
    exact h2
  · rw [Nat.div_mul_cancel (Nat.dvd_of_mod_eq_zero h1)]
theorem name_test : (blks.all fun p => blks.all fun q => (decide (nameS p = nameS q) || Txt.startswith (nameS q) (nameS p ++ dot)) == within p q) = true := by decide +kernel
theorem name_ne : (blks.all fun p => decide (nameS p ≠ st "<string>") && decide ((nameS p).length < 1000)) = true := by decide +kernel
theorem asked_within {bs : List Blk} (h : ∀ b ∈ bs, BlkOk b) {d : Blk} (hd : BlkOk d) : asked (bs.map nameS) [] (some (st "")) (nameS d) = bs.any fun b => within b d := by
  show (List.any (bs.map nameS) _ || false) = _
  rw [Bool.or_false, List.any_map]
  have : ∀ l : List Blk, (∀ b ∈ l, BlkOk b) → (l.any ((fun x => decide (x = nameS d) || Txt.startswith (nameS d) (x ++ dot)) ∘ nameS)) = l.any fun b => within b d := by
    intro l
    induction l with
    | nil => intro _; rfl
    | cons x l ih =>
      intro h
      rw [List.any_cons, List.any_cons, ih fun b hb => h b (.tail _ hb)]
      congr 1
      exact beq_iff_eq.mp (List.all_eq_true.mp (List.all_eq_true.mp name_test x (h x (.head _)).mem) d hd.mem)
  exact this bs h
theorem BlkOk.name {b : Blk} (h : BlkOk b) : nameS b ≠ st "<string>" ∧ (nameS b).length < 1000 := by
  have := List.all_eq_true.mp name_ne b h.mem
  rw [Bool.and_eq_true] at this
  exact ⟨of_decide_eq_true this.1, of_decide_eq_true this.2⟩

section
variable {w : World} {hB : Heap} {n : Nat} {σ : Store} {Q : AV → Store → Prop}
set_option maxHeartbeats 4000000
theorem widest_spec (G : Gd (G1 w hB)) {c : Nat → Bool} : ∀ (k a : Nat) {σ : Store} {Q : AV → Store → Prop}, k < 5 → a + 2 ^ k ≤ 16 → Q (.lst ((wid c k a).map blkV)) σ → CALL (G1 w hB) (n + k + 10) (.ref 179) [.lst (cellsA c), .int (a : Int), .int ((2 ^ k : Nat) : Int)] [] σ Q := by
  intro k
  induction k with
  | zero =>
    intro a σ Q hk ha h
    refine CALL_pos G (a := 179) [st "cells", st "first", st "size"] rfl rfl rfl rfl rfl rfl rfl rfl rfl rfl (by decide) rfl (by decide) rfl ?_ ?_
    · rintro (_ | ⟨v1, _ | ⟨v2, _ | ⟨v3, _ | ⟨_, _⟩⟩⟩⟩) h <;> first | rfl | (simp at h)
    intro L
    refine EX_cons (ES_if (EB_cmp (EV_int (EV_slice (EV_name rfl rfl (EV_name rfl rfl ⟨_, rfl, EV_binop (EV_name rfl rfl (EV_name rfl rfl (add_ii ⟨_, rfl, _, .refl, by simp [cellsA], by decide, ?_⟩)))⟩))))))
    rw [show (a : Int) + ((2 ^ 0 : Nat) : Int) = ((a + 2 ^ 0 : Nat) : Int) from rfl, pick_mid, Nat.add_sub_cancel_left]
    refine notin_view .refl rfl (smalls_cells c 8 a _) (TruOk_bool ⟨fun hb => ?_, fun hb => ?_⟩)
    · have hfr := (cells_mem ha).mp (dec_f ((Bool.not_eq_true' _).mp hb))
      rw [wid_free hfr] at h
      exact EX_cons (ES_ret (EV_list (EL_cons (EV_tuple (EL_cons (EV_name rfl rfl (EL_cons (EV_name rfl rfl (EL_nil ⟨by simp, EL_nil ⟨by simp, h⟩⟩)))))))))
    · have hfr : frB c 0 a = false := by
        rw [Bool.eq_false_iff]
        exact fun z => (cells_mem ha).mpr z (dec_t ((Bool.not_eq_false' _).mp hb))
      have hw : wid c 0 a = [] := by rw [wid, if_neg (by simp [hfr])]
      rw [hw] at h
      exact EX_nil (EX_cons (ES_if (EB_cmp (EV_name rfl rfl (EV_int (eq_ii (TruOk_bool ⟨fun _ => EX_cons (ES_ret (EV_list (EL_nil ⟨by simp, h⟩))), fun hc => absurd rfl (dec_f hc)⟩)))))))
  | succ k ih =>
    intro a σ Q hk ha h
    have e2 := two_succ k
    have pk := two_pos k
    refine CALL_pos G (a := 179) [st "cells", st "first", st "size"] rfl rfl rfl rfl rfl rfl rfl rfl rfl rfl (by decide) rfl (by decide) rfl ?_ ?_
    · rintro (_ | ⟨v1, _ | ⟨v2, _ | ⟨v3, _ | ⟨_, _⟩⟩⟩⟩) h <;> first | rfl | (simp at h)
    intro L
    refine EX_cons (ES_if (EB_cmp (EV_int (EV_slice (EV_name rfl rfl (EV_name rfl rfl ⟨_, rfl, EV_binop (EV_name rfl rfl (EV_name rfl rfl (add_ii ⟨_, rfl, _, .refl, by simp [cellsA], by decide, ?_⟩)))⟩))))))
    rw [show (a : Int) + ((2 ^ (k + 1) : Nat) : Int) = ((a + 2 ^ (k + 1) : Nat) : Int) from rfl, pick_mid, Nat.add_sub_cancel_left]
    refine notin_view .refl rfl (smalls_cells c 8 a _) (TruOk_bool ⟨fun hb => ?_, fun hb => ?_⟩)
    · have hfr := (cells_mem ha).mp (dec_f ((Bool.not_eq_true' _).mp hb))
      rw [wid_free hfr] at h
      exact EX_cons (ES_ret (EV_list (EL_cons (EV_tuple (EL_cons (EV_name rfl rfl (EL_cons (EV_name rfl rfl (EL_nil ⟨by simp, EL_nil ⟨by simp, h⟩⟩)))))))))
    · have hfr : frB c (k + 1) a = false := by
        rw [Bool.eq_false_iff]
        exact fun z => (cells_mem ha).mpr z (dec_t ((Bool.not_eq_false' _).mp hb))
      rw [wid_split hfr, List.map_append] at h
      have ed : Int.fdiv ((2 ^ (k + 1) : Nat) : Int) 2 = ((2 ^ k : Nat) : Int) := by
        have := fdivN (2 ^ (k + 1)) 2
        rw [Nat.pow_succ, Nat.mul_div_cancel _ (by decide)] at this
        rw [Nat.pow_succ]; exact this
      refine EX_nil (EX_cons (ES_if (EB_cmp (EV_name rfl rfl (EV_int (eq_ii (TruOk_bool ⟨fun hc => ?_, fun _ => EX_nil ?_⟩)))))))
      · have := dec_t hc
        omega
      refine EX_cons (ES_ret (EV_binop ?_))
      refine EV_gcall G rfl rfl rfl rfl (EL_cons (EV_name rfl rfl (EL_cons (EV_name rfl rfl (EL_cons (EV_binop (EV_name rfl rfl (EV_int (fdiv_ii (by decide) (by decide) (EL_nil ?_))))))))))
      rw [ed]
      refine ih a (by (with_reducible exact Nat.lt_of_succ_lt (by assumption))) (by omega) ?_
      refine EV_gcall G rfl rfl rfl rfl (EL_cons (EV_name rfl rfl (EL_cons (EV_binop (EV_name rfl rfl (EV_binop (EV_name rfl rfl (EV_int (fdiv_ii (by decide) (by decide) (add_ii (EL_cons (EV_binop (EV_name rfl rfl (EV_int (fdiv_ii (by decide) (by decide) (EL_nil ?_))))))))))))))))
      rw [ed]
      rw [show (a : Int) + ((2 ^ k : Nat) : Int) = ((a + 2 ^ k : Nat) : Int) from rfl]
      refine ih (a + 2 ^ k) (by (with_reducible exact Nat.lt_of_succ_lt (by assumption))) (by omega) ?_
      have h1 := wid_len (c := c) (k := k) (a := a)
      have h2 := wid_len (c := c) (k := k) (a := a + 2 ^ k)
      have := pow_small k (by (with_reducible exact Nat.lt_of_succ_lt (by assumption)))
      exact add_ll .refl .refl (by rw [List.length_map, List.length_map]; omega) h
end
end Mine

end
/- part L2e -/
section
open PySem PySem.W PyProof.Rows
set_option Elab.async false
set_option maxRecDepth 100000
namespace Mine
open PySem PySem.W PyProof.Rows PySem.Calls PySem.Spec

noncomputable def bitV (b : Bool) : AV := .str (Str.ofString (toString (bitI b)))
inductive AskI (w : World) (mods : List Str) (Lc : Loc) (xs : List AV) (M : Nat) (σ : Store) (a dx ra : Addr) (ℓ : Loc) (τ : Store) : Prop
  | mk (hs : Sub Lc ℓ) (cache : List (Str × AV)) (m : Nat) (hA : τ.lookup a = some (.lst xs)) (R : Rdr w.params τ dx ra mods [] cache) (N : NQ mods cache m) (hm : m = M) (ho : ∀ b x, b ≠ ra → σ.lookup b = some x → τ.lookup b = some x)
theorem bit_log (b : Bool) : (bitI b).natAbs.log2 < 1920 := by cases b <;> decide
theorem cell_ok {i : Nat} (h : i < 16) : BlkOk (i, 0) := ⟨h, Nat.zero_lt_succ _, Nat.mod_one _, by show i + 1 ≤ 16; (with_reducible exact Nat.succ_le_of_lt (by assumption))⟩
theorem within_cell {b : Blk} {i : Nat} : within b (i, 0) = isIn b i := by
  unfold within isIn
  show (decide (b.1 ≤ i) && decide (i + 1 ≤ b.1 + 2 ^ b.2)) = _
  rfl
theorem natsI_inj {α : Type} {res : Nat → α} {l : List Nat} : ∀ x y, x ∈ l → y ∈ l → AV.int (x : Int) = AV.int (y : Int) → res x = res y := fun x y _ _ e => by
  have := AV.int.inj e
  rw [Int.ofNat.inj this]
section
variable {w : World} {hB : Heap} {n : Nat} {σ : Store} {Q : AV → Store → Prop}
set_option maxHeartbeats 4000000
theorem told_spec (G : Gd (G1 w hB)) {bs : List Blk} (hbs : ∀ b ∈ bs, BlkOk b) (hlen : bs.length ≤ 16) (h : Q (.lst ((List.range 16).map fun i => bitV (bs.any fun b => isIn b i))) σ) : CALL (G1 w hB) (n + 12) (.ref 189) [.lst (bs.map blkV)] [] σ Q := by
  refine CALL.shrink (CALL_pos G (a := 189) [st "blocks"] rfl rfl rfl rfl rfl rfl rfl rfl rfl rfl (by decide) rfl (by decide) rfl ?_ ?_)
  · rintro (_ | ⟨v1, _ | ⟨_, _⟩⟩) h <;> first | rfl | (simp at h)
  intro L
  refine EX_cons (ES_assign (.inr rfl) (EV_callC rfl G rfl (EV_global G rfl rfl ⟨rfl, EL_cons ?_⟩)))
  refine EV_mapM (cl := []) [] (compSide rfl rfl trivial trivial) trivial blkV ?_
  refine EI_val (EV_name rfl rfl ⟨_, iter_lst rfl, bs, fun b => .str (nameS b), rfl, by (with_reducible exact Nat.lt_of_le_of_lt (by assumption) (by decide)), fun x y _ _ e => by rw [blkV_inj e], fun Cc => ?_, ?_⟩)
  · intro σ' b hb hg
    have ok := hbs b hb
    show ASGc _ _ _ _ (.tup [.int (b.1 : Int), .int ((2 ^ b.2 : Nat) : Int)]) _ _ _
    exact ASGc_tupN [(st "first", _), (st "size", _)] rfl rfl ⟨rfl, rfl, trivial⟩ ⟨trivial, EV_gcall G rfl rfl rfl rfl (EL_cons (EV_name rfl rfl (EL_cons (EV_name rfl rfl (EL_nil (name_spec G ok.lo ok.lev ⟨rfl, rfl⟩))))))⟩
  have e1 : bs.map (fun b => AV.str (nameS b)) = (bs.map nameS).map .str := by rw [List.map_map]; rfl
  rw [e1]
  refine EL_nil (mk_spec (mods := bs.map nameS) G (by rw [List.length_map]; (with_reducible exact Nat.lt_of_le_of_lt (by assumption) (by decide))) fun dx ra σ₁ hdx hra R hG1 => ?_)
  refine EX_cons (ES_ret (EV_comp (cl := [(st "reader", L + 1)]) [(st "reader", .inst 144 dx)] (compSide rfl rfl ⟨rfl, trivial⟩ ⟨rfl, trivial⟩) ?_))
  refine EI_range G rfl rfl (EV_int ⟨16, rfl, by decide, by decide, fun Cc a ha => ?_⟩) rfl
  have had : dx ≠ a := fun q => ha (q ▸ dom_of R.dict)
  have har : ra ≠ a := fun q => ha (q ▸ dom_of R.notes)
  have ha0 : σ.lookup a = none := by
    cases q : σ.lookup a with
    | none => rfl
    | some o => exact absurd (dom_of (hG1 _ _ q)) ha
  refine ⟨fun i => AskI w (bs.map nameS) [(st "reader", .inst 144 dx)] ((List.range i).map fun i => bitV (bs.any fun b => isIn b i)) i σ a dx ra, ?_, ?_, ?_⟩
  · exact ⟨⟨rfl, trivial⟩, cache0, 0, by rw [List.lookup_cons, beq_self_eq_true]; rfl, ⟨lookup_new R.dict ha, lookup_new R.notes ha, R.ne⟩, nq0, rfl, fun b x _ e => lookup_new (hG1 b x e) ha⟩
  · rintro i d ℓ' τ hd ⟨hs, cache, m, hA, R, N, rfl, ho⟩
    have hi16 : m < 16 := by
      have := (List.getElem?_eq_some_iff.mp hd).1
      simpa [intsA, rangeL] using this
    rw [intsA_get (by simpa [rangeL] using hi16)] at hd
    cases hd
    have ed : (rangeL 0 (16 : Int).toNat)[m]'(by simpa [rangeL] using hi16) = (m : Int) := by simp [rangeL]
    rw [ed]
    intro A0 s0 v0 hr hs0 hF rv
    refine ASGc_name rfl ?_ A0 s0 v0 hr hs0 (hF.sub hs) rv
    refine ⟨fun _ => ?_, nofun⟩
    have ok := cell_ok hi16
    obtain ⟨n1, cache', n2, n3, n4⟩ := ask_gen (k := nameS (m, 0)) R N ok.name.1
    rw [asked_within hbs ok] at n1
    refine EV_tcall G rfl rfl (by decide) rfl rfl (EL_cons (EV_methO G rfl (EV_cell rfl rfl ⟨144, dx, _, 141, rfl, ignore_cls, rfl, rfl, rfl, R.dict, (by show ¬ st "names" ∈ [st "_mods", st "_dirs", st "_ignore"]; decide), ?_⟩)))
    refine EL_cons (EV_str (EL_cons (EV_gcall G rfl rfl rfl rfl (EL_cons (EV_name rfl rfl (EL_cons (EV_int (EL_nil (name_spec (b := (m, 0)) G ok.lo ok.lev (EL_nil (names_spec (f := some (st "")) G R ?_ nofun (by decide) (by have := N.size; omega) ?_)))))))))))
    · intro x hx
      obtain ⟨b, hb, rfl⟩ := List.mem_map.mp hx
      exact (hbs b hb).name.2
    rw [n1]
    refine EL_nil (CALL_strint (bit_log _) ⟨_, (n4 a (Ne.symm har)).trans hA, by simp; (with_reducible exact Nat.lt_of_lt_of_le (by assumption) (by decide)), ⟨rfl, trivial⟩, cache', m + 1, ?_, ⟨(upd_ne had).trans n2.dict, (upd_ne har).trans n2.notes, n2.ne⟩, n3, rfl, fun b x hb e => ?_⟩)
    · rw [upd_self ((n4 a (Ne.symm har)).trans hA), List.range_succ, List.map_append]
      have : (bs.any fun b => within b (m, 0)) = bs.any fun b => isIn b m := congrArg (fun p => bs.any p) (funext fun b => within_cell)
      rw [this]; rfl
    · have : b ≠ a := fun q => by rw [q, ha0] at e; cases e
      rw [upd_ne this]; exact (n4 b hb).trans (ho b x hb e)
  · rintro ℓ' τ ⟨hs, cache, m, hA, R, N, hm, ho⟩
    refine ⟨_, hA, fun b x e => ?_, ?_⟩
    · have hba : b ≠ a := fun q => by rw [q, ha0] at e; cases e
      have hbr : b ≠ ra := fun q => by rw [q, hra] at e; cases e
      exact (del_lookup hba).trans (ho b x hbr e)
    · have e : (intsA (rangeL 0 (16 : Int).toNat)).length = 16 := by simp [intsA, rangeL]
      rw [e]; exact h
end
end Mine

end
/- part L2r -/
section
open PySem PySem.W PyProof.Rows
set_option Elab.async false
namespace Mine
open PySem PySem.W PyProof.Rows PySem.Calls PySem.Spec

noncomputable def occ (T : List Blk) (i : Nat) : Bool := T.any fun b => isIn b i
noncomputable def roomOf (T : List Blk) (j : Nat) : Option Blk := (wid (occ T) 4 0).find? fun b => decide (j ≤ b.2)
noncomputable def lev (d : Nat) : Nat := d / 3 % 4
noncomputable def start (d : Nat) : Nat := d / 12 * 2 ^ lev d % 16
noncomputable def wish (T : List Blk) (j : Nat) : List Blk := match roomOf T j with
  | some b => T ++ [(b.1, j)]
  | none => T
noncomputable def nextT (T : List Blk) (d : Nat) : List Blk := if d % 3 < 2 then wish T (lev d) else T.filter fun b => !within (start d, lev d) b
noncomputable def Apart (x y : Blk) : Prop := x.1 + 2 ^ x.2 ≤ y.1 ∨ y.1 + 2 ^ y.2 ≤ x.1
theorem Apart.symm {x y : Blk} (h : Apart x y) : Apart y x := Or.symm h
structure TOk (T : List Blk) : Prop where
  ok : ∀ b ∈ T, BlkOk b
  apart : T.Pairwise Apart
theorem lev_lt (d : Nat) : lev d < 4 := Nat.mod_lt _ (by decide)
theorem start_ok (d : Nat) : BlkOk (start d, lev d) := by
  have h := lev_lt d
  have h1 : start d < 16 := Nat.mod_lt _ (by decide)
  have h2 : start d % 2 ^ lev d = 0 := by
    unfold start
    have : ∃ e, 16 = 2 ^ lev d * e := (by decide : ∀ k, k < 4 → ∃ e, e < 17 ∧ 16 = 2 ^ k * e) (lev d) h |>.imp fun _ x => x.2
    obtain ⟨e, he⟩ := this
    rw [he, Nat.mod_mul_right_mod, Nat.mul_mod_left]
  refine ⟨h1, by show lev d < 5; (with_reducible exact Nat.lt_of_lt_of_le (by assumption) (by decide)), h2, ?_⟩
  obtain ⟨x, hx⟩ := Nat.dvd_of_mod_eq_zero h2
  have : ∃ e, 16 = 2 ^ lev d * e := (by decide : ∀ k, k < 4 → ∃ e, e < 17 ∧ 16 = 2 ^ k * e) (lev d) h |>.imp fun _ x => x.2
  obtain ⟨e, he⟩ := this
  show start d + 2 ^ lev d ≤ 16
  rw [hx] at h1 ⊢
  rw [he] at h1 ⊢
  rw [← Nat.mul_succ]
  exact Nat.mul_le_mul_left _ (Nat.lt_of_mul_lt_mul_left h1)
theorem wid_al {c : Nat → Bool} : ∀ {k a : Nat} {b : Blk}, a % 2 ^ k = 0 → b ∈ wid c k a → b.1 % 2 ^ b.2 = 0
  | 0, a, b, ha, h => by
    rw [wid] at h
    split at h
    · rw [List.mem_singleton.mp h]; exact Nat.mod_one _
    · cases h
  | k + 1, a, b, ha, h => by
    by_cases q : frB c (k + 1) a = true
    · rw [wid_free q] at h
      rw [List.mem_singleton.mp h]; exact ha
    · rw [wid_split (by simpa using q)] at h
      obtain ⟨m1, m2⟩ := mod_half ha
      rcases List.mem_append.mp h with h | h
      · exact wid_al m1 h
      · exact wid_al m2 h
theorem wid_ok {c : Nat → Bool} {b : Blk} (h : b ∈ wid c 4 0) : BlkOk b := by
  have W := wid_mem h
  have := W.hi
  have := W.lev
  have := two_pos b.2
  exact ⟨by omega, by (with_reducible exact Nat.lt_of_le_of_lt (by assumption) (by decide)), wid_al rfl h, by (with_reducible assumption)⟩
theorem mod_le {f j m : Nat} (h : f % 2 ^ m = 0) (hj : j ≤ m) : f % 2 ^ j = 0 :=
  Nat.mod_eq_zero_of_dvd (Nat.dvd_trans (Nat.pow_dvd_pow 2 hj) (Nat.dvd_of_mod_eq_zero h))
theorem occ_of {T : List Blk} {b : Blk} {i : Nat} (hb : b ∈ T) (h1 : b.1 ≤ i) (h2 : i < b.1 + 2 ^ b.2) : occ T i = true :=
  List.any_eq_true.mpr ⟨b, hb, isIn_iff.mpr ⟨h1, h2⟩⟩
theorem occ_app (T U : List Blk) (i : Nat) : occ (T ++ U) i = (occ T i || occ U i) := List.any_append ..
theorem occ_one (b : Blk) (i : Nat) : occ [b] i = isIn b i := by unfold occ; simp
theorem wish_take {T : List Blk} {f j m : Nat} (h : (f, m) ∈ wid (occ T) 4 0) (hj : j ≤ m) : Take (occ T) (occ (T ++ [(f, j)])) f j := by
  refine ⟨fun i h1 h2 => ?_, fun i hi => ?_⟩
  · rw [occ_app, occ_one, isIn_iff.mpr ⟨h1, h2⟩, Bool.or_true]
  · rw [occ_app, occ_one]
    have : isIn (f, j) i = false := by
      rw [Bool.eq_false_iff]
      intro z
      have := isIn_iff.mp z
      simp only at this
      omega
    rw [this, Bool.or_false]
theorem wish_ok {T : List Blk} (K : TOk T) {f j m : Nat} (h : (f, m) ∈ wid (occ T) 4 0) (hj : j ≤ m) : TOk (T ++ [(f, j)]) := by
  have W := wid_ok h
  have w1 := W.lo
  have w2 := W.lev
  have w3 := W.hi
  have w4 := W.al
  simp only at w1 w2 w3 w4
  have p : 2 ^ j ≤ 2 ^ m := Nat.pow_le_pow_right (by decide) hj
  have hfr := frB_iff.mp (wid_mem h).free
  simp only at hfr
  refine ⟨fun b hb => ?_, List.pairwise_append.mpr ⟨K.apart, List.pairwise_singleton .., fun x hx y hy => ?_⟩⟩
  · rcases List.mem_append.mp hb with hb | hb
    · exact K.ok b hb
    · rw [List.mem_singleton.mp hb]
      exact ⟨w1, by show j < 5; (with_reducible exact Nat.lt_of_le_of_lt (by assumption) (by assumption)), mod_le w4 hj, by show f + 2 ^ j ≤ 16; omega⟩
  · rw [List.mem_singleton.mp hy]
    show x.1 + 2 ^ x.2 ≤ f ∨ f + 2 ^ j ≤ x.1
    have q1 := two_pos x.2
    have q2 := two_pos j
    by_cases z1 : x.1 + 2 ^ x.2 ≤ f
    · exact .inl z1
    by_cases z2 : f + 2 ^ j ≤ x.1
    · exact .inr z2
    exfalso
    by_cases z3 : x.1 ≤ f
    · have := occ_of hx z3 (by omega)
      rw [hfr f (Nat.le_refl _) (by omega)] at this; cases this
    · have := occ_of (i := x.1) hx (Nat.le_refl _) (by omega)
      rw [hfr x.1 (by omega) (by omega)] at this; cases this
theorem room_cases {T : List Blk} {P R : List Blk} {f j m : Nat} (h : wid (occ T) 4 0 = P ++ (f, m) :: R) (hP : ∀ b ∈ P, b.2 < j) (hj : j ≤ m) : roomOf T j = some (f, m) := by
  unfold roomOf
  rw [h, List.find?_append]
  have : P.find? (fun b => decide (j ≤ b.2)) = none := List.find?_eq_none.mpr fun b hb => by have := hP b hb; simp; (with_reducible assumption)
  rw [this, Option.none_or, List.find?_cons_of_pos (by simpa using hj)]
theorem room_none {T : List Blk} {j : Nat} (h : ∀ b ∈ wid (occ T) 4 0, b.2 < j) : roomOf T j = none :=
  List.find?_eq_none.mpr fun b hb => by have := h b hb; simp; (with_reducible assumption)
theorem wish_next {T : List Blk} (K : TOk T) (j : Nat) : TOk (wish T j) := by
  unfold wish
  cases q : roomOf T j with
  | none => exact K
  | some b =>
    unfold roomOf at q
    exact wish_ok (m := b.2) K (List.mem_of_find?_eq_some q) (by have := List.find?_some q; simpa using this)
theorem next_ok' {T : List Blk} (K : TOk T) (d : Nat) : TOk (nextT T d) := by
  unfold nextT
  split
  · exact wish_next K _
  · exact ⟨fun b hb => K.ok b (List.mem_filter.mp hb).1, K.apart.filter _⟩
theorem next_len {T : List Blk} (d : Nat) : (nextT T d).length ≤ T.length + 1 := by
  unfold nextT wish
  split
  · split <;> simp
  · exact Nat.le_succ_of_le (List.length_filter_le ..)
theorem run_ok : ∀ (l : List Nat) {T : List Blk}, TOk T → TOk (l.foldl nextT T)
  | [], _, K => K
  | d :: l, _, K => run_ok l (next_ok' K d)
theorem run_len : ∀ (l : List Nat) (T : List Blk), (l.foldl nextT T).length ≤ T.length + l.length
  | [], _ => Nat.le_refl _
  | d :: l, T => by
    have h1 := run_len l (nextT T d)
    have h2 := next_len (T := T) d
    simp only [List.foldl_cons, List.length_cons]; omega
theorem tok0 : TOk [] := ⟨nofun, .nil⟩
theorem gone_give {U gs : List Blk} {g : Blk} (K : (U ++ g :: gs).Pairwise Apart) : Give (occ (U ++ g :: gs)) (occ (U ++ gs)) g.1 g.2 := by
  have K' : (g :: (U ++ gs)).Pairwise Apart := (List.Perm.pairwise_iff (fun h => Apart.symm h) List.perm_middle).mp K
  have hap := (List.pairwise_cons.mp K').1
  refine ⟨fun i h1 h2 => occ_of (by simp) h1 h2, fun i h1 h2 => ?_, fun i hi => ?_⟩
  · unfold occ
    rw [List.any_eq_false]
    intro x hx z
    have := isIn_iff.mp z
    rcases hap x hx with h | h <;> omega
  · rw [occ_app, occ_app, show g :: gs = [g] ++ gs from rfl, occ_app, occ_one]
    have : isIn g i = false := by
      rw [Bool.eq_false_iff]
      intro z
      have := isIn_iff.mp z
      omega
    rw [this, Bool.false_or]
theorem occ_perm {T U : List Blk} (h : T.Perm U) : occ T = occ U := by
  funext i
  unfold occ
  exact h.any_eq
theorem filter_perm (p : Blk → Bool) : ∀ T : List Blk, (T.filter (fun b => !p b) ++ T.filter p).Perm T
  | [] => .refl _
  | b :: T => by
    cases q : p b with
    | true =>
      rw [List.filter_cons_of_neg (by simp [q]), List.filter_cons_of_pos (by simp [q])]
      exact List.perm_middle.trans ((filter_perm p T).cons _)
    | false =>
      rw [List.filter_cons_of_pos (by simp [q]), List.filter_cons_of_neg (by simp [q])]
      exact (filter_perm p T).cons _
end Mine

end
/- part L2f -/
section
open PySem PySem.W PyProof.Rows
set_option Elab.async false
set_option maxRecDepth 100000
namespace Mine
open PySem PySem.W PyProof.Rows PySem.Calls PySem.Spec

theorem sorted_uniq : ∀ {x y : LI}, x.Perm y → x.Pairwise le → y.Pairwise le → x = y
  | [], y, p, _, _ => by rw [p.nil_eq]
  | a :: x, [], p, _, _ => absurd p.length_eq (by simp)
  | a :: x, b :: y, p, hx, hy => by
    rw [List.pairwise_cons] at hx hy
    have hab : a = b := by
      have h1 : b ∈ a :: x := p.mem_iff.mpr (.head _)
      have h2 : a ∈ b :: y := p.mem_iff.mp (.head _)
      rcases List.mem_cons.mp h1 with h1 | h1
      · exact h1.symm
      rcases List.mem_cons.mp h2 with h2 | h2
      · exact h2
      exact (ltI_total (hx.1 _ h1) (hy.1 _ h2)).symm
    subst hab
    rw [sorted_uniq (List.Perm.cons_inv p) hx.2 hy.2]

noncomputable def natsA (l : List Nat) : List AV := l.map fun (i : Nat) => AV.int (i : Int)
noncomputable def entry (T : List Blk) : AV := .tup [.lst ((wid (occ T) 4 0).map blkV), .lst (T.map blkV)]
noncomputable def runT (ds : List Nat) (i : Nat) : List Blk := (ds.take i).foldl nextT []
noncomputable def courseV (ds : List Nat) : List AV := (List.range ds.length).map fun k => entry (runT ds (k + 1))
theorem runT_succ {ds : List Nat} {i d : Nat} (h : ds[i]? = some d) : runT ds (i + 1) = nextT (runT ds i) d := by
  unfold runT
  rw [List.take_add_one, h, List.foldl_append]; rfl
theorem runT_ok (ds : List Nat) (i : Nat) : TOk (runT ds i) := run_ok _ tok0
theorem runT_len {ds : List Nat} (h : ds.length ≤ 12) (i : Nat) : (runT ds i).length ≤ 12 := by
  have := run_len (ds.take i) []
  rw [List.length_take] at this
  unfold runT
  simp only [List.length_nil] at this; omega
theorem pow_cast : ∀ k, k < 4 → (2 : Int) ^ k = ((2 ^ k : Nat) : Int) := by decide
theorem bits_small : ∀ k, k < 4 → Builtin.Int.intBits ((2 ^ k : Nat) : Int) ≤ 64 := by decide
theorem size_val (d : Nat) : (2 : Int) ^ (Int.fmod (Int.fdiv (d : Int) 3) 4).toNat = ((2 ^ lev d : Nat) : Int) := by
  have e : Int.fmod (Int.fdiv (d : Int) 3) 4 = ((lev d : Nat) : Int) := by rw [show Int.fdiv (d : Int) 3 = ((d / 3 : Nat) : Int) from fdivN d 3]; exact fmodN _ 4
  rw [e, Int.toNat_natCast]; exact pow_cast _ (lev_lt d)
theorem start_val (d : Nat) : Int.fmod (Int.fdiv (d : Int) 12 * ((2 ^ lev d : Nat) : Int)) 16 = ((start d : Nat) : Int) := by
  rw [show Int.fdiv (d : Int) 12 = ((d / 12 : Nat) : Int) from fdivN d 12]
  exact fmodN (d / 12 * 2 ^ lev d) 16
theorem tups_pay (F : LI) : F.map tupI = F.map (tupW fun _ => []) := by
  apply List.map_congr_left
  intro t _
  show AV.tup (t.map .int) = AV.tup (t.map .int ++ [])
  rw [List.append_nil]
theorem wid_le {c : Nat → Bool} : ((wid c 4 0).map enc).Pairwise le := by
  rw [List.pairwise_map]
  exact wid_sorted.imp fun h => le.of_lt (enc_lt h)
inductive CrsI (ds : List Nat) (fa ca : Addr) (σ : Store) (i : Nat) (ℓ : Loc) (τ : Store) : Prop
  | mk (F : LI) (hF : F.Perm ((wid (occ (runT ds i)) 4 0).map enc)) (hh : IsHeap F) (hf : τ.lookup fa = some (.lst (F.map tupI))) (hc : τ.lookup ca = some (.lst ((List.range i).map fun k => entry (runT ds (k + 1)))))
      (ho : Grow σ τ) (hsub : Sub [(st "free", .raw (.ref fa)), (st "taken", .lst ((runT ds i).map blkV)), (st "course", .raw (.ref ca))] ℓ)
inductive GvI (U gone : List Blk) (fa : Addr) (σ : Store) (LL : Loc) (i : Nat) (ℓ : Loc) (τ : Store) : Prop
  | mk (F : LI) (hF : F.Perm ((wid (occ (U ++ gone.drop i)) 4 0).map enc)) (hh : IsHeap F) (hf : τ.lookup fa = some (.lst (F.map tupI))) (ho : ∀ b x, b ≠ fa → σ.lookup b = some x → τ.lookup b = some x) (hsub : Sub LL ℓ)
theorem take_filter (p : Blk → Bool) {T : List Blk} {i : Nat} {b : Blk} (h : T[i]? = some b) : (T.take (i + 1)).filter p = (T.take i).filter p ++ (if p b then [b] else []) := by
  rw [List.take_add_one, h, List.filter_append]
  congr 1
  show List.filter p [b] = _
  cases q : p b <;> simp [q]
theorem flat_out (p : Blk → Bool) : ∀ T : List Blk, T.flatMap (fun b => if p b then [] else [blkV b]) = (T.filter fun b => !p b).map blkV
  | [] => rfl
  | x :: T => by
    rw [List.flatMap_cons, flat_out p T]
    cases z : p x with
    | true => rw [List.filter_cons_of_neg (by simp [z])]; rfl
    | false => rw [List.filter_cons_of_pos (by simp [z])]; rfl
section
variable {w : World} {hB : Heap} {n : Nat} {σ : Store} {Q : AV → Store → Prop}
set_option maxHeartbeats 4000000
theorem crs_tail (G : Gd (G1 w hB)) {env : Env} {ℓ : Loc} {τ : Store} {fa ca : Addr} {F : LI} {T : List Blk} {xs : List AV} {K : AF → Loc → Store → Prop} {p1 p2 p3 p4 p5 p6 p7 p8 p9 : Pos} {k : Nat} (h1 : env.kindOf (st "course") = some .local) (h2 : env.kindOf (st "sorted") = some .globalImplicit) (h3 : env.kindOf (st "free") = some .local) (h4 : env.kindOf (st "taken") = some .local)
    (l1 : ℓ.lookup (st "course") = some (.raw (.ref ca))) (l2 : ℓ.lookup (st "free") = some (.raw (.ref fa))) (l3 : ℓ.lookup (st "taken") = some (.lst (T.map blkV))) (hl : τ.lookup fa = some (.lst (F.map tupI))) (hc : τ.lookup ca = some (.lst xs)) (hF : F.Perm ((wid (occ T) 4 0).map enc)) (hxs : xs.length < 1000) (hline : (p2.endLine == p8.line) = true)
    (e8 : (backTo p8 (starEach [.Tuple [.Call (.Name (st "sorted") p3) [.Name (st "free") p4] [] p5, .Name (st "taken") p6] k p7] env)).all (fun x => !x.1) = true) (e5 : (backTo p5 (starEach [.Name (st "free") p4] env)).all (fun x => !x.1) = true)
    (h : K .next ℓ (upd τ ca (.lst (xs ++ [entry T])))) :
    EX (G1 w hB) (n + 9) env [.Expr (.Call (.Attribute (.Name (st "course") p1) (st "append") p2) [.Tuple [.Call (.Name (st "sorted") p3) [.Name (st "free") p4] [] p5, .Name (st "taken") p6] k p7] [] p8) p9] ℓ τ K := by
  have hl' := hl
  rw [tups_pay] at hl'
  have hw := wid_len (c := occ T) (k := 4) (a := 0)
  refine EX_cons (ES_expr (EV_meth PySem.F.plainAttrs_list PySem.F.slot_list_append PySem.F.type_list_append e8 (by simp) hline rfl (EV_name l1 h1 ⟨type_lst hc, EL_cons (EV_tuple (EL_cons ?_))⟩)))
  refine EV_bcall G rfl rfl (by decide) h2 e5 (EL_cons (EV_name l2 h3 (EL_nil (CALL_sorted (m := 2) (.lst hl') (by decide) ?_ (fun t _ t' _ => rfl) (by rw [hF.length_eq, List.length_map]; (with_reducible exact Nat.lt_of_le_of_lt (by assumption) (by decide))) fun us hp hs => ?_))))
  · intro t ht
    obtain ⟨b, _, rfl⟩ := List.mem_map.mp (hF.mem_iff.mp ht)
    rfl
  have e : us = (wid (occ T) 4 0).map enc := sorted_uniq (hp.trans hF) hs wid_le
  rw [← tups_pay, e, List.map_map]
  exact EL_cons (EV_name l3 h4 (EL_nil ⟨by simp, EL_nil (CALL_append hc (by (with_reducible exact Nat.lt_of_lt_of_le (by assumption) (by decide))) (EX_nil h))⟩))
theorem course_spec (G : Gd (G1 w hB)) {ds : List Nat} (hds : ds.length ≤ 12) (h : Q (.lst (courseV ds)) σ) : CALL (G1 w hB) (n + 30) (.ref 172) [.lst (natsA ds)] [] σ Q := by
  refine CALL.shrink (CALL_pos G (a := 172) [st "deeds"] rfl rfl rfl rfl rfl rfl rfl rfl rfl rfl (by decide) rfl (by decide) rfl ?_ ?_)
  · rintro (_ | ⟨v1, _ | ⟨_, _⟩⟩) h <;> first | rfl | (simp at h)
  intro L
  refine EX_cons (ES_assignTS (KOK.get (l := [st "free", st "taken", st "course"]) ⟨.inl rfl, .inl rfl, .inl rfl, trivial⟩) (EV_tuple (EL_cons (EV_listM (EL_cons (EV_tuple (EL_cons (EV_int (EL_cons (EV_int (EL_nil ⟨by simp, EL_nil ⟨by simp, fun fa hfa => EL_cons (EV_list (EL_nil ⟨by simp, EL_cons (EV_listM (EL_nil ⟨by simp, fun ca hca => EL_nil ⟨by simp, _, rfl, rfl, ?_⟩⟩))⟩))⟩⟩)))))))))))
  have hne : ca ≠ fa := fun q => hca (by rw [q]; simp)
  have hfa0 := none_of hfa
  have hca0 : σ.lookup ca = none := none_of fun q => hca (by simp only [List.map_cons, List.mem_cons]; exact .inr q)
  have hG0 : Grow σ ((ca, AO.lst []) :: (fa, AO.lst [AV.tup [.int 0, .int 16]]) :: σ) := (Grow.new hfa).trans (.new hca)
  refine EX_cons (ES_for (EI_val (EV_name rfl rfl ⟨_, iter_lst rfl, CrsI ds fa ca σ, ?_, ?_, ?_⟩)))
  · refine ⟨[[0, 16]], .refl _, ?_, ?_, by rw [List.lookup_cons, beq_self_eq_true]; rfl, hG0, ⟨rfl, rfl, rfl, trivial⟩⟩
    · intro i h1 h2
      simp at h2
      omega
    · rw [List.lookup_cons, beq_eq_false_iff_ne.mpr (Ne.symm hne), List.lookup_cons, beq_self_eq_true]; rfl
  · rintro i dv ℓ' τ hd ⟨F, hF, hh, hf, hc, ho, hsub⟩
    rw [natsA, List.getElem?_map] at hd
    cases q : ds[i]? with
    | none => rw [q] at hd; cases hd
    | some d =>
    rw [q] at hd
    cases hd
    have hi : i < 12 := Nat.lt_of_lt_of_le (List.getElem?_eq_some_iff.mp q).1 hds
    have hr1 := runT_succ q
    have hTl := runT_len hds i
    have K := runT_ok ds i
    generalize hT : runT ds i = T at *
    have hlev := lev_lt d
    have hxl : ((List.range i).map fun k => entry (runT ds (k + 1))).length < 1000 := by rw [List.length_map, List.length_range]; (with_reducible exact Nat.lt_of_lt_of_le (by assumption) (by decide))
    have hrange : ((List.range i).map fun k => entry (runT ds (k + 1))) ++ [entry (runT ds (i + 1))] = (List.range (i + 1)).map fun k => entry (runT ds (k + 1)) := by rw [List.range_succ, List.map_append]; rfl
    generalize ((List.range i).map fun k => entry (runT ds (k + 1))) = xs at *
    refine ASG_name (.inl rfl) (EX_sub (ℓ' := [(st "deed", .int (d : Int)), (st "free", .raw (.ref fa)), (st "taken", .lst (T.map blkV)), (st "course", .raw (.ref ca))]) ⟨rfl, hsub.1, hsub.2.1, hsub.2.2.1, trivial⟩ ?_)
    refine EX_cons (ES_assign (.inl rfl) (EV_binop (EV_int (EV_binop (EV_binop (EV_name rfl rfl (EV_int (fdiv_ii (by decide) (by decide) (EV_int (fmod_ii (by decide) ?_))))))))))
    have em : Int.fmod (Int.fdiv (d : Int) 3) 4 = ((lev d : Nat) : Int) := by rw [show Int.fdiv (d : Int) 3 = ((d / 3 : Nat) : Int) from fdivN d 3]; exact fmodN _ 4
    refine pow_ii (by rw [em]; (with_reducible exact Int.natCast_nonneg _)) (by rw [em]; omega) (by decide) ?_
    rw [size_val]
    have hfin : ∀ {F' : LI} {ℓ₂ : Loc} {σ' : Store}, F'.Perm ((wid (occ (runT ds (i + 1))) 4 0).map enc) → IsHeap F' → σ'.lookup fa = some (.lst (F'.map tupI)) → σ'.lookup ca = some (.lst xs) → Grow σ σ' → Sub [(st "free", .raw (.ref fa)), (st "taken", .lst ((runT ds (i + 1)).map blkV)), (st "course", .raw (.ref ca))] ℓ₂ →
        CrsI ds fa ca σ (i + 1) ℓ₂ (upd σ' ca (.lst (xs ++ [entry (runT ds (i + 1))]))) := fun a1 a2 a3 a4 a5 a6 =>
      ⟨_, a1, a2, (upd_ne (Ne.symm hne)).trans a3, by rw [← hrange]; exact upd_self a4, fun b x e => (upd_ne fun z => by rw [z, hca0] at e; cases e).trans (a5 b x e), a6⟩
    refine EX_cons (ES_if (EB_cmp (EV_binop (EV_name rfl rfl (EV_int (fmod_ii (by decide) (EV_int (lt_ii (TruOk_bool ⟨fun hb => ?_, fun hb => ?_⟩)))))))))
    · have hb' : d % 3 < 2 := by
        have := of_decide_eq_true hb
        rw [show Int.fmod (d : Int) 3 = ((d % 3 : Nat) : Int) from fmodN d 3] at this; omega
      have en : runT ds (i + 1) = wish T (lev d) := by rw [hr1]; unfold nextT; rw [if_pos hb']
      refine EX_cons (ES_assign (.inl rfl) (EV_gcall G rfl rfl rfl rfl (EL_cons (EV_name rfl rfl (EL_cons (EV_name rfl rfl (EL_nil (take_spec G hlev hf hF hh fun dd F' σ' TR hh' U => ?_))))))))
      have hc' := U.old _ _ hne hc
      have ho' : Grow σ σ' := fun b x e => U.old b x (fun z => by rw [z, hfa0] at e; cases e) (ho b x e)
      cases TR with
      | one P R f m hW hP hj hF' =>
        have hro := room_cases hW hP hj
        have en' : wish T (lev d) = T ++ [(f, lev d)] := by unfold wish; rw [hro]
        rw [en'] at en
        have hF2 : F'.Perm ((wid (occ (T ++ [(f, lev d)])) 4 0).map enc) := by
          rw [take_ok (wish_take (by rw [hW]; simp) hj) hj hW]; exact hF'
        rw [← en] at hF2
        refine EX_cons (ES_if (EB_cmp (EV_name rfl rfl (EV_none (isnot_none (.inl ⟨_, rfl⟩) (TruOk_bool ⟨fun _ => ?_, nofun⟩))))))
        refine EX_cons (ES_assign (.inl rfl) (EV_binop (EV_name rfl rfl (EV_list (EL_cons (EV_tuple (EL_cons (EV_name rfl rfl (EL_cons (EV_name rfl rfl (EL_nil ⟨by simp, EL_nil ⟨by simp, add_ll .refl .refl (by rw [List.length_map]; simp; omega) ?_⟩⟩)))))))))))
        have et : T.map blkV ++ [AV.tup [.int (f : Int), .int ((2 ^ lev d : Nat) : Int)]] = (runT ds (i + 1)).map blkV := by rw [en, List.map_append]; rfl
        rw [et]
        exact EX_nil (EX_nil (crs_tail G rfl rfl rfl rfl rfl rfl rfl U.self hc' hF2 hxl rfl rfl rfl (hfin hF2 hh' U.self hc' ho' ⟨rfl, rfl, rfl, trivial⟩)))
      | no hP hF' =>
        have en' : wish T (lev d) = T := by unfold wish; rw [room_none hP]
        rw [en'] at en
        rw [← en] at hF'
        refine EX_cons (ES_if (EB_cmp (EV_name rfl rfl (EV_none (isnot_none (.inr (.inl rfl)) (TruOk_bool ⟨nofun, fun _ => ?_⟩))))))
        exact EX_nil (EX_nil (crs_tail G rfl rfl rfl rfl rfl rfl (by rw [en]; rfl) U.self hc' hF' hxl rfl rfl rfl (hfin hF' hh' U.self hc' ho' ⟨rfl, by rw [en]; rfl, rfl, trivial⟩)))
    · have hb' : ¬ d % 3 < 2 := by
        have := of_decide_eq_false hb
        rw [show Int.fmod (d : Int) 3 = ((d % 3 : Nat) : Int) from fmodN d 3] at this; omega
      have en : runT ds (i + 1) = T.filter fun b => !within (start d, lev d) b := by rw [hr1]; unfold nextT; rw [if_neg hb']
      have ok := start_ok d
      refine EX_cons (ES_assign (.inr rfl) (EV_callC rfl G rfl (EV_global G rfl rfl ⟨rfl, EL_cons (EV_list (EL_cons (EV_gcall G rfl rfl rfl rfl (EL_cons (EV_binop (EV_binop (EV_binop (EV_name rfl rfl (EV_int (fdiv_ii (by decide) (by decide) (EV_name rfl rfl (mul_ii (.of_right (bits_small _ hlev)) (EV_int (fmod_ii (by decide) ?_))))))))))))))⟩)))
      rw [start_val]
      refine EL_cons (EV_name rfl rfl (EL_nil (name_spec (b := (start d, lev d)) G ok.lo ok.lev (EL_nil ⟨by simp, EL_nil (mk_spec (mods := [nameS (start d, lev d)]) G (by simp) fun dx ra σ₁ hdx hra R hG1 => ?_)⟩))))
      have hbs : ∀ b ∈ [(start d, lev d)], BlkOk b := fun b hb => by rw [List.mem_singleton.mp hb]; exact ok
      have hfr : fa ≠ ra := fun z => by rw [← z, hf] at hra; cases hra
      have hcr : ca ≠ ra := fun z => by rw [← z, hc] at hra; cases hra
      generalize hb0 : (start d, lev d) = b0 at *
      refine EX_cons (ES_assign (.inr rfl) (EV_comp (cl := [(st "reader", L + 1)]) [(st "reader", .inst 144 dx)] (compSide rfl rfl ⟨rfl, trivial⟩ ⟨rfl, trivial⟩) (EI_val (EV_name rfl rfl ⟨_, iter_lst rfl, fun Cc a ha => ?_⟩))))
      have had : dx ≠ a := fun q => ha (q ▸ dom_of R.dict)
      have har : ra ≠ a := fun q => ha (q ▸ dom_of R.notes)
      refine ⟨fun j => AskI w [nameS b0] [(st "reader", .inst 144 dx)] (((T.take j).filter (within b0)).map blkV) j σ₁ a dx ra, ?_, ?_, ?_⟩
      · exact ⟨⟨rfl, trivial⟩, cache0, 0, by rw [List.lookup_cons, beq_self_eq_true]; rfl, ⟨lookup_new R.dict ha, lookup_new R.notes ha, R.ne⟩, nq0, rfl, fun b x _ e => lookup_new e ha⟩
      · rintro j dv ℓ₂ τ₂ hd ⟨hs₂, cache, m, hA, R₂, N₂, rfl, ho₂⟩
        rw [List.getElem?_map] at hd
        cases qb : T[m]? with
        | none => rw [qb] at hd; cases hd
        | some b =>
        rw [qb] at hd
        cases hd
        have okb := K.ok b (List.mem_of_getElem? qb)
        have hm12 : m < 12 := Nat.lt_of_lt_of_le (List.getElem?_eq_some_iff.mp qb).1 hTl
        intro A0 s0 v0 hr hs0 hF0 rv
        refine ASGc_name rfl ?_ A0 s0 v0 hr hs0 (hF0.sub hs₂) rv
        obtain ⟨n1, cache', n2, n3, n4⟩ := ask_gen (k := nameS b) R₂ N₂ okb.name.1
        have haw := asked_within hbs okb
        rw [List.map_singleton] at haw
        rw [haw, List.any_cons, List.any_nil, Bool.or_false] at n1
        have hA3 := (n4 a (Ne.symm har)).trans hA
        refine EB_cmp (EV_tcall G rfl rfl (by decide) rfl rfl (EL_cons (EV_methO G rfl (EV_cell rfl rfl ⟨144, dx, _, 141, rfl, ignore_cls, rfl, rfl, rfl, R₂.dict, (by show ¬ st "names" ∈ [st "_mods", st "_dirs", st "_ignore"]; decide), ?_⟩))))
        refine EL_cons (EV_str (EL_cons (EV_gcall G rfl rfl rfl rfl (EL_cons (EV_sub (EV_name rfl rfl (EV_int (item_tup (by decide) (by decide) (j := 0) rfl (d := .int (b.1 : Int)) rfl ?_))))))))
        refine EL_cons (EV_sub (EV_name rfl rfl (EV_int (item_tup (by decide) (by decide) (j := 1) rfl (d := .int ((2 ^ b.2 : Nat) : Int)) rfl ?_))))
        refine EL_nil (name_spec (b := b) G okb.lo okb.lev (EL_nil (names_spec (f := some (st "")) G R₂ ?_ nofun (by decide) (by have := N₂.size; omega) ?_)))
        · intro x hx
          rw [List.mem_singleton.mp hx]
          exact (hbs b0 (by simp)).name.2
        rw [n1]
        have hnext : ∀ {ℓ₃ : Loc} {τ₃ : Store} {ys : List AV}, Sub [(st "reader", .inst 144 dx)] ℓ₃ → τ₃.lookup a = some (.lst ys) → ys = ((T.take (m + 1)).filter (within b0)).map blkV → Rdr w.params τ₃ dx ra [nameS b0] [] cache' → (∀ b x, b ≠ ra → σ₁.lookup b = some x → τ₃.lookup b = some x) → AskI w [nameS b0] [(st "reader", .inst 144 dx)] (((T.take (m + 1)).filter (within b0)).map blkV) (m + 1) σ₁ a dx ra ℓ₃ τ₃ :=
          fun a1 a2 a3 a4 a5 => ⟨a1, cache', m + 1, a3 ▸ a2, a4, n3, rfl, a5⟩
        have htf := take_filter (within b0) qb
        refine EL_nil (CALL_strint (bit_log _) (EV_str (eq_ss (TruOk_bool ⟨fun hc1 => ?_, fun hc1 => ?_⟩))))
        · have hw1 : within b0 b = true := by
            have := dec_t hc1
            cases z : within b0 b with
            | true => rfl
            | false => rw [z] at this; revert this; decide +kernel
          refine EV_name rfl rfl ⟨_, hA3, by rw [List.length_map]; have := List.length_filter_le (within b0) (T.take m); rw [List.length_take] at this; omega, hnext ⟨rfl, trivial⟩ (upd_self hA3) ?_ ⟨(upd_ne had).trans n2.dict, (upd_ne har).trans n2.notes, n2.ne⟩ fun b' x hb' e => ?_⟩
          · rw [htf, hw1, if_pos rfl, List.map_append]; rfl
          · have : b' ≠ a := fun z => ha (by rw [← z]; exact dom_of e)
            rw [upd_ne this]; exact (n4 b' hb').trans (ho₂ b' x hb' e)
        · have hw1 : within b0 b = false := by
            have := dec_f hc1
            cases z : within b0 b with
            | false => rfl
            | true => rw [z] at this; exact absurd (by decide +kernel) this
          exact hnext ⟨rfl, trivial⟩ hA3 (by rw [htf, hw1, if_neg (by decide), List.append_nil]) n2 fun b' x hb' e => (n4 b' hb').trans (ho₂ b' x hb' e)
      · rintro ℓ₂ τ₂ ⟨hs₂, cache, m, hA, R₂, N₂, hm, ho₂⟩
        refine ⟨_, hA, ?_⟩
        rw [List.length_map, List.take_length]
        have hke : ∀ b x, b ≠ ra → σ₁.lookup b = some x → (del τ₂ a).lookup b = some x := fun b x hb e => (del_lookup fun z => ha (by rw [← z]; exact dom_of e)).trans (ho₂ b x hb e)
        have hf₂ := hke _ _ hfr (hG1 _ _ hf)
        have hc₂ := hke _ _ hcr (hG1 _ _ hc)
        have ho3 : Grow σ (del τ₂ a) := fun b x e => hke b x (fun z => by rw [z] at e; rw [ho _ _ e] at hra; cases hra) (hG1 _ _ (ho _ _ e))
        generalize del τ₂ a = τ₃ at *
        clear hA R₂ N₂ ho₂ hke hs₂
        refine EX_cons (ES_mapE (cl := [(st "gone", L + 1 + 1)]) [(st "gone", .lst ((T.filter (within b0)).map blkV))] (compSide rfl rfl ⟨rfl, trivial⟩ ⟨rfl, trivial⟩) ⟨rfl, trivial⟩ rfl rfl blkV ?_)
        refine EI_val (EV_name rfl rfl ⟨_, iter_lst rfl, T, fun b => if within b0 b then [] else [blkV b], rfl, by (with_reducible exact Nat.lt_of_le_of_lt (by assumption) (by decide)), fun x y _ _ e => by rw [blkV_inj e], fun x _ => by show (if within b0 x = true then ([] : List AV) else [blkV x]).length ≤ 1; split <;> simp, fun Cc => ?_, ?_⟩)
        · intro a' ys b hb hna
          refine ASGc_name rfl ⟨⟨rfl, trivial⟩, EB_cmp (EV_name rfl rfl (EV_cell rfl rfl (notin_view .refl (small_tupI _ 7) (by have := smalls_tups ((T.filter (within b0)).map enc) 7; rw [List.map_map] at this; exact this) (TruOk_bool ⟨rfl, fun hc1 => ?_, fun hc1 => ?_⟩))))⟩
          · have hw1 : within b0 b = false := by
              have := dec_f ((Bool.not_eq_true' _).mp hc1)
              cases z : within b0 b with
              | false => rfl
              | true => exact absurd (List.mem_map_of_mem (List.mem_filter.mpr ⟨hb, z⟩)) this
            exact EV_name rfl rfl ⟨rfl, by show (if within b0 b = true then [] else [blkV b]) = _; rw [hw1]; rfl⟩
          · have hw1 : within b0 b = true := by
              obtain ⟨b', hb', e'⟩ := List.mem_map.mp (dec_t ((Bool.not_eq_false' _).mp hc1))
              rw [← blkV_inj e']; exact (List.mem_filter.mp hb').2
            show (if within b0 b = true then [] else [blkV b]) = []
            rw [hw1]; rfl
        have efl : T.flatMap (fun b => if within b0 b then [] else [blkV b]) = (runT ds (i + 1)).map blkV := by
          rw [en]; exact flat_out _ T
        rw [efl]
        have hpart := filter_perm (within b0) T
        rw [← en] at hpart
        have hap := (List.Perm.pairwise_iff (fun h => Apart.symm h) hpart).mpr K.apart
        have hokg : ∀ b ∈ T.filter (within b0), BlkOk b := fun b hb => K.ok b (List.mem_filter.mp hb).1
        rw [← occ_perm hpart] at hF
        generalize T.filter (within b0) = gone at *
        have hgl : gone.length ≤ 12 := by have := hpart.length_eq; rw [List.length_append] at this; omega
        generalize runT ds (i + 1) = U at *
        refine EX_cons (ES_for (EI_val (EV_cell rfl rfl ⟨_, iter_lst rfl, GvI U gone fa τ₃ [(st "free", .raw (.ref fa)), (st "taken", .lst (U.map blkV)), (st "course", .raw (.ref ca))], ?_, ?_, ?_⟩)))
        · exact ⟨F, hF, hh, hf₂, fun _ _ _ e => e, ⟨rfl, rfl, rfl, trivial⟩⟩
        · rintro j dv ℓ₂ τ₂ hd ⟨F₂, hF₂, hh₂, hf₃, ho₃, hs₂⟩
          rw [List.getElem?_map] at hd
          cases qb : gone[j]? with
          | none => rw [qb] at hd; cases hd
          | some g =>
          rw [qb] at hd
          cases hd
          have hjl := (List.getElem?_eq_some_iff.mp qb).1
          have hdr : gone.drop j = g :: gone.drop (j + 1) := by
            rw [List.drop_eq_getElem_cons hjl]
            congr 1
            exact (List.getElem?_eq_some_iff.mp qb).2
          have okg := hokg g (List.mem_of_getElem? qb)
          have hap2 : (U ++ g :: gone.drop (j + 1)).Pairwise Apart := by
            rw [← hdr]
            refine hap.sublist (List.Sublist.append_left (List.drop_sublist _ _) _)
          rw [hdr] at hF₂
          obtain ⟨ii, Tm, hmg, hpm⟩ := give_ok (gone_give hap2) okg.al (by have := okg.lev; omega) okg.hi (.refl _)
          have hwl := wid_len (c := occ (U ++ g :: gone.drop (j + 1))) (k := 4) (a := 0)
          refine ASG_tupN [(st "place", _), (st "width", _)] rfl rfl ⟨.inl rfl, .inl rfl, trivial⟩ (EX_sub (ℓ' := [(st "place", .int (g.1 : Int)), (st "width", .int ((2 ^ g.2 : Nat) : Int)), (st "free", .raw (.ref fa)), (st "taken", .lst (U.map blkV)), (st "course", .raw (.ref ca))]) ⟨rfl, rfl, hs₂.1, hs₂.2.1, hs₂.2.2.1, trivial⟩ ?_)
          refine EX_cons (ES_expr (EV_gcall G rfl rfl rfl rfl (EL_cons (EV_name rfl rfl (EL_cons (EV_name rfl rfl (EL_cons (EV_name rfl rfl (EL_nil (give_spec G hmg (fun b hb => (wid_ok hb).lo) okg.lo okg.lev hF₂ hh₂ hwl hf₃ fun F' σ' p1 p2 U' => EX_nil ?_))))))))))
          exact ⟨F', p1.trans (hpm.map _), p2, U'.self, fun b x hb e => U'.old b x hb (ho₃ b x hb e), ⟨rfl, rfl, rfl, trivial⟩⟩
        · rintro ℓ₂ τ₂ ⟨F₂, hF₂, hh₂, hf₃, ho₃, hs₂⟩
          rw [List.length_map, List.drop_length, List.append_nil] at hF₂
          have hc₃ := ho₃ _ _ hne hc₂
          refine EX_sub hs₂ (EX_nil (crs_tail G rfl rfl rfl rfl rfl rfl rfl hf₃ hc₃ hF₂ hxl rfl rfl rfl (hfin hF₂ hh₂ hf₃ hc₃ (fun b x e => ho₃ b x (fun z => by rw [z, hfa0] at e; cases e) (ho3 b x e)) ⟨rfl, rfl, rfl, trivial⟩)))
  · rintro ℓ' τ ⟨F, hF, hh, hf, hc, ho, hsub⟩
    rw [natsA, List.length_map] at hc
    refine EX_sub hsub (EX_freeze (x := st "course") rfl hc (EX_cons (ES_ret (EV_name rfl rfl ⟨?_, h⟩))))
    exact ho.del hca0
end
end Mine

end
/- part L2g -/
section
open PySem PySem.W PyProof.Rows
set_option Elab.async false
set_option maxRecDepth 100000
namespace Mine
open PySem PySem.W PyProof.Rows PySem.Calls PySem.Spec

theorem cells_len (c : Nat → Bool) : (cellsA c).length = 16 := by simp [cellsA]
theorem cells_put {c : Nat → Bool} {b : Blk} (h : b.1 + 2 ^ b.2 ≤ 16) : (cellsA c).take b.1 ++ List.replicate (2 ^ b.2) (AV.int 1) ++ (cellsA c).drop (b.1 + 2 ^ b.2) = cellsA fun i => c i || isIn b i := by
  have p2 := two_pos b.2
  have h1 : ((cellsA c).take b.1).length = b.1 := by rw [List.length_take, cells_len]; omega
  have h2 : ((cellsA c).take b.1 ++ List.replicate (2 ^ b.2) (AV.int 1)).length = b.1 + 2 ^ b.2 := by rw [List.length_append, h1, List.length_replicate]
  apply List.ext_getElem?
  intro i
  by_cases h16 : i < 16
  · rw [cells_get h16]
    by_cases q1 : i < b.1
    · rw [List.getElem?_append_left (by omega), List.getElem?_append_left (by (with_reducible exact Mine.om_eqr' (by assumption) (by assumption))), List.getElem?_take, if_pos q1, cells_get h16]
      have : isIn b i = false := by rw [Bool.eq_false_iff]; intro z; have := isIn_iff.mp z; omega
      rw [this, Bool.or_false]
    · by_cases q2 : i < b.1 + 2 ^ b.2
      · rw [List.getElem?_append_left (by (with_reducible exact Mine.om_eqr' (by assumption) (by assumption))), List.getElem?_append_right (by omega), List.getElem?_replicate, if_pos (by omega), isIn_iff.mpr ⟨by omega, q2⟩, Bool.or_true]; rfl
      · rw [List.getElem?_append_right (by omega), h2, List.getElem?_drop, show b.1 + 2 ^ b.2 + (i - (b.1 + 2 ^ b.2)) = i by omega, cells_get h16]
        have : isIn b i = false := by rw [Bool.eq_false_iff]; intro z; have := isIn_iff.mp z; omega
        rw [this, Bool.or_false]
  · rw [List.getElem?_eq_none (by rw [List.length_append, h2, List.length_drop, cells_len]; omega), List.getElem?_eq_none (by rw [cells_len]; omega)]
theorem flat_rep (x : AV) : ∀ k, (List.replicate k [x]).flatten = List.replicate k x
  | 0 => rfl
  | k + 1 => by rw [List.replicate_succ, List.flatten_cons, flat_rep x k]; rfl
theorem first_room (j : Nat) : ∀ W : List Blk, (W.flatMap fun b => if j ≤ b.2 then [blkV (b.1, j)] else []).take 1 = match W.find? fun b => decide (j ≤ b.2) with | some b => [blkV (b.1, j)] | none => []
  | [] => rfl
  | b :: W => by
    rw [List.flatMap_cons, List.find?_cons]
    by_cases q : j ≤ b.2
    · rw [if_pos q, decide_eq_true q]; rfl
    · rw [if_neg q, decide_eq_false q, List.nil_append, first_room j W]
theorem wish_plain (T : List Blk) (j : Nat) : T.map blkV ++ (((wid (occ T) 4 0).flatMap fun b => if j ≤ b.2 then [blkV (b.1, j)] else []).take 1) = (wish T j).map blkV := by
  rw [first_room]
  unfold wish roomOf
  cases (wid (occ T) 4 0).find? fun b => decide (j ≤ b.2) with
  | none => simp
  | some b => simp
inductive PlI (ds : List Nat) (ca : Addr) (σ : Store) (i : Nat) (ℓ : Loc) (τ : Store) : Prop
  | mk (hc : τ.lookup ca = some (.lst ((List.range i).map fun k => entry (runT ds (k + 1))))) (ho : Grow σ τ)
      (hsub : Sub [(st "cells", .lst (cellsA (occ (runT ds i)))), (st "rooms", .lst ((wid (occ (runT ds i)) 4 0).map blkV)), (st "taken", .lst ((runT ds i).map blkV)), (st "course", .raw (.ref ca))] ℓ)
section
variable {w : World} {hB : Heap} {n : Nat} {σ : Store} {Q : AV → Store → Prop}
set_option maxHeartbeats 4000000
theorem plain_spec (G : Gd (G1 w hB)) {ds : List Nat} (hds : ds.length ≤ 12) (h : Q (.tup [.lst (courseV ds), .lst (cellsA (occ (runT ds ds.length)))]) σ) : CALL (G1 w hB) (n + 30) (.ref 184) [.lst (natsA ds)] [] σ Q := by
  refine CALL.shrink (CALL_pos G (a := 184) [st "deeds"] rfl rfl rfl rfl rfl rfl rfl rfl rfl rfl (by decide) rfl (by decide) rfl ?_ ?_)
  · rintro (_ | ⟨v1, _ | ⟨_, _⟩⟩) h <;> first | rfl | (simp at h)
  intro L
  refine EX_cons (ES_assignN [(st "cells", _), (st "rooms", _), (st "taken", _), (st "course", _)] rfl ⟨.inl rfl, .inl rfl, .inl rfl, .inl rfl, trivial⟩ (EV_tuple (EL_cons (EV_binop (EV_list (EL_cons (EV_int (EL_nil ⟨by simp, EV_int (mul_li .refl (by decide) (by decide) (by decide) ?_)⟩))))))))
  refine EL_cons (EV_list (EL_cons (EV_tuple (EL_cons (EV_int (EL_cons (EV_int (EL_nil ⟨by simp, EL_nil ⟨by simp, EL_cons (EV_list (EL_nil ⟨by simp, EL_cons (EV_listM (EL_nil ⟨by simp, fun ca hca => EL_nil ⟨by simp, _, rfl, rfl, ?_⟩⟩))⟩))⟩⟩))))))))
  have hca0 := none_of hca
  refine EX_cons (ES_for (EI_val (EV_name rfl rfl ⟨_, iter_lst rfl, PlI ds ca σ, ?_, ?_, ?_⟩)))
  · exact ⟨by rw [List.lookup_cons, beq_self_eq_true]; rfl, .new hca, ⟨rfl, rfl, rfl, rfl, trivial⟩⟩
  · rintro i dv ℓ' τ hd ⟨hc, ho, hsub⟩
    rw [natsA, List.getElem?_map] at hd
    cases q : ds[i]? with
    | none => rw [q] at hd; cases hd
    | some d =>
    rw [q] at hd
    cases hd
    have hi : i < 12 := Nat.lt_of_lt_of_le (List.getElem?_eq_some_iff.mp q).1 hds
    have hr1 := runT_succ q
    have hTl := runT_len hds i
    have hUl := runT_len hds (i + 1)
    have KU := runT_ok ds (i + 1)
    have K := runT_ok ds i
    generalize hT : runT ds i = T at *
    have hlev := lev_lt d
    have hxl : ((List.range i).map fun k => entry (runT ds (k + 1))).length < 1000 := by rw [List.length_map, List.length_range]; (with_reducible exact Nat.lt_of_lt_of_le (by assumption) (by decide))
    have hrange : ((List.range i).map fun k => entry (runT ds (k + 1))) ++ [entry (runT ds (i + 1))] = (List.range (i + 1)).map fun k => entry (runT ds (k + 1)) := by rw [List.range_succ, List.map_append]; rfl
    generalize ((List.range i).map fun k => entry (runT ds (k + 1))) = xs at *
    have hfin : ∀ {ℓ₂ : Loc}, Sub [(st "cells", .lst (cellsA (occ (runT ds (i + 1))))), (st "rooms", .lst ((wid (occ (runT ds (i + 1))) 4 0).map blkV)), (st "taken", .lst ((runT ds (i + 1)).map blkV)), (st "course", .raw (.ref ca))] ℓ₂ →
        PlI ds ca σ (i + 1) ℓ₂ (upd τ ca (.lst (xs ++ [entry (runT ds (i + 1))]))) := fun a6 =>
      ⟨by rw [← hrange]; exact upd_self hc, fun b x e => (upd_ne fun z => by rw [z, hca0] at e; cases e).trans (ho b x e), a6⟩
    refine ASG_name (.inl rfl) (EX_sub (ℓ' := [(st "deed", .int (d : Int)), (st "rooms", .lst ((wid (occ T) 4 0).map blkV)), (st "taken", .lst (T.map blkV)), (st "course", .raw (.ref ca))]) ⟨rfl, hsub.2.1, hsub.2.2.1, hsub.2.2.2.1, trivial⟩ ?_)
    refine EX_cons (ES_assign (.inr rfl) (EV_binop (EV_int (EV_binop (EV_binop (EV_name rfl rfl (EV_int (fdiv_ii (by decide) (by decide) (EV_int (fmod_ii (by decide) ?_))))))))))
    have em : Int.fmod (Int.fdiv (d : Int) 3) 4 = ((lev d : Nat) : Int) := by rw [show Int.fdiv (d : Int) 3 = ((d / 3 : Nat) : Int) from fdivN d 3]; exact fmodN _ 4
    refine pow_ii (by rw [em]; (with_reducible exact Int.natCast_nonneg _)) (by rw [em]; omega) (by decide) ?_
    rw [size_val]
    have hwl := wid_len (c := occ T) (k := 4) (a := 0)
    refine EX_cons (ES.mono (Q := fun r ℓ₂ σ₂ => r = .next ∧ σ₂ = τ ∧ Sub [(st "taken", .lst ((runT ds (i + 1)).map blkV)), (st "course", .raw (.ref ca))] ℓ₂) ?_ ?_)
    · refine ES_if (EB_cmp (EV_binop (EV_name rfl rfl (EV_int (fmod_ii (by decide) (EV_int (lt_ii (TruOk_bool ⟨fun hb => ?_, fun hb => ?_⟩))))))))
      · have hb' : d % 3 < 2 := by
          have := of_decide_eq_true hb
          rw [show Int.fmod (d : Int) 3 = ((d % 3 : Nat) : Int) from fmodN d 3] at this; omega
        have en : runT ds (i + 1) = wish T (lev d) := by rw [hr1]; unfold nextT; rw [if_pos hb']
        refine EX_cons (ES_assign (.inl rfl) (EV_binop (EV_name rfl rfl (EV_slice ?_))))
        refine EV_mapE (cl := [(st "size", L + 1)]) [(st "size", .int ((2 ^ lev d : Nat) : Int))] (compSide rfl rfl ⟨rfl, trivial⟩ ⟨rfl, trivial⟩) ⟨rfl, trivial⟩ blkV ?_
        refine EI_val (EV_name rfl rfl ⟨_, iter_lst rfl, wid (occ T) 4 0, fun b => if lev d ≤ b.2 then [blkV (b.1, lev d)] else [], rfl, by (with_reducible exact Nat.lt_of_le_of_lt (by assumption) (by decide)), fun x y _ _ e => by rw [blkV_inj e], fun x _ => by show (if lev d ≤ x.2 then [blkV (x.1, lev d)] else []).length ≤ 1; split <;> simp, fun Cc => ?_, ?_⟩)
        · intro a' ys b hb hna
          show ASGc _ _ _ _ (.tup [.int (b.1 : Int), .int ((2 ^ b.2 : Nat) : Int)]) _ _ _
          refine ASGc_tupN [(st "first", _), (st "room", _)] rfl rfl ⟨rfl, rfl, trivial⟩ ⟨⟨rfl, trivial⟩, EB_cmp (EV_name rfl rfl (EV_cell rfl rfl (ge_ii (TruOk_bool ⟨rfl, fun hc1 => ?_, fun hc1 => ?_⟩))))⟩
          · have hw1 : lev d ≤ b.2 := (Nat.pow_le_pow_iff_right (by decide : 1 < 2)).mp (Int.ofNat_le.mp (of_decide_eq_true hc1))
            exact EV_tuple (EL_cons (EV_name rfl rfl (EL_cons (EV_cell rfl rfl (EL_nil ⟨by simp, rfl, by show (if lev d ≤ b.2 then [blkV (b.1, lev d)] else []) = _; rw [if_pos hw1]; rfl⟩)))))
          · have hw1 : ¬ lev d ≤ b.2 := fun z => of_decide_eq_false hc1 (Int.ofNat_le.mpr (Nat.pow_le_pow_right (by decide) z))
            show (if lev d ≤ b.2 then [blkV (b.1, lev d)] else []) = []
            rw [if_neg hw1]
        have hfl : ((wid (occ T) 4 0).flatMap fun b => if lev d ≤ b.2 then [blkV (b.1, lev d)] else []).length ≤ 16 := by
          refine Nat.le_trans ?_ hwl
          generalize wid (occ T) 4 0 = W
          induction W with
          | nil => simp
          | cons b W ih =>
            rw [List.flatMap_cons, List.length_append, List.length_cons]
            have : (if lev d ≤ b.2 then [blkV (b.1, lev d)] else []).length ≤ 1 := by split <;> simp
            omega
        refine EV_int ⟨1, rfl, _, .refl, by (with_reducible exact Nat.lt_of_le_of_lt (by assumption) (by decide)), by decide, ?_⟩
        rw [show (some (1 : Int)) = some ((1 : Nat) : Int) from rfl, pick_to]
        refine add_ll .refl .refl (by rw [List.length_map, List.length_take]; omega) ?_
        rw [wish_plain, ← en]
        exact EX_nil ⟨rfl, rfl, ⟨rfl, rfl, trivial⟩⟩
      · have hb' : ¬ d % 3 < 2 := by
          have := of_decide_eq_false hb
          rw [show Int.fmod (d : Int) 3 = ((d % 3 : Nat) : Int) from fmodN d 3] at this; omega
        have en : runT ds (i + 1) = T.filter fun b => !within (start d, lev d) b := by rw [hr1]; unfold nextT; rw [if_neg hb']
        refine EX_cons (ES_assign (.inr rfl) (EV_binop (EV_binop (EV_binop (EV_name rfl rfl (EV_int (fdiv_ii (by decide) (by decide) (EV_cell rfl rfl (mul_ii (.of_right (bits_small _ hlev)) (EV_int (fmod_ii (by decide) ?_)))))))))))
        rw [start_val]
        refine EX_cons (ES_mapE (cl := [(st "start", L + 1 + 1), (st "size", L + 1)]) [(st "size", .int ((2 ^ lev d : Nat) : Int)), (st "start", .int ((start d : Nat) : Int))] (compSide rfl rfl ⟨rfl, rfl, trivial⟩ ⟨rfl, rfl, trivial⟩) ⟨rfl, rfl, trivial⟩ rfl rfl blkV ?_)
        refine EI_val (EV_name rfl rfl ⟨_, iter_lst rfl, T, fun b => if within (start d, lev d) b then [] else [blkV b], rfl, by (with_reducible exact Nat.lt_of_le_of_lt (by assumption) (by decide)), fun x y _ _ e => by rw [blkV_inj e], fun x _ => by show (if within (start d, lev d) x = true then ([] : List AV) else [blkV x]).length ≤ 1; split <;> simp, fun Cc => ?_, ?_⟩)
        · intro a' ys b hb hna
          show ASGc _ _ _ _ (.tup [.int (b.1 : Int), .int ((2 ^ b.2 : Nat) : Int)]) _ _ _
          have hout : ∀ {e : AV}, within (start d, lev d) b = false → e = blkV b → (if within (start d, lev d) b = true then ([] : List AV) else [blkV b]) = [e] := fun hw e => by rw [hw, e]; rfl
          refine ASGc_tupN [(st "first", _), (st "width", _)] rfl rfl ⟨rfl, rfl, trivial⟩ ⟨⟨rfl, rfl, trivial⟩, EB_bool (EAll_or (EB_cmp (EV_name rfl rfl (EV_cell rfl rfl (lt_ii (TruOk_bool ⟨fun hc1 => ?_, fun hc1 => ⟨rfl, fun _ => ?_, nofun⟩⟩))))))⟩
          · refine EAll_or (EB_cmp (EV_binop (EV_name rfl rfl (EV_name rfl rfl (add_ii (EV_binop (EV_cell rfl rfl (EV_cell rfl rfl (add_ii (gt_ii (TruOk_bool ⟨fun hc2 => EAll_ornil ⟨rfl, nofun, fun _ => ?_⟩, fun hc2 => ⟨rfl, fun _ => ?_, nofun⟩⟩)))))))))))
            · have d1 := of_decide_eq_false hc1
              have d2 := of_decide_eq_false hc2
              have hw : within (start d, lev d) b = true := by
                unfold within
                rw [Bool.and_eq_true, decide_eq_true_iff, decide_eq_true_iff]
                exact ⟨by omega, by show b.1 + 2 ^ b.2 ≤ start d + 2 ^ lev d; omega⟩
              show (if within (start d, lev d) b = true then ([] : List AV) else [blkV b]) = []
              rw [hw]; rfl
            · have d2 := of_decide_eq_true hc2
              refine EV_tuple (EL_cons (EV_name rfl rfl (EL_cons (EV_name rfl rfl (EL_nil ⟨by simp, rfl, hout ?_ rfl⟩)))))
              unfold within
              rw [Bool.and_eq_false_iff]; right
              exact decide_eq_false (by show ¬ b.1 + 2 ^ b.2 ≤ start d + 2 ^ lev d; omega)
          · have d1 := of_decide_eq_true hc1
            refine EV_tuple (EL_cons (EV_name rfl rfl (EL_cons (EV_name rfl rfl (EL_nil ⟨by simp, rfl, hout ?_ rfl⟩)))))
            unfold within
            rw [Bool.and_eq_false_iff]; left
            exact decide_eq_false (by show ¬ start d ≤ b.1; omega)
        rw [flat_out, ← en]
        exact EX_nil ⟨rfl, rfl, ⟨rfl, rfl, trivial⟩⟩
    · rintro _ ℓ₂ τ₂ ⟨rfl, eτ, hs₂⟩
      subst eτ
      generalize runT ds (i + 1) = U at *
      refine EX_sub hs₂ (EX_cons (ES_assign (.inl rfl) (EV_binop (EV_list (EL_cons (EV_int (EL_nil ⟨by simp, EV_int (mul_li .refl (by decide) (by decide) (by decide) ?_)⟩)))))))
      refine EX_cons (ES_for (EI_val (EV_name rfl rfl ⟨_, iter_lst rfl, fun j ℓ₃ τ₃ => τ₃ = τ₂ ∧ Sub [(st "cells", .lst (cellsA (occ (U.take j)))), (st "taken", .lst (U.map blkV)), (st "course", .raw (.ref ca))] ℓ₃, ?_, ?_, ?_⟩)))
      · exact ⟨rfl, rfl, rfl, rfl, trivial⟩
      · rintro j dv ℓ₃ _ hd ⟨rfl, hs₃⟩
        rw [List.getElem?_map] at hd
        cases qb : U[j]? with
        | none => rw [qb] at hd; cases hd
        | some b =>
        rw [qb] at hd
        cases hd
        have okb := KU.ok b (List.mem_of_getElem? qb)
        have p16 := pow_small b.2 okb.lev
        have hi16 := okb.hi
        refine ASG_tupN [(st "place", _), (st "width", _)] rfl rfl ⟨.inl rfl, .inl rfl, trivial⟩ (EX_sub (ℓ' := [(st "place", .int (b.1 : Int)), (st "width", .int ((2 ^ b.2 : Nat) : Int)), (st "cells", .lst (cellsA (occ (U.take j)))), (st "taken", .lst (U.map blkV)), (st "course", .raw (.ref ca))]) ⟨rfl, rfl, hs₃.1, hs₃.2.1, hs₃.2.2.1, trivial⟩ ?_)
        refine EX_cons (ES_assign (.inl rfl) (EV_binop (EV_binop (EV_slice (EV_name rfl rfl (EV_name rfl rfl ⟨_, rfl, _, .refl, by rw [cells_len]; decide, by decide, ?_⟩))))))
        rw [pick_to]
        refine EV_binop (EV_list (EL_cons (EV_int (EL_nil ⟨by simp, EV_name rfl rfl (mul_li .refl (by decide) (by have := two_pos b.2; omega) (by omega) ?_)⟩))))
        have erep : mulL [AV.int 1] ((2 ^ b.2 : Nat) : Int) = List.replicate (2 ^ b.2) (.int 1) := flat_rep _ _
        rw [erep]
        refine add_ll .refl .refl (by rw [List.length_take, cells_len, List.length_replicate]; omega) ?_
        refine EV_slice (EV_name rfl rfl (EV_binop (EV_name rfl rfl (EV_name rfl rfl (add_ii ⟨_, rfl, _, .refl, by rw [cells_len]; decide, by decide, ?_⟩)))))
        rw [show (b.1 : Int) + ((2 ^ b.2 : Nat) : Int) = ((b.1 + 2 ^ b.2 : Nat) : Int) from rfl, pick_from]
        refine add_ll .refl .refl (by rw [List.length_append, List.length_take, cells_len, List.length_replicate, List.length_drop, cells_len]; omega) ?_
        rw [cells_put hi16]
        have eocc : (fun i => occ (U.take j) i || isIn b i) = occ (U.take (j + 1)) := by
          funext i
          rw [List.take_add_one, qb, occ_app]
          show _ = (_ || occ [b] i)
          rw [occ_one]
        rw [eocc]
        exact EX_nil ⟨rfl, rfl, rfl, rfl, trivial⟩
      · rintro ℓ₃ _ ⟨rfl, hs₃⟩
        rw [List.length_map, List.take_length] at hs₃
        refine EX_sub hs₃ (EX_cons (ES_assign (.inl rfl) (EV_gcall G rfl rfl rfl rfl (EL_cons (EV_name rfl rfl (EL_cons (EV_int (EL_cons (EV_int (EL_nil (widest_spec (c := occ U) G 4 0 (by decide) (by decide) ?_)))))))))))
        refine EX_cons (ES_expr (EV_meth PySem.F.plainAttrs_list PySem.F.slot_list_append PySem.F.type_list_append rfl (by decide) rfl rfl (EV_name rfl rfl ⟨type_lst hc, EL_cons (EV_tuple (EL_cons (EV_name rfl rfl (EL_cons (EV_name rfl rfl (EL_nil ⟨by simp, EL_nil (CALL_append hc (by (with_reducible exact Nat.lt_of_lt_of_le (by assumption) (by decide))) ?_)⟩))))))⟩)))
        exact EX_nil (hfin ⟨rfl, rfl, rfl, rfl, trivial⟩)
  · rintro ℓ' τ ⟨hc, ho, hsub⟩
    rw [natsA, List.length_map] at hc hsub
    refine EX_sub hsub (EX_freeze (x := st "course") rfl hc (EX_cons (ES_ret (EV_tuple (EL_cons (EV_name rfl rfl (EL_cons (EV_name rfl rfl (EL_nil ⟨by simp, ?_, h⟩)))))))))
    exact ho.del hca0
end
end Mine

end
/- part L2n -/
section
open PySem PySem.W PyProof.Rows
set_option Elab.async false
set_option maxRecDepth 100000
namespace Mine
open PySem PySem.W PyProof.Rows PySem.Calls PySem.Spec

theorem fmod_in (x : Int) {m : Int} (h : 0 < m) : 0 ≤ x.fmod m ∧ x.fmod m < m := by
  rw [Int.fmod_eq_emod_of_nonneg _ (Int.le_of_lt h)]
  exact ⟨Int.emod_nonneg _ (by omega), Int.emod_lt_of_pos _ h⟩
theorem hiG (X Y m : Int) (h0 : 0 ≤ Y) (h1 : Y < 16777216) : (X * 16777216 + Y) / (16777216 * m) % 64 = X / m % 64 := by
  have e : (X * 16777216 + Y) / 16777216 = X := by omega
  rw [← Int.ediv_ediv_of_nonneg (by decide), e]
theorem loG (X Y m q : Int) (h : 0 < m) (e : 16777216 = m * (64 * q)) : (X * 16777216 + Y) / m % 64 = Y / m % 64 := by
  have e2 : X * 16777216 + Y = Y + m * (64 * (q * X)) := by
    rw [e, Int.add_comm, Int.mul_comm X, Int.mul_assoc m, Int.mul_assoc 64]
  rw [e2, Int.add_mul_ediv_left _ _ (Int.ne_of_gt h), Int.add_mul_emod_self_left]
structure Six (a b c T : Int) : Prop where
  i0 : T / 262144 % 64 = a / 4
  i1 : T / 4096 % 64 = a % 4 * 16 + b / 16
  i2 : T / 64 % 64 = b % 16 * 4 + c / 64
  i3 : T / 1 % 64 = c % 64
theorem six {a b c : Int} (ha : 0 ≤ a ∧ a < 256) (hb : 0 ≤ b ∧ b < 256) (hc : 0 ≤ c ∧ c < 256) : Six a b c ((a * 256 + b) * 256 + c) := ⟨by omega, by omega, by omega, by omega⟩
theorem bytesL_arr {ns : List Int} (h : ∀ x ∈ ns, 0 ≤ x ∧ x < 256) : bytesL (byteArr ns) = ns := by
  unfold bytesL byteArr
  rw [List.toList_toArray, List.map_map]
  conv => rhs; rw [← List.map_id ns]
  apply List.map_congr_left
  intro x hx
  obtain ⟨h0, h1⟩ := h x hx
  show ((x.toNat.toUInt8).toNat : Int) = x
  have : (x.toNat.toUInt8).toNat = x.toNat % 256 := rfl
  rw [this]
  omega

noncomputable def signsS : Str := st "ABCDEFGHIJKLMNOPQRSTUVWXYZabcdefghijklmnopqrstuvwxyz0123456789+/"
noncomputable def oct2 (ns : List Int) : List Int := (ns.take 9).map (fun x => x.fmod 256) ++ [0, 111, 254, 64, 144, 129, 33, 34, 195].drop (ns.take 9).length
theorem oct2_len (ns : List Int) : (oct2 ns).length = 9 := by
  unfold oct2
  rw [List.length_append, List.length_drop, List.length_map, List.length_take]
  simp only [List.length_cons, List.length_nil]
  omega
theorem oct2_range (ns : List Int) : ∀ x ∈ oct2 ns, 0 ≤ x ∧ x < 256 := by
  intro x hx
  rcases List.mem_append.mp hx with hx | hx
  · obtain ⟨y, _, rfl⟩ := List.mem_map.mp hx
    exact fmod_in y (by decide)
  · exact (by decide : ∀ x ∈ [(0 : Int), 111, 254, 64, 144, 129, 33, 34, 195], 0 ≤ x ∧ x < 256) x (List.mem_of_mem_drop hx)
noncomputable def digs : List Int → List Int
  | a :: b :: c :: r => a / 4 :: (a % 4 * 16 + b / 16) :: (b % 16 * 4 + c / 64) :: c % 64 :: digs r
  | _ => []
noncomputable def numT (os : List Int) : Int := ((List.range 9).map fun k => os.getD (8 - k) 0 * 256 ^ k).sum
structure Digs (os : List Int) : Prop where
  len : (digs os).length = 12
  signs : b64G os = (digs os).map sg
  range : ∀ x ∈ digs os, 0 ≤ x ∧ x < 64
  num : ∀ k, k < 12 → numT os / 64 ^ (11 - k) % 64 = (digs os).getD k 0
theorem dig_range {a b c : Int} (ha : 0 ≤ a ∧ a < 256) (hb : 0 ≤ b ∧ b < 256) (hc : 0 ≤ c ∧ c < 256) : ∀ x ∈ [a / 4, a % 4 * 16 + b / 16, b % 16 * 4 + c / 64, c % 64], 0 ≤ x ∧ x < 64 := by
  intro x hx
  simp only [List.mem_cons, List.not_mem_nil, or_false] at hx
  rcases hx with rfl | rfl | rfl | rfl <;> omega
theorem digs_ok {os : List Int} (h9 : os.length = 9) (hr : ∀ x ∈ os, 0 ≤ x ∧ x < 256) : Digs os := by
  match os, h9 with
  | [a, b, c, d, e, f, g, h, i], _ =>
    have ha := hr a (by simp)
    have hb := hr b (by simp)
    have hc := hr c (by simp)
    have hd := hr d (by simp)
    have he := hr e (by simp)
    have hf := hr f (by simp)
    have hg := hr g (by simp)
    have hh := hr h (by simp)
    have hi := hr i (by simp)
    clear hr
    refine ⟨rfl, rfl, fun x hx => ?_, ?_⟩
    · have : x ∈ [a / 4, a % 4 * 16 + b / 16, b % 16 * 4 + c / 64, c % 64] ++ ([d / 4, d % 4 * 16 + e / 16, e % 16 * 4 + f / 64, f % 64] ++ [g / 4, g % 4 * 16 + h / 16, h % 16 * 4 + i / 64, i % 64]) := hx
      rcases List.mem_append.mp this with z | z
      · exact dig_range ha hb hc x z
      rcases List.mem_append.mp z with z | z
      · exact dig_range hd he hf x z
      · exact dig_range hg hh hi x z
    have S1 := six ha hb hc
    have S2 := six hd he hf
    have S3 := six hg hh hi
    have hY0 : 0 ≤ (d * 256 + e) * 256 + f := by omega
    have hY1 : (d * 256 + e) * 256 + f < 16777216 := by omega
    have hZ0 : 0 ≤ (g * 256 + h) * 256 + i := by omega
    have hZ1 : (g * 256 + h) * 256 + i < 16777216 := by omega
    have ht : numT [a, b, c, d, e, f, g, h, i] = (((a * 256 + b) * 256 + c) * 16777216 + ((d * 256 + e) * 256 + f)) * 16777216 + ((g * 256 + h) * 256 + i) := by
      have e0 : numT [a, b, c, d, e, f, g, h, i] = i * 256 ^ 0 + (h * 256 ^ 1 + (g * 256 ^ 2 + (f * 256 ^ 3 + (e * 256 ^ 4 + (d * 256 ^ 5 + (c * 256 ^ 6 + (b * 256 ^ 7 + (a * 256 ^ 8 + 0)))))))) := rfl
      rw [e0]
      have p0 : (256 : Int) ^ 0 = 1 := by decide
      have p1 : (256 : Int) ^ 1 = 256 := by decide
      have p2 : (256 : Int) ^ 2 = 65536 := by decide
      have p3 : (256 : Int) ^ 3 = 16777216 := by decide
      have p4 : (256 : Int) ^ 4 = 4294967296 := by decide
      have p5 : (256 : Int) ^ 5 = 1099511627776 := by decide
      have p6 : (256 : Int) ^ 6 = 281474976710656 := by decide
      have p7 : (256 : Int) ^ 7 = 72057594037927936 := by decide
      have p8 : (256 : Int) ^ 8 = 18446744073709551616 := by decide
      rw [p0, p1, p2, p3, p4, p5, p6, p7, p8]
      omega
    rw [ht]
    generalize (a * 256 + b) * 256 + c = X at *
    generalize (d * 256 + e) * 256 + f = Y at *
    generalize (g * 256 + h) * 256 + i = Z at *
    have top : ∀ m v : Int, (X * 16777216 + Y) / m % 64 = v → ((X * 16777216 + Y) * 16777216 + Z) / (16777216 * m) % 64 = v := fun m v q => (hiG _ Z m hZ0 hZ1).trans q
    intro k hk
    have hcase := (by decide : ∀ k, k < 12 → k = 0 ∨ k = 1 ∨ k = 2 ∨ k = 3 ∨ k = 4 ∨ k = 5 ∨ k = 6 ∨ k = 7 ∨ k = 8 ∨ k = 9 ∨ k = 10 ∨ k = 11) k hk
    rcases hcase with rfl | rfl | rfl | rfl | rfl | rfl | rfl | rfl | rfl | rfl | rfl | rfl
    · exact top (16777216 * 262144) _ ((hiG X Y 262144 hY0 hY1).trans S1.i0)
    · exact top (16777216 * 4096) _ ((hiG X Y 4096 hY0 hY1).trans S1.i1)
    · exact top (16777216 * 64) _ ((hiG X Y 64 hY0 hY1).trans S1.i2)
    · exact top (16777216 * 1) _ ((hiG X Y 1 hY0 hY1).trans S1.i3)
    · exact top 262144 _ ((loG X Y 262144 1 (by decide) rfl).trans S2.i0)
    · exact top 4096 _ ((loG X Y 4096 64 (by decide) rfl).trans S2.i1)
    · exact top 64 _ ((loG X Y 64 4096 (by decide) rfl).trans S2.i2)
    · exact top 1 _ ((loG X Y 1 262144 (by decide) rfl).trans S2.i3)
    · exact (loG (X * 16777216 + Y) Z 262144 1 (by decide) rfl).trans S3.i0
    · exact (loG (X * 16777216 + Y) Z 4096 64 (by decide) rfl).trans S3.i1
    · exact (loG (X * 16777216 + Y) Z 64 4096 (by decide) rfl).trans S3.i2
    · exact (loG (X * 16777216 + Y) Z 1 262144 (by decide) rfl).trans S3.i3
noncomputable def deeds (ns : List Int) : List Nat := (digs (oct2 ns)).map Int.toNat
theorem deeds_val (ns : List Int) : natsA (deeds ns) = intsA (digs (oct2 ns)) := by
  have D := digs_ok (oct2_len ns) (oct2_range ns)
  unfold natsA deeds intsA
  rw [List.map_map]
  apply List.map_congr_left
  intro x hx
  show AV.int ((x.toNat : Nat) : Int) = AV.int x
  rw [Int.toNat_of_nonneg (D.range x hx).1]
theorem find_sign : ∀ v : Nat, v < 64 → Txt.find signsS ⟨#[(sg (v : Int)).toNat]⟩ = (v : Int) := by decide +kernel
theorem sg_range' (i : Int) : 0 ≤ sg i ∧ sg i < 256 := by
  unfold sg
  have := (b64L.getD i.toNat 0).toNat_lt
  omega
theorem oct_bits : ∀ n : Nat, n < 256 → Builtin.Int.intBits (n : Int) ≤ 64 := by decide +kernel
end Mine

end
/- part Core33 -/
section
open PySem PySem.W PyProof.Rows
set_option Elab.async false
namespace Mine
open PySem PySem.W PyProof.Rows PySem.Calls PySem.Spec
section
variable {g : Gr} {A : Around} {s s₀ : Shared} {σ σ₀ : Store} {n : Nat} {env : Env} {ℓ : Loc}
theorem EV_neg {e : Expr} {pos : Pos} {Q : AV → Store → Prop} (h : EV g n env e ℓ σ fun d σ' => ∃ i : Int, d = .int i ∧ Q (.int (-i)) σ') : EV g n env (.UnaryOp .USub e pos) ℓ σ Q := by
  intro A s hr hs hf
  refine wpAny_UnaryOp (wpAny_mono (h A s hr hs hf) ?_ fun _ _ f => f)
  rintro v s₁ ⟨d, σ₁, ⟨i, rfl, q⟩, rv, p₁⟩
  cases rv
  exact neg_int ⟨_, _, q, .int _ _, p₁.trans (.tok p₁.si _)⟩
end
end Mine

end
/- part L2h -/
section
open PySem PySem.W PyProof.Rows
set_option Elab.async false
set_option maxRecDepth 100000
namespace Mine
open PySem PySem.W PyProof.Rows PySem.Calls PySem.Spec

theorem smalls_of : ∀ {l : List AV} {k : Nat}, (∀ d ∈ l, small k d = true) → smalls k l = true
  | [], _, _ => rfl
  | x :: l, k, h => by rw [smalls, h x (.head _), smalls_of fun d hd => h d (.tail _ hd)]; rfl
theorem natsA_range (k : Nat) : intsA (rangeL 0 k) = (List.range k).map fun (i : Nat) => AV.int (i : Int) := by
  unfold intsA rangeL
  rw [List.map_map]
  apply List.map_congr_left
  intro x _
  show AV.int (0 + (x : Int)) = _
  rw [Int.zero_add]
theorem small_blks (l : List Blk) (k : Nat) : small (k + 2) (.lst (l.map blkV)) = true := by
  rw [small]
  exact smalls_of fun d hd => by obtain ⟨b, _, rfl⟩ := List.mem_map.mp hd; exact small_tupI _ k
theorem small_entry (T : List Blk) : small 8 (entry T) = true := by
  unfold entry
  rw [small, smalls, smalls, small_blks _ 5, small_blks _ 5]; rfl
theorem small_course (ds : List Nat) : small 9 (.lst (courseV ds)) = true := by
  rw [small]
  exact smalls_of fun d hd => by obtain ⟨k, _, rfl⟩ := List.mem_map.mp hd; exact small_entry _
theorem small_bits (f : Nat → Bool) : small 9 (.lst ((List.range 16).map fun i => bitV (f i))) = true := by
  rw [small]
  exact smalls_of fun d hd => by
    obtain ⟨k, _, rfl⟩ := List.mem_map.mp hd
    unfold bitV
    cases f k <;> decide +kernel
theorem dec_y {p : Prop} {i : Decidable p} (h : p) : @decide p i = true := decide_eq_true h
theorem dec_f' {p : Prop} {i : Decidable p} (h : @decide p i = false) : ¬ p := of_decide_eq_false h
theorem bitI_log (b : Bool) : (1 - bitI b).natAbs.log2 < 1920 := by cases b <;> decide

section
variable {w : World} {hB : Heap} {n : Nat} {σ : Store} {Q : AV → Store → Prop}
set_option maxHeartbeats 8000000
theorem law_main {l : Addr} {vs : List Value} {ns : List Int} (G : Gd (G1 w hB)) (hl : hB.IsList l vs.toArray) (hI : IntsAre vs ns) (hz : ns.length ≤ 63) : CALLc (G1 w hB) 100 (.ref 194) [.raw (.ref l)] [] [] fun d _ => d = .bool true := by
  refine CALLc_def G (a := 194) (n := 99) rfl rfl rfl rfl rfl rfl rfl rfl rfl rfl (by decide) (BindOk.toS (BindOk.pos (names := [st "script"]) rfl ?_) ⟨List.nodup_cons.mpr ⟨List.not_mem_nil, List.nodup_nil⟩, rfl, ?_⟩)
  · rintro (_ | ⟨v1, _ | ⟨_, _⟩⟩) h <;> first | rfl | (simp at h)
  intro L
  have h9 := oct2_len ns
  have hor := oct2_range ns
  have D := digs_ok h9 hor
  have hgrab : ∀ {env : Env} {ℓ : Loc} {p1 p2 p3 p4 : Pos} {k : Nat} {σ : Store} {Q : AV → Store → Prop}, env.kindOf (st "script") = some .local → ℓ.lookup (st "script") = some (.raw (.ref l)) → Q (.lst (intsA (ns.take 9))) σ →
      EV (G1 w hB) 99 env (.Subscript (.Name (st "script") p1) (.Slice none (some (.Constant (.int 9) k p2)) none p3) p4) ℓ σ Q := by
    intro env ℓ p1 p2 p3 p4 k σ Q h1 h2 h
    refine EV_sliceB hl hI (by (with_reducible exact Nat.lt_of_le_of_lt (by assumption) (by decide))) (EV_name h2 h1 ⟨rfl, ?_⟩) 
    refine EV_int ⟨9, rfl, ?_⟩
    show Q (.lst (pickL (intsA ns) none (some 9) none)) σ
    have := pick_to (xs := intsA ns) (m := 9)
    rw [show (some ((9 : Nat) : Int)) = some (9 : Int) from rfl] at this
    rw [this, intsA, ← List.map_take]; exact h
  refine EX_cons (ES_assign (.inr rfl) (EV_str ?_))
  refine EX_cons (ES_assign (.inr rfl) (EV_binop ?_))
  refine EV_mapM (cl := []) [] (compSide rfl rfl trivial trivial) trivial .int ?_
  refine EI_val (hgrab rfl rfl ⟨_, iter_lst rfl, ns.take 9, fun x => .int (x.fmod 256), rfl, by rw [List.length_take]; (with_reducible exact Mine.om_minl (by decide)), int_inj, fun Cc => ?_, ?_⟩)
  · intro σ' x hx hg
    exact ASGc_name rfl ⟨trivial, EV_binop (EV_name rfl rfl (EV_int (fmod_ii (by decide) ⟨rfl, rfl⟩)))⟩
  refine EV_slice (EV_list (EL_cons (EV_int (EL_cons (EV_int (EL_cons (EV_int (EL_cons (EV_int (EL_cons (EV_int (EL_cons (EV_int (EL_cons (EV_int (EL_cons (EV_int (EL_cons (EV_int (EL_nil ⟨by simp, ?_⟩))))))))))))))))))))
  refine EV_bcall G rfl rfl (by decide) rfl rfl (EL_cons (hgrab rfl rfl (EL_nil (len_list .refl (by rw [intsA, List.length_map, List.length_take]; (with_reducible exact Mine.om_minl (by decide))) ⟨_, rfl, ?_⟩))))
  refine ⟨_, .refl, by decide, by decide, ?_⟩
  rw [pick_from]
  refine add_ll .refl .refl (by rw [List.length_map, List.length_take, List.length_drop]; simp; omega) ?_
  have e1 : (ns.take 9).map (fun x => AV.int (x.fmod 256)) ++ List.drop (intsA (ns.take 9)).length [AV.int 0, AV.int 111, AV.int 254, AV.int 64, AV.int 144, AV.int 129, AV.int 33, AV.int 34, AV.int 195] = intsA (oct2 ns) := by
    unfold oct2 intsA
    rw [List.map_append, List.map_map, List.map_drop, List.length_map]; rfl
  rw [e1]
  have hdv := deeds_val ns
  have hdl : (deeds ns).length = 12 := by unfold deeds; rw [List.length_map, D.len]
  have hol : bytesL (byteArr (oct2 ns)) = oct2 ns := bytesL_arr hor
  generalize hds : deeds ns = ds at *
  clear hds
  generalize oct2 ns = os at *
  have hT12 := runT_len (ds := ds) (by omega) 12
  have K := runT_ok ds 12
  -- course
  refine EX_cons (ES_assign (.inl rfl) (EV_gcall G rfl rfl rfl rfl (EL_cons ?_)))
  refine EV_mapM (cl := [(st "signs", L + 1)]) [(st "signs", .str signsS)] (compSide rfl rfl ⟨rfl, trivial⟩ ⟨rfl, trivial⟩) ⟨rfl, trivial⟩ .int ?_
  refine EI_val (EV_gcall G rfl rfl rfl rfl (EL_cons (EV_tcall G rfl rfl (by decide) rfl rfl (EL_cons (EV_cell rfl rfl (EL_nil (CALL_bytes .refl hor (by (with_reducible exact Mine.om_eql (by assumption) (by decide))) (EL_nil (b64_spec G (by rw [hol, h9]) (by rw [hol]; (with_reducible exact Mine.om_eql (by assumption) (by decide))) ?_)))))))))
  rw [hol, D.signs]
  have hsr : ∀ x ∈ (digs os).map sg, 0 ≤ x ∧ x < 256 := fun x hx => by obtain ⟨y, _, rfl⟩ := List.mem_map.mp hx; exact sg_range' y
  refine ⟨_, iter_bytes, (digs os).map sg, fun x => .int (Txt.find signsS ⟨#[x.toNat]⟩), by rw [bytesL_arr hsr]; rfl, by rw [List.length_map, D.len]; decide, int_inj, fun Cc => ?_, ?_⟩
  · intro σ' x hx hg
    have hx2 := hsr x hx
    refine ASGc_name rfl ⟨⟨rfl, trivial⟩, EV_meth PySem.F.plainAttrs_str PySem.F.slot_str_find PySem.F.type_str_find rfl (by decide) rfl rfl (EV_cell rfl rfl ⟨type_str, EL_cons (EV_bcall G rfl rfl (by decide) rfl rfl (EL_cons (EV_name rfl rfl (EL_nil (CALL_chr hx2.1 (by omega) (EL_nil (CALL_find ⟨rfl, rfl⟩)))))))⟩)⟩
  have e2 : ((digs os).map sg).map (fun x => AV.int (Txt.find signsS ⟨#[x.toNat]⟩)) = natsA ds := by
    rw [hdv, List.map_map]
    apply List.map_congr_left
    intro v hv
    have hr := D.range v hv
    show AV.int _ = AV.int v
    have := find_sign v.toNat (by omega)
    rw [Int.toNat_of_nonneg hr.1] at this
    exact congrArg AV.int this
  rw [e2]
  refine EL_nil (course_spec G (by omega) ?_)
  -- number
  refine EX_cons (ES_assign (.inr rfl) (EV_bcall G rfl rfl (by decide) rfl rfl (EL_cons ?_)))
  refine EV_mapM (cl := [(st "octets", L + 1 + 1)]) [(st "octets", .lst (intsA os))] (compSide rfl rfl ⟨rfl, trivial⟩ ⟨rfl, trivial⟩) ⟨rfl, trivial⟩ (fun (i : Nat) => AV.int (i : Int)) ?_
  have er9 : intsA (rangeL 0 (9 : Int).toNat) = (List.range 9).map fun (i : Nat) => AV.int (i : Int) := natsA_range 9
  have er12 : intsA (rangeL 0 (12 : Int).toNat) = (List.range 12).map fun (i : Nat) => AV.int (i : Int) := natsA_range 12
  refine EI_range G rfl rfl (EV_int ⟨9, rfl, by decide, by decide, List.range 9, fun k => .int (os.getD (8 - k) 0 * 256 ^ k), er9, by decide, natsI_inj, fun Cc => ?_, ?_⟩) rfl
  · intro σ' k hk hg
    have hk9 := List.mem_range.mp hk
    have hlt : 8 - k < os.length := by omega
    have hxr := hor _ (List.getElem_mem hlt)
    have hget : (intsA os)[8 - k]? = some (.int (os.getD (8 - k) 0)) := by
      rw [intsA_get hlt, List.getD_eq_getElem?_getD, List.getElem?_eq_getElem hlt]; rfl
    have hxd : os.getD (8 - k) 0 = os[8 - k] := by rw [List.getD_eq_getElem?_getD, List.getElem?_eq_getElem hlt]; rfl
    rw [← hxd] at hxr
    have e8 : (8 : Int) - (k : Int) = ((8 - k : Nat) : Int) := by omega
    refine ASGc_name rfl ⟨⟨rfl, trivial⟩, EV_binop (EV_sub (EV_cell rfl rfl (EV_binop (EV_int (EV_name rfl rfl (sub_ii ?_))))))⟩
    rw [e8]
    refine item_list .refl (by (with_reducible exact Int.natCast_nonneg _)) (by omega) (by rw [Int.toNat_natCast]; exact hget) ?_
    refine EV_binop (EV_int (EV_name rfl rfl (pow_ii (by (with_reducible exact Int.natCast_nonneg _)) (by omega) (by decide) ?_)))
    rw [Int.toNat_natCast]
    refine mul_ii (.of_left ?_) ⟨rfl, rfl⟩
    have := oct_bits (os.getD (8 - k) 0).toNat (by omega)
    rwa [Int.toNat_of_nonneg hxr.1] at this
  have e3 : (List.range 9).map (fun k => AV.int (os.getD (8 - k) 0 * 256 ^ k)) = intsA ((List.range 9).map fun k => os.getD (8 - k) 0 * 256 ^ k) := by rw [intsA, List.map_map]; rfl
  rw [e3]
  refine EL_nil (CALL_sum .refl ?_)
  show thn _ _ _ _ _ _ ((_, AV.int (numT os)) :: _) _
  -- due
  refine EX_cons (ES_assignN [(st "due", _), (st "cells", _)] rfl ⟨.inl rfl, .inl rfl, trivial⟩ (EV_gcall G rfl rfl rfl rfl (EL_cons ?_)))
  refine EV_mapM (cl := [(st "number", L + 1 + 1 + 1)]) [(st "number", .int (numT os))] (compSide rfl rfl ⟨rfl, trivial⟩ ⟨rfl, trivial⟩) ⟨rfl, trivial⟩ (fun (i : Nat) => AV.int (i : Int)) ?_
  refine EI_range G rfl rfl (EV_int ⟨12, rfl, by decide, by decide, List.range 12, fun k => .int ((digs os).getD k 0), er12, by decide, natsI_inj, fun Cc => ?_, ?_⟩) rfl
  · intro σ' k hk hg
    have hk12 := List.mem_range.mp hk
    have e7 : (11 : Int) - (k : Int) = ((11 - k : Nat) : Int) := by omega
    have hp : (64 ^ (11 - k) : Int) ≠ 0 := by
      have := Int.pow_pos (n := 64) (m := 11 - k) (by decide); omega
    have hpos : (0 : Int) ≤ 64 ^ (11 - k) := Int.le_of_lt (Int.pow_pos (by decide))
    have hlog := (by decide +kernel : ∀ j, j < 12 → ((64 : Int) ^ j).natAbs.log2 < 9000) (11 - k) (by omega)
    refine ASGc_name rfl ⟨⟨rfl, trivial⟩, EV_binop (EV_binop (EV_cell rfl rfl (EV_binop (EV_int (EV_binop (EV_int (EV_name rfl rfl (sub_ii ?_))))))))⟩
    rw [e7]
    refine pow_ii (by (with_reducible exact Int.natCast_nonneg _)) (by omega) (by decide) ?_
    rw [Int.toNat_natCast]
    refine fdiv_ii hp hlog (EV_int (fmod_ii (by decide) ?_))
    rw [Int.fdiv_eq_ediv_of_nonneg _ hpos, Int.fmod_eq_emod_of_nonneg _ (by decide), D.num k hk12]
    exact ⟨rfl, rfl⟩
  have e4 : (List.range 12).map (fun k => AV.int ((digs os).getD k 0)) = natsA ds := by
    rw [hdv]
    have : digs os = (List.range 12).map fun k => (digs os).getD k 0 := by
      apply List.ext_getElem
      · simp [D.len]
      · intro i h1 h2
        rw [List.getElem_map, List.getElem_range, List.getD_eq_getElem?_getD, List.getElem?_eq_getElem h1]; rfl
    conv => rhs; rw [this]
    rw [intsA, List.map_map]; rfl
  rw [e4]
  refine EL_nil (plain_spec G (by omega) ⟨_, rfl, rfl, ?_⟩)
  rw [hdl]
  refine EX_cons (ES_if (EB_cmp (EV_name rfl rfl (EV_name rfl rfl (ne_view .refl .refl (small_course ds) (small_course ds) (TruOk_bool ⟨fun hb => absurd rfl (dec_f' ((Bool.not_eq_true' _).mp hb)), fun _ => EX_nil ?_⟩))))))
  -- the last entry
  have hlast : (courseV ds)[((-1 : Int) + (courseV ds).length).toNat]? = some (entry (runT ds 12)) := by
    unfold courseV
    rw [List.length_map, List.length_range, hdl, List.getElem?_map, show ((-1 : Int) + ((12 : Nat) : Int)).toNat = 11 from rfl, List.getElem?_range (by decide)]; rfl
  have hcl : (courseV ds).length = 12 := by unfold courseV; rw [List.length_map, List.length_range, hdl]
  refine EX_cons (ES_assignN [(st "free", _), (st "taken", _)] rfl ⟨.inl rfl, .inl rfl, trivial⟩ (EV_sub (EV_name rfl rfl (EV_neg (EV_int ⟨1, rfl, item_listN .refl (by decide) (by rw [hcl]; decide) (by decide) hlast ?_⟩)))))
  refine ⟨_, rfl, rfl, ?_⟩
  generalize runT ds 12 = T at *
  have hwl := wid_len (c := occ T) (k := 4) (a := 0)
  refine EX_cons (ES_ret (EV_boolop (EOps_and (EV_cmp (EV_gcall G rfl rfl rfl rfl (EL_cons (EV_name rfl rfl (EL_nil (told_spec G K.ok (by (with_reducible exact Nat.le_trans (by assumption) (by decide))) ?_)))))))))
  have hcells : cellsA (occ T) = ((List.range 16).map fun i => bitI (occ T i)).map AV.int := by unfold cellsA; rw [List.map_map]; rfl
  refine EV_mapM (cl := []) [] (compSide rfl rfl trivial trivial) trivial .int ?_
  refine EI_val (EV_name rfl rfl ⟨_, iter_lst rfl, (List.range 16).map (fun i => bitI (occ T i)), fun x => .str (Str.ofString (toString x)), hcells, by simp, int_inj, fun Cc => ?_, ?_⟩)
  · intro σ' x hx hg
    obtain ⟨i, _, rfl⟩ := List.mem_map.mp hx
    exact ASGc_name rfl ⟨trivial, EV_tcall G rfl rfl (by decide) rfl rfl (EL_cons (EV_name rfl rfl (EL_nil (CALL_strint (bit_log _) ⟨rfl, rfl⟩))))⟩
  have e5 : ((List.range 16).map (fun i => bitI (occ T i))).map (fun x => AV.str (Str.ofString (toString x))) = (List.range 16).map fun i => bitV (occ T i) := by rw [List.map_map]; rfl
  rw [e5]
  refine eq_view .refl .refl (small_bits (occ T)) (small_bits (occ T)) (TruOk_bool ⟨rfl, fun hb => ?_, fun hb => absurd rfl (dec_f' hb)⟩)
  refine EOps_one (EV_cmp (EV_gcall G rfl rfl rfl rfl (EL_cons (EV_name rfl rfl (EL_nil (told_spec G (bs := wid (occ T) 4 0) (fun b hb => wid_ok hb) (by (with_reducible assumption)) ?_))))))
  refine EV_mapM (cl := []) [] (compSide rfl rfl trivial trivial) trivial .int ?_
  refine EI_val (EV_name rfl rfl ⟨_, iter_lst rfl, (List.range 16).map (fun i => bitI (occ T i)), fun x => .str (Str.ofString (toString (1 - x))), hcells, by simp, int_inj, fun Cc => ?_, ?_⟩)
  · intro σ' x hx hg
    obtain ⟨i, _, rfl⟩ := List.mem_map.mp hx
    exact ASGc_name rfl ⟨trivial, EV_tcall G rfl rfl (by decide) rfl rfl (EL_cons (EV_binop (EV_int (EV_name rfl rfl (sub_ii (EL_nil (CALL_strint (bitI_log _) ⟨rfl, rfl⟩)))))))⟩
  have e6 : ((List.range 16).map (fun i => bitI (occ T i))).map (fun x => AV.str (Str.ofString (toString (1 - x)))) = (List.range 16).map fun i => bitV (!occ T i) := by
    rw [List.map_map]
    apply List.map_congr_left
    intro i _
    show AV.str (Str.ofString (toString (1 - bitI (occ T i)))) = bitV (!occ T i)
    unfold bitV
    cases occ T i <;> rfl
  have e7 : ((List.range 16).map fun i => bitV ((wid (occ T) 4 0).any fun b => isIn b i)) = (List.range 16).map fun i => bitV (!occ T i) := by
    apply List.map_congr_left
    intro i hi
    rw [wid_cover (Nat.zero_le _) (by have := List.mem_range.mp hi; (with_reducible assumption))]
  rw [e6, e7]
  refine eq_view .refl .refl (small_bits _) (small_bits _) ?_
  show AV.bool _ = AV.bool true
  exact congrArg AV.bool (dec_y rfl)
end
end Mine

end
/- part Top2 -/
open PySem PySem.W PyProof.Rows
namespace Mine
theorem post_ok (a : List WData) : PySem.Challenge.rw_oy0072_02.row.claim.post a (.bool true) a = true := by
  first
  | exact postW_of (X := true) rfl rfl rfl
  | (show (WShape.has _ _ _ && WTm.holds _ _ _) = true; rfl)
  | decide
  | kernel_rfl
end Mine
set_option maxRecDepth 100000 in
set_option maxHeartbeats 8000000 in
theorem PySem.Challenge.cw_oy0072_02_holds : PySem.Challenge.rw_oy0072_02.Holds :=
  Mine.hd (by
  k_fill
  intro w s₀ s₁ mg mb G Y fa o pm cd doc dV kV ho hd hcd hD hmg hg args vals as hpre hlay hrd hwl hlo
  have KX := kIn_of Y
  refine Ground.open G ?_
  intro T B D TE TW
  wrow_args hpre hlay hrd hwl hlo
  refine enter_call ?_
  have hfa : fa = 194 := by
    have e := mg_of KX T.g (n := Str.ofString "law") (v := .ref 194) rfl
    rw [show mg (Str.ofString "law") = some (Value.ref fa) from hmg] at e
    exact Value.ref.inj (Option.some.inj e)
  subst hfa
  refine Mine.law_close (g := Mine.G1 w s₁.heap) rfl (Mine.law_main (Mine.gd_of KX T) (by assumption) (by assumption) (by omega)) hg (fun _ => rfl) (Mine.post_ok _))
