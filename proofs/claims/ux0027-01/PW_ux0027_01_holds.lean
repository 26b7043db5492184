import PyProof.Rows.All
import Wide.All
import OpenK.AllK
import Wide.FinOn
import PyProof.FactsAll.str_0
import PyProof.ExcStrAll.Exception
import PySem.Challenge.RW_ux0027_01
set_option Elab.async false
set_option rowWalk.seconds 0

-- part HD
section
open PySem PySem.W PyProof.Rows
set_option Elab.async false
namespace Mine
set_option maxRecDepth 100000
set_option maxHeartbeats 8000000
noncomputable def hd.heap_39 : Params → Frag := by
  intro P
  refine' (?f : (PySem.Challenge.pw_ux0027_01.main.body = [_, .FunctionDef _ ?A1 ?B1 _ _ _ ?C1 _ _ _, _, _, _, .FunctionDef _ ?A5 ?B5 _ _ _ ?C5 _ _ _, _, _, .FunctionDef _ ?A8 ?B8 _ _ _ ?C8 _ _ _, _, _, _, .ClassDef _ _ _ [.FunctionDef _ ?A12x0 ?B12x0 _ _ _ ?C12x0 _ _ _, .FunctionDef _ ?A12x1 ?B12x1 _ _ _ ?C12x1 _ _ _, .FunctionDef _ ?A12x2 ?B12x2 _ _ _ ?C12x2 _ _ _, .FunctionDef _ ?A12x3 ?B12x3 _ _ _ ?C12x3 _ _ _, .FunctionDef _ ?A12x4 ?B12x4 _ _ _ ?C12x4 _ _ _, .FunctionDef _ ?A12x5 ?B12x5 _ _ _ ?C12x5 _ _ _, .FunctionDef _ ?A12x6 ?B12x6 _ _ _ _ _ _ _, .FunctionDef _ ?A12x7 ?B12x7 _ _ _ ?C12x7 _ _ _, .FunctionDef _ ?A12x8 ?B12x8 _ _ _ ?C12x8 _ _ _, .FunctionDef _ ?A12x9 ?B12x9 _ _ _ ?C12x9 _ _ _, .FunctionDef _ ?A12x10 ?B12x10 _ _ _ _ _ _ _, .FunctionDef _ ?A12x11 ?B12x11 _ _ _ ?C12x11 _ _ _, .FunctionDef _ ?A12x12 ?B12x12 _ _ _ _ _ _ _, .FunctionDef _ ?A12x13 ?B12x13 _ _ _ ?C12x13 _ _ _, .FunctionDef _ ?A12x14 ?B12x14 _ _ _ ?C12x14 _ _ _, .FunctionDef _ ?A12x15 ?B12x15 _ _ _ ?C12x15 _ _ _, .FunctionDef _ ?A12x16 ?B12x16 _ _ _ ?C12x16 _ _ _] _ _ _ _ _ _ _, _, .FunctionDef _ ?A14 ?B14 _ _ _ ?C14 _ _ _, .FunctionDef _ ?A15 ?B15 _ _ _ ?C15 _ _ _, .FunctionDef _ ?A16 ?B16 _ _ _ ?C16 _ _ _, .FunctionDef _ ?A17 ?B17 _ _ _ ?C17 _ _ _, .FunctionDef _ ?A18 ?B18 _ _ _ ?C18 _ _ _, .FunctionDef _ ?A19 ?B19 _ _ _ ?C19 _ _ _, .FunctionDef _ ?A20 ?B20 _ _ _ ?C20 _ _ _, .FunctionDef _ ?A21 ?B21 _ _ _ ?C21 _ _ _]) → List (Nat × Obj) → List (Nat × Obj)) ?h (
  (nat_lit 2, { cls := PySem.Value.none, dict := (none : Option Nat), data := PySem.Data.dict #[{ hash := PySem.PyData.keyHash P (PySem.Str.ofString "\x69mport.loaded._sre"), key := PySem.Value.str (PySem.Str.ofString "\x69mport.loaded._sre") (183 : Nat), val := PySem.Value.bool true }, { hash := PySem.PyData.keyHash P (PySem.Str.ofString "class._frozen_importlib.BuiltinImporter"), key := PySem.Value.str (PySem.Str.ofString "class._frozen_importlib.BuiltinImporter") (185 : Nat), val := PySem.Value.ref (14 : Nat) }, { hash := PySem.PyData.keyHash P (PySem.Str.ofString "watched.\x69mport"), key := PySem.Value.str (PySem.Str.ofString "watched.\x69mport") (206 : Nat), val := PySem.Value.ref (18 : Nat) }, { hash := PySem.PyData.keyHash P (PySem.Str.ofString "class._frozen_importlib.ModuleSpec"), key := PySem.Value.str (PySem.Str.ofString "class._frozen_importlib.ModuleSpec") (216 : Nat), val := PySem.Value.ref (22 : Nat) }, { hash := PySem.PyData.keyHash P (PySem.Str.ofString "sys.modules.booked-epoch"), key := PySem.Value.str (PySem.Str.ofString "sys.modules.booked-epoch") (245 : Nat), val := PySem.Value.int (3 : Int) (0 : Nat) }, { hash := PySem.PyData.keyHash P (PySem.Str.ofString "\x69mport.later-laid._sre"), key := PySem.Value.str (PySem.Str.ofString "\x69mport.later-laid._sre") (270 : Nat), val := PySem.Value.bool true }, { hash := PySem.PyData.keyHash P (PySem.Str.ofString "watched.library"), key := PySem.Value.str (PySem.Str.ofString "watched.library") (272 : Nat), val := PySem.Value.ref (27 : Nat) }, { hash := PySem.PyData.keyHash P (PySem.Str.ofString "watched.library-objects"), key := PySem.Value.str (PySem.Str.ofString "watched.library-objects") (0 : Nat), val := PySem.Value.str (PySem.Str.ofString "\x0c") (0 : Nat) }, { hash := PySem.PyData.keyHash P (PySem.Str.ofString "watched.library-deep._sre"), key := PySem.Value.str (PySem.Str.ofString "watched.library-deep._sre") (273 : Nat), val := PySem.Value.str (PySem.Str.ofString "\x04\x00\x00\x0b\x04\x00\x00\x0b\x04\x00\x00\x03\x04\x00\x00\x0b\x08\x04dict\x02") (0 : Nat) }, { hash := PySem.PyData.keyHash P (PySem.Str.ofString "type.__subclasses__.Exception.0"), key := PySem.Value.str (PySem.Str.ofString "type.__subclasses__.Exception.0") (307 : Nat), val := PySem.Value.int (48 : Int) (0 : Nat) }, { hash := PySem.PyData.keyHash P (PySem.Str.ofString "type.__subclasses__.Exception.n"), key := PySem.Value.str (PySem.Str.ofString "type.__subclasses__.Exception.n") (308 : Nat), val := PySem.Value.int (1 : Int) (0 : Nat) }] (11 : Nat), slots := #[] }) ::
  (nat_lit 3, { cls := PySem.Value.type "dict", dict := (none : Option Nat), data := PySem.Data.dict #[{ hash := PySem.PyData.keyHash P (PySem.Str.ofString "__name__"), key := PySem.Value.str (PySem.Str.ofString "__name__") (165 : Nat), val := PySem.Value.str (PySem.Str.ofString "law_ux0027_01") (573 : Nat) }, { hash := PySem.PyData.keyHash P (PySem.Str.ofString "__doc__"), key := PySem.Value.str (PySem.Str.ofString "__doc__") (166 : Nat), val := PySem.Value.none }, { hash := PySem.PyData.keyHash P (PySem.Str.ofString "__package__"), key := PySem.Value.str (PySem.Str.ofString "__package__") (167 : Nat), val := PySem.Value.none }, { hash := PySem.PyData.keyHash P (PySem.Str.ofString "__loader__"), key := PySem.Value.str (PySem.Str.ofString "__loader__") (168 : Nat), val := PySem.Value.builtin "__main__.__loader__#opaque" }, { hash := PySem.PyData.keyHash P (PySem.Str.ofString "__spec__"), key := PySem.Value.str (PySem.Str.ofString "__spec__") (169 : Nat), val := PySem.Value.none }, { hash := PySem.PyData.keyHash P (PySem.Str.ofString "__annotations__"), key := PySem.Value.str (PySem.Str.ofString "__annotations__") (170 : Nat), val := PySem.Value.ref (6 : Nat) }, { hash := PySem.PyData.keyHash P (PySem.Str.ofString "__builtins__"), key := PySem.Value.str (PySem.Str.ofString "__builtins__") (171 : Nat), val := PySem.Value.ref (4 : Nat) }, { hash := PySem.PyData.keyHash P (PySem.Str.ofString "__file__"), key := PySem.Value.str (PySem.Str.ofString "__file__") (173 : Nat), val := PySem.Value.str (PySem.Str.ofString "/claim/cut.py") (172 : Nat) }, { hash := PySem.PyData.keyHash P (PySem.Str.ofString "__cached__"), key := PySem.Value.str (PySem.Str.ofString "__cached__") (174 : Nat), val := PySem.Value.none }, { hash := PySem.PyData.keyHash P (PySem.Str.ofString "_sre"), key := PySem.Value.str (PySem.Str.ofString "_sre") (275 : Nat), val := PySem.Value.ref (12 : Nat) }, { hash := PySem.PyData.keyHash P (PySem.Str.ofString "_wall"), key := PySem.Value.str (PySem.Str.ofString "_wall") (288 : Nat), val := PySem.Value.ref (38 : Nat) }, { hash := PySem.PyData.keyHash P (PySem.Str.ofString "Error"), key := PySem.Value.str (PySem.Str.ofString "Error") (310 : Nat), val := PySem.Value.ref (48 : Nat) }, { hash := PySem.PyData.keyHash P (PySem.Str.ofString "error_reply"), key := PySem.Value.str (PySem.Str.ofString "error_reply") (326 : Nat), val := PySem.Value.ref (61 : Nat) }, { hash := PySem.PyData.keyHash P (PySem.Str.ofString "parse257"), key := PySem.Value.str (PySem.Str.ofString "parse257") (337 : Nat), val := PySem.Value.ref (70 : Nat) }, { hash := PySem.PyData.keyHash P (PySem.Str.ofString "ELLIPSIS_MARKER"), key := PySem.Value.str (PySem.Str.ofString "ELLIPSIS_MARKER") (341 : Nat), val := PySem.Value.str (PySem.Str.ofString "...") (340 : Nat) }, { hash := PySem.PyData.keyHash P (PySem.Str.ofString "_ellipsis_match"), key := PySem.Value.str (PySem.Str.ofString "_ellipsis_match") (353 : Nat), val := PySem.Value.ref (77 : Nat) }, { hash := PySem.PyData.keyHash P (PySem.Str.ofString "_name_disallowed_re"), key := PySem.Value.str (PySem.Str.ofString "_name_disallowed_re") (381 : Nat), val := PySem.Value.ref (82 : Nat) }, { hash := PySem.PyData.keyHash P (PySem.Str.ofString "_value_disallowed_re"), key := PySem.Value.str (PySem.Str.ofString "_value_disallowed_re") (415 : Nat), val := PySem.Value.ref (87 : Nat) }, { hash := PySem.PyData.keyHash P (PySem.Str.ofString "Headers"), key := PySem.Value.str (PySem.Str.ofString "Headers") (572 : Nat), val := PySem.Value.ref (210 : Nat) }, { hash := PySem.PyData.keyHash P (PySem.Str.ofString "_law_numbers"), key := PySem.Value.str (PySem.Str.ofString "_law_numbers") (580 : Nat), val := PySem.Value.ref (219 : Nat) }, { hash := PySem.PyData.keyHash P (PySem.Str.ofString "_law_piece"), key := PySem.Value.str (PySem.Str.ofString "_law_piece") (588 : Nat), val := PySem.Value.ref (226 : Nat) }, { hash := PySem.PyData.keyHash P (PySem.Str.ofString "_law_on"), key := PySem.Value.str (PySem.Str.ofString "_law_on") (600 : Nat), val := PySem.Value.ref (233 : Nat) }, { hash := PySem.PyData.keyHash P (PySem.Str.ofString "_law_lack"), key := PySem.Value.str (PySem.Str.ofString "_law_lack") (613 : Nat), val := PySem.Value.ref (240 : Nat) }, { hash := PySem.PyData.keyHash P (PySem.Str.ofString "_law_answers"), key := PySem.Value.str (PySem.Str.ofString "_law_answers") (619 : Nat), val := PySem.Value.ref (245 : Nat) }, { hash := PySem.PyData.keyHash P (PySem.Str.ofString "_law_kinds"), key := PySem.Value.str (PySem.Str.ofString "_law_kinds") (636 : Nat), val := PySem.Value.ref (252 : Nat) }, { hash := PySem.PyData.keyHash P (PySem.Str.ofString "_law_refused"), key := PySem.Value.str (PySem.Str.ofString "_law_refused") (644 : Nat), val := PySem.Value.ref (259 : Nat) }, { hash := PySem.PyData.keyHash P (PySem.Str.ofString "law"), key := PySem.Value.str (PySem.Str.ofString "law") (650 : Nat), val := PySem.Value.ref (264 : Nat) }] (27 : Nat), slots := #[] }) ::
  (nat_lit 32, { cls := PySem.Value.type "tuple", dict := (none : Option Nat), data := PySem.Data.seq #[], slots := #[] }) ::
  (nat_lit 34, { cls := PySem.Value.type "tuple", dict := (none : Option Nat), data := PySem.Data.seq #[PySem.Value.str (PySem.Str.ofString "k") (285 : Nat)], slots := #[] }) ::
  (nat_lit 35, { cls := PySem.Value.type "tuple", dict := (none : Option Nat), data := PySem.Data.seq #[], slots := #[] }) ::
  (nat_lit 37, { cls := PySem.Value.type "code", dict := (none : Option Nat), data := PySem.Data.fields #[PySem.Value.str (PySem.Str.ofString "_wall") (282 : Nat), PySem.Value.str (PySem.Str.ofString "_wall") (283 : Nat), PySem.Value.str (PySem.Str.ofString "/claim/cut.py") (284 : Nat), PySem.Value.int (2 : Int) (0 : Nat), PySem.Value.int (1 : Int) (0 : Nat), PySem.Value.int (0 : Int) (0 : Nat), PySem.Value.int (0 : Int) (0 : Nat), PySem.Value.int (3 : Int) (0 : Nat), PySem.Value.ref (32 : Nat), PySem.Value.bool true, PySem.Value.int (276 : Int) (0 : Nat), PySem.Value.ref (33 : Nat), PySem.Value.none, PySem.Value.ref (34 : Nat), PySem.Value.ref (35 : Nat), PySem.Value.ref (36 : Nat), PySem.Value.int (286 : Int) (0 : Nat), PySem.Value.int (2 : Int) (0 : Nat), PySem.Value.str (PySem.Str.ofString "/claim/cut.py") (287 : Nat)], slots := #[] }) ::
  (nat_lit 38, { cls := PySem.Value.type "function", dict := (none : Option Nat), data := PySem.Data.func { name := PySem.Str.ofString "_wall", qualname := PySem.Str.ofString "_wall", params := ?A1, body := PySem.FuncBody.stmts ?B1, scope := ?C1, globals := (3 : Nat), closure := [], defaults := PySem.Value.none, kwdefaults := PySem.Value.none, doc := PySem.Value.none, pyModule := PySem.Value.str (PySem.Str.ofString "__main__") (164 : Nat), annotations := none, code := PySem.Value.ref (37 : Nat), closureTuple := PySem.Value.none, builtins := (0 : Nat) }, slots := #[] }) ::
  (nat_lit 39, { cls := PySem.Value.type "tuple", dict := (none : Option Nat), data := PySem.Data.seq #[PySem.Value.type "Exception"], slots := #[] }) ::
  (nat_lit 46, { cls := PySem.Value.type "tuple", dict := (none : Option Nat), data := PySem.Data.seq #[], slots := #[] }) ::
  (nat_lit 47, { cls := PySem.Value.type "dict", dict := (none : Option Nat), data := PySem.Data.dict #[{ hash := PySem.PyData.keyHash P (PySem.Str.ofString "__module__"), key := PySem.Value.str (PySem.Str.ofString "__module__") (298 : Nat), val := PySem.Value.str (PySem.Str.ofString "cpy313.ftplib") (289 : Nat) }, { hash := PySem.PyData.keyHash P (PySem.Str.ofString "__firstlineno__"), key := PySem.Value.str (PySem.Str.ofString "__firstlineno__") (302 : Nat), val := PySem.Value.int (6 : Int) (301 : Nat) }, { hash := PySem.PyData.keyHash P (PySem.Str.ofString "__static_attributes__"), key := PySem.Value.str (PySem.Str.ofString "__static_attributes__") (303 : Nat), val := PySem.Value.ref (46 : Nat) }, { hash := PySem.PyData.keyHash P (PySem.Str.ofString "__weakref__"), key := PySem.Value.str (PySem.Str.ofString "__weakref__") (305 : Nat), val := PySem.Value.ref (49 : Nat) }, { hash := PySem.PyData.keyHash P (PySem.Str.ofString "__doc__"), key := PySem.Value.str (PySem.Str.ofString "__doc__") (306 : Nat), val := PySem.Value.none }] (3 : Nat), slots := #[] }) ::
  (nat_lit 48, { cls := PySem.Value.type "type", dict := (none : Option Nat), data := PySem.Data.cls { name := PySem.Str.ofString "Error", bases := [PySem.Value.type "Exception"], mro := [PySem.Value.ref (48 : Nat), PySem.Value.type "Exception", PySem.Value.type "BaseException", PySem.Value.type "object"], ns := (47 : Nat), qualname := PySem.Str.ofString "Error", hasDict := true, slotNames := [], subclasses := [PySem.Value.ref (61 : Nat)], abstract := false, collection := none, hasDel := false }, slots := #[some (PySem.Value.ref (39 : Nat)), none, some (PySem.Value.str (PySem.Str.ofString "Error") (291 : Nat)), some (PySem.Value.str (PySem.Str.ofString "Error") (299 : Nat)), some (PySem.Value.builtin "Exception.__new__"), some (PySem.Value.bool true)] }) ::
  (nat_lit 49, { cls := PySem.Value.type "getset_descriptor", dict := (none : Option Nat), data := PySem.Data.fields #[PySem.Value.str (PySem.Str.ofString "__weakref__") (304 : Nat), PySem.Value.ref (48 : Nat), PySem.Value.builtin "ExceptionGroup.__weakref__", PySem.Value.none], slots := #[] }) ::
  (nat_lit 52, { cls := PySem.Value.type "tuple", dict := (none : Option Nat), data := PySem.Data.seq #[PySem.Value.ref (48 : Nat)], slots := #[] }) ::
  (nat_lit 59, { cls := PySem.Value.type "tuple", dict := (none : Option Nat), data := PySem.Data.seq #[], slots := #[] }) ::
  (nat_lit 60, { cls := PySem.Value.type "dict", dict := (none : Option Nat), data := PySem.Data.dict #[{ hash := PySem.PyData.keyHash P (PySem.Str.ofString "__module__"), key := PySem.Value.str (PySem.Str.ofString "__module__") (318 : Nat), val := PySem.Value.str (PySem.Str.ofString "cpy313.ftplib") (289 : Nat) }, { hash := PySem.PyData.keyHash P (PySem.Str.ofString "__firstlineno__"), key := PySem.Value.str (PySem.Str.ofString "__firstlineno__") (322 : Nat), val := PySem.Value.int (8 : Int) (321 : Nat) }, { hash := PySem.PyData.keyHash P (PySem.Str.ofString "__static_attributes__"), key := PySem.Value.str (PySem.Str.ofString "__static_attributes__") (323 : Nat), val := PySem.Value.ref (59 : Nat) }, { hash := PySem.PyData.keyHash P (PySem.Str.ofString "__doc__"), key := PySem.Value.str (PySem.Str.ofString "__doc__") (324 : Nat), val := PySem.Value.none }] (2 : Nat), slots := #[] }) ::
  (nat_lit 61, { cls := PySem.Value.type "type", dict := (none : Option Nat), data := PySem.Data.cls { name := PySem.Str.ofString "error_reply", bases := [PySem.Value.ref (48 : Nat)], mro := [PySem.Value.ref (61 : Nat), PySem.Value.ref (48 : Nat), PySem.Value.type "Exception", PySem.Value.type "BaseException", PySem.Value.type "object"], ns := (60 : Nat), qualname := PySem.Str.ofString "error_reply", hasDict := true, slotNames := [], subclasses := [], abstract := false, collection := none, hasDel := false }, slots := #[some (PySem.Value.ref (52 : Nat)), none, some (PySem.Value.str (PySem.Str.ofString "error_reply") (311 : Nat)), some (PySem.Value.str (PySem.Str.ofString "error_reply") (319 : Nat)), some (PySem.Value.builtin "Exception.__new__"), some (PySem.Value.bool true)] }) ::
  (nat_lit 64, { cls := PySem.Value.type "tuple", dict := (none : Option Nat), data := PySem.Data.seq #[], slots := #[] }) ::
  (nat_lit 66, { cls := PySem.Value.type "tuple", dict := (none : Option Nat), data := PySem.Data.seq #[PySem.Value.str (PySem.Str.ofString "resp") (330 : Nat), PySem.Value.str (PySem.Str.ofString "dirname") (331 : Nat), PySem.Value.str (PySem.Str.ofString "i") (332 : Nat), PySem.Value.str (PySem.Str.ofString "n") (333 : Nat), PySem.Value.str (PySem.Str.ofString "c") (334 : Nat)], slots := #[] }) ::
  (nat_lit 67, { cls := PySem.Value.type "tuple", dict := (none : Option Nat), data := PySem.Data.seq #[], slots := #[] }) ::
  (nat_lit 69, { cls := PySem.Value.type "code", dict := (none : Option Nat), data := PySem.Data.fields #[PySem.Value.str (PySem.Str.ofString "parse257") (327 : Nat), PySem.Value.str (PySem.Str.ofString "parse257") (328 : Nat), PySem.Value.str (PySem.Str.ofString "/claim/cut.py") (329 : Nat), PySem.Value.int (10 : Int) (0 : Nat), PySem.Value.int (1 : Int) (0 : Nat), PySem.Value.int (0 : Int) (0 : Nat), PySem.Value.int (0 : Int) (0 : Nat), PySem.Value.int (3 : Int) (0 : Nat), PySem.Value.ref (64 : Nat), PySem.Value.bool true, PySem.Value.int (276 : Int) (0 : Nat), PySem.Value.ref (65 : Nat), PySem.Value.none, PySem.Value.ref (66 : Nat), PySem.Value.ref (67 : Nat), PySem.Value.ref (68 : Nat), PySem.Value.int (335 : Int) (0 : Nat), PySem.Value.int (10 : Int) (0 : Nat), PySem.Value.str (PySem.Str.ofString "/claim/cut.py") (336 : Nat)], slots := #[] }) ::
  (nat_lit 70, { cls := PySem.Value.type "function", dict := (none : Option Nat), data := PySem.Data.func { name := PySem.Str.ofString "parse257", qualname := PySem.Str.ofString "parse257", params := ?A5, body := PySem.FuncBody.stmts ?B5, scope := ?C5, globals := (3 : Nat), closure := [], defaults := PySem.Value.none, kwdefaults := PySem.Value.none, doc := PySem.Value.none, pyModule := PySem.Value.str (PySem.Str.ofString "cpy313.ftplib") (289 : Nat), annotations := none, code := PySem.Value.ref (69 : Nat), closureTuple := PySem.Value.none, builtins := (0 : Nat) }, slots := #[] }) ::
  (nat_lit 71, { cls := PySem.Value.type "tuple", dict := (none : Option Nat), data := PySem.Data.seq #[], slots := #[] }) ::
  (nat_lit 73, { cls := PySem.Value.type "tuple", dict := (none : Option Nat), data := PySem.Data.seq #[PySem.Value.str (PySem.Str.ofString "want") (345 : Nat), PySem.Value.str (PySem.Str.ofString "got") (346 : Nat), PySem.Value.str (PySem.Str.ofString "ws") (347 : Nat), PySem.Value.str (PySem.Str.ofString "startpos") (348 : Nat), PySem.Value.str (PySem.Str.ofString "endpos") (349 : Nat), PySem.Value.str (PySem.Str.ofString "w") (350 : Nat)], slots := #[] }) ::
  (nat_lit 74, { cls := PySem.Value.type "tuple", dict := (none : Option Nat), data := PySem.Data.seq #[], slots := #[] }) ::
  (nat_lit 76, { cls := PySem.Value.type "code", dict := (none : Option Nat), data := PySem.Data.fields #[PySem.Value.str (PySem.Str.ofString "_ellipsis_match") (342 : Nat), PySem.Value.str (PySem.Str.ofString "_ellipsis_match") (343 : Nat), PySem.Value.str (PySem.Str.ofString "/claim/cut.py") (344 : Nat), PySem.Value.int (29 : Int) (0 : Nat), PySem.Value.int (2 : Int) (0 : Nat), PySem.Value.int (0 : Int) (0 : Nat), PySem.Value.int (0 : Int) (0 : Nat), PySem.Value.int (3 : Int) (0 : Nat), PySem.Value.ref (71 : Nat), PySem.Value.bool true, PySem.Value.int (276 : Int) (0 : Nat), PySem.Value.ref (72 : Nat), PySem.Value.none, PySem.Value.ref (73 : Nat), PySem.Value.ref (74 : Nat), PySem.Value.ref (75 : Nat), PySem.Value.int (351 : Int) (0 : Nat), PySem.Value.int (29 : Int) (0 : Nat), PySem.Value.str (PySem.Str.ofString "/claim/cut.py") (352 : Nat)], slots := #[] }) ::
  (nat_lit 77, { cls := PySem.Value.type "function", dict := (none : Option Nat), data := PySem.Data.func { name := PySem.Str.ofString "_ellipsis_match", qualname := PySem.Str.ofString "_ellipsis_match", params := ?A8, body := PySem.FuncBody.stmts ?B8, scope := ?C8, globals := (3 : Nat), closure := [], defaults := PySem.Value.none, kwdefaults := PySem.Value.none, doc := PySem.Value.none, pyModule := PySem.Value.str (PySem.Str.ofString "cpy313.doctest") (338 : Nat), annotations := none, code := PySem.Value.ref (76 : Nat), closureTuple := PySem.Value.none, builtins := (0 : Nat) }, slots := #[] }) ::
  (nat_lit 81, { cls := PySem.Value.type "tuple", dict := (none : Option Nat), data := PySem.Data.seq #[PySem.Value.int (14 : Int) (0 : Nat), PySem.Value.int (10 : Int) (0 : Nat), PySem.Value.int (4 : Int) (0 : Nat), PySem.Value.int (1 : Int) (0 : Nat), PySem.Value.int (1 : Int) (0 : Nat), PySem.Value.int (22 : Int) (0 : Nat), PySem.Value.int (0 : Int) (0 : Nat), PySem.Value.int (31 : Int) (0 : Nat), PySem.Value.int (16 : Int) (0 : Nat), PySem.Value.int (127 : Int) (0 : Nat), PySem.Value.int (0 : Int) (0 : Nat), PySem.Value.int (13 : Int) (0 : Nat), PySem.Value.int (7 : Int) (0 : Nat), PySem.Value.int (22 : Int) (0 : Nat), PySem.Value.int (0 : Int) (0 : Nat), PySem.Value.int (31 : Int) (0 : Nat), PySem.Value.int (16 : Int) (0 : Nat), PySem.Value.int (127 : Int) (0 : Nat), PySem.Value.int (0 : Int) (0 : Nat), PySem.Value.int (1 : Int) (0 : Nat)], slots := #[] }) ::
  (nat_lit 82, { cls := PySem.Value.type "re.Pattern", dict := (none : Option Nat), data := PySem.Data.fields #[PySem.Value.str (PySem.Str.ofString "[\\x00-\\x1F\\x7F]") (357 : Nat), PySem.Value.int (32 : Int) (380 : Nat), PySem.Value.int (0 : Int) (0 : Nat), PySem.Value.none, PySem.Value.none, PySem.Value.ref (81 : Nat), PySem.Value.int (0 : Int) (0 : Nat)], slots := #[] }) ::
  (nat_lit 86, { cls := PySem.Value.type "tuple", dict := (none : Option Nat), data := PySem.Data.seq #[PySem.Value.int (14 : Int) (0 : Nat), PySem.Value.int (14 : Int) (0 : Nat), PySem.Value.int (4 : Int) (0 : Nat), PySem.Value.int (1 : Int) (0 : Nat), PySem.Value.int (1 : Int) (0 : Nat), PySem.Value.int (9 : Int) (0 : Nat), PySem.Value.int (4294966783 : Int) (0 : Nat), PySem.Value.int (0 : Int) (0 : Nat), PySem.Value.int (0 : Int) (0 : Nat), PySem.Value.int (2147483648 : Int) (0 : Nat), PySem.Value.int (0 : Int) (0 : Nat), PySem.Value.int (0 : Int) (0 : Nat), PySem.Value.int (0 : Int) (0 : Nat), PySem.Value.int (0 : Int) (0 : Nat), PySem.Value.int (0 : Int) (0 : Nat), PySem.Value.int (13 : Int) (0 : Nat), PySem.Value.int (11 : Int) (0 : Nat), PySem.Value.int (9 : Int) (0 : Nat), PySem.Value.int (4294966783 : Int) (0 : Nat), PySem.Value.int (0 : Int) (0 : Nat), PySem.Value.int (0 : Int) (0 : Nat), PySem.Value.int (2147483648 : Int) (0 : Nat), PySem.Value.int (0 : Int) (0 : Nat), PySem.Value.int (0 : Int) (0 : Nat), PySem.Value.int (0 : Int) (0 : Nat), PySem.Value.int (0 : Int) (0 : Nat), PySem.Value.int (0 : Int) (0 : Nat), PySem.Value.int (1 : Int) (0 : Nat)], slots := #[] }) ::
  (nat_lit 87, { cls := PySem.Value.type "re.Pattern", dict := (none : Option Nat), data := PySem.Data.fields #[PySem.Value.str (PySem.Str.ofString "[\\x00-\\x08\\x0A-\\x1F\\x7F]") (383 : Nat), PySem.Value.int (32 : Int) (414 : Nat), PySem.Value.int (0 : Int) (0 : Nat), PySem.Value.none, PySem.Value.none, PySem.Value.ref (86 : Nat), PySem.Value.int (0 : Int) (0 : Nat)], slots := #[] }) ::
  (nat_lit 95, { cls := PySem.Value.type "tuple", dict := (none : Option Nat), data := PySem.Data.seq #[PySem.Value.none], slots := #[] }) ::
  (nat_lit 96, { cls := PySem.Value.type "tuple", dict := (none : Option Nat), data := PySem.Data.seq #[], slots := #[] }) ::
  (nat_lit 98, { cls := PySem.Value.type "tuple", dict := (none : Option Nat), data := PySem.Data.seq #[PySem.Value.str (PySem.Str.ofString "self") (431 : Nat), PySem.Value.str (PySem.Str.ofString "headers") (432 : Nat), PySem.Value.str (PySem.Str.ofString "k") (433 : Nat), PySem.Value.str (PySem.Str.ofString "v") (434 : Nat)], slots := #[] }) ::
  (nat_lit 99, { cls := PySem.Value.type "tuple", dict := (none : Option Nat), data := PySem.Data.seq #[], slots := #[] }) ::
  (nat_lit 101, { cls := PySem.Value.type "code", dict := (none : Option Nat), data := PySem.Data.fields #[PySem.Value.str (PySem.Str.ofString "__init__") (428 : Nat), PySem.Value.str (PySem.Str.ofString "Headers.__init__") (429 : Nat), PySem.Value.str (PySem.Str.ofString "/claim/cut.py") (430 : Nat), PySem.Value.int (62 : Int) (0 : Nat), PySem.Value.int (2 : Int) (0 : Nat), PySem.Value.int (0 : Int) (0 : Nat), PySem.Value.int (0 : Int) (0 : Nat), PySem.Value.int (3 : Int) (0 : Nat), PySem.Value.ref (96 : Nat), PySem.Value.bool true, PySem.Value.int (276 : Int) (0 : Nat), PySem.Value.ref (97 : Nat), PySem.Value.none, PySem.Value.ref (98 : Nat), PySem.Value.ref (99 : Nat), PySem.Value.ref (100 : Nat), PySem.Value.int (435 : Int) (0 : Nat), PySem.Value.int (62 : Int) (0 : Nat), PySem.Value.str (PySem.Str.ofString "/claim/cut.py") (436 : Nat)], slots := #[] }) ::
  (nat_lit 102, { cls := PySem.Value.type "function", dict := (none : Option Nat), data := PySem.Data.func { name := PySem.Str.ofString "__init__", qualname := PySem.Str.ofString "Headers.__init__", params := ?A12x0, body := PySem.FuncBody.stmts ?B12x0, scope := ?C12x0, globals := (3 : Nat), closure := [], defaults := PySem.Value.ref (95 : Nat), kwdefaults := PySem.Value.none, doc := PySem.Value.none, pyModule := PySem.Value.str (PySem.Str.ofString "cpy313.wsgiref.headers") (354 : Nat), annotations := none, code := PySem.Value.ref (101 : Nat), closureTuple := PySem.Value.none, builtins := (0 : Nat) }, slots := #[] }) ::
  (nat_lit 103, { cls := PySem.Value.type "tuple", dict := (none : Option Nat), data := PySem.Data.seq #[], slots := #[] }) ::
  (nat_lit 105, { cls := PySem.Value.type "tuple", dict := (none : Option Nat), data := PySem.Data.seq #[PySem.Value.str (PySem.Str.ofString "self") (441 : Nat), PySem.Value.str (PySem.Str.ofString "value") (442 : Nat), PySem.Value.str (PySem.Str.ofString "name") (443 : Nat), PySem.Value.str (PySem.Str.ofString "regex") (444 : Nat)], slots := #[] }) ::
  (nat_lit 106, { cls := PySem.Value.type "tuple", dict := (none : Option Nat), data := PySem.Data.seq #[], slots := #[] }) ::
  (nat_lit 108, { cls := PySem.Value.type "code", dict := (none : Option Nat), data := PySem.Data.fields #[PySem.Value.str (PySem.Str.ofString "_convert_string_type") (438 : Nat), PySem.Value.str (PySem.Str.ofString "Headers._convert_string_type") (439 : Nat), PySem.Value.str (PySem.Str.ofString "/claim/cut.py") (440 : Nat), PySem.Value.int (72 : Int) (0 : Nat), PySem.Value.int (2 : Int) (0 : Nat), PySem.Value.int (0 : Int) (0 : Nat), PySem.Value.int (1 : Int) (0 : Nat), PySem.Value.int (3 : Int) (0 : Nat), PySem.Value.ref (103 : Nat), PySem.Value.bool true, PySem.Value.int (276 : Int) (0 : Nat), PySem.Value.ref (104 : Nat), PySem.Value.none, PySem.Value.ref (105 : Nat), PySem.Value.ref (106 : Nat), PySem.Value.ref (107 : Nat), PySem.Value.int (445 : Int) (0 : Nat), PySem.Value.int (72 : Int) (0 : Nat), PySem.Value.str (PySem.Str.ofString "/claim/cut.py") (446 : Nat)], slots := #[] }) ::
  (nat_lit 109, { cls := PySem.Value.type "function", dict := (none : Option Nat), data := PySem.Data.func { name := PySem.Str.ofString "_convert_string_type", qualname := PySem.Str.ofString "Headers._convert_string_type", params := ?A12x1, body := PySem.FuncBody.stmts ?B12x1, scope := ?C12x1, globals := (3 : Nat), closure := [], defaults := PySem.Value.none, kwdefaults := PySem.Value.none, doc := PySem.Value.none, pyModule := PySem.Value.str (PySem.Str.ofString "cpy313.wsgiref.headers") (354 : Nat), annotations := none, code := PySem.Value.ref (108 : Nat), closureTuple := PySem.Value.none, builtins := (0 : Nat) }, slots := #[] }) ::
  (nat_lit 110, { cls := PySem.Value.type "tuple", dict := (none : Option Nat), data := PySem.Data.seq #[], slots := #[] }) ::
  (nat_lit 112, { cls := PySem.Value.type "tuple", dict := (none : Option Nat), data := PySem.Data.seq #[PySem.Value.str (PySem.Str.ofString "self") (451 : Nat)], slots := #[] }) ::
  (nat_lit 113, { cls := PySem.Value.type "tuple", dict := (none : Option Nat), data := PySem.Data.seq #[], slots := #[] }) ::
  (nat_lit 115, { cls := PySem.Value.type "code", dict := (none : Option Nat), data := PySem.Data.fields #[PySem.Value.str (PySem.Str.ofString "__len__") (448 : Nat), PySem.Value.str (PySem.Str.ofString "Headers.__len__") (449 : Nat), PySem.Value.str (PySem.Str.ofString "/claim/cut.py") (450 : Nat), PySem.Value.int (80 : Int) (0 : Nat), PySem.Value.int (1 : Int) (0 : Nat), PySem.Value.int (0 : Int) (0 : Nat), PySem.Value.int (0 : Int) (0 : Nat), PySem.Value.int (3 : Int) (0 : Nat), PySem.Value.ref (110 : Nat), PySem.Value.bool true, PySem.Value.int (276 : Int) (0 : Nat), PySem.Value.ref (111 : Nat), PySem.Value.none, PySem.Value.ref (112 : Nat), PySem.Value.ref (113 : Nat), PySem.Value.ref (114 : Nat), PySem.Value.int (452 : Int) (0 : Nat), PySem.Value.int (80 : Int) (0 : Nat), PySem.Value.str (PySem.Str.ofString "/claim/cut.py") (453 : Nat)], slots := #[] }) ::
  (nat_lit 116, { cls := PySem.Value.type "function", dict := (none : Option Nat), data := PySem.Data.func { name := PySem.Str.ofString "__len__", qualname := PySem.Str.ofString "Headers.__len__", params := ?A12x2, body := PySem.FuncBody.stmts ?B12x2, scope := ?C12x2, globals := (3 : Nat), closure := [], defaults := PySem.Value.none, kwdefaults := PySem.Value.none, doc := PySem.Value.none, pyModule := PySem.Value.str (PySem.Str.ofString "cpy313.wsgiref.headers") (354 : Nat), annotations := none, code := PySem.Value.ref (115 : Nat), closureTuple := PySem.Value.none, builtins := (0 : Nat) }, slots := #[] }) ::
  (nat_lit 117, { cls := PySem.Value.type "tuple", dict := (none : Option Nat), data := PySem.Data.seq #[], slots := #[] }) ::
  (nat_lit 119, { cls := PySem.Value.type "tuple", dict := (none : Option Nat), data := PySem.Data.seq #[PySem.Value.str (PySem.Str.ofString "self") (458 : Nat), PySem.Value.str (PySem.Str.ofString "name") (459 : Nat), PySem.Value.str (PySem.Str.ofString "val") (460 : Nat)], slots := #[] }) ::
  (nat_lit 120, { cls := PySem.Value.type "tuple", dict := (none : Option Nat), data := PySem.Data.seq #[], slots := #[] }) ::
  (nat_lit 122, { cls := PySem.Value.type "code", dict := (none : Option Nat), data := PySem.Data.fields #[PySem.Value.str (PySem.Str.ofString "__setitem__") (455 : Nat), PySem.Value.str (PySem.Str.ofString "Headers.__setitem__") (456 : Nat), PySem.Value.str (PySem.Str.ofString "/claim/cut.py") (457 : Nat), PySem.Value.int (83 : Int) (0 : Nat), PySem.Value.int (3 : Int) (0 : Nat), PySem.Value.int (0 : Int) (0 : Nat), PySem.Value.int (0 : Int) (0 : Nat), PySem.Value.int (3 : Int) (0 : Nat), PySem.Value.ref (117 : Nat), PySem.Value.bool true, PySem.Value.int (276 : Int) (0 : Nat), PySem.Value.ref (118 : Nat), PySem.Value.none, PySem.Value.ref (119 : Nat), PySem.Value.ref (120 : Nat), PySem.Value.ref (121 : Nat), PySem.Value.int (461 : Int) (0 : Nat), PySem.Value.int (83 : Int) (0 : Nat), PySem.Value.str (PySem.Str.ofString "/claim/cut.py") (462 : Nat)], slots := #[] }) ::
  (nat_lit 123, { cls := PySem.Value.type "function", dict := (none : Option Nat), data := PySem.Data.func { name := PySem.Str.ofString "__setitem__", qualname := PySem.Str.ofString "Headers.__setitem__", params := ?A12x3, body := PySem.FuncBody.stmts ?B12x3, scope := ?C12x3, globals := (3 : Nat), closure := [], defaults := PySem.Value.none, kwdefaults := PySem.Value.none, doc := PySem.Value.none, pyModule := PySem.Value.str (PySem.Str.ofString "cpy313.wsgiref.headers") (354 : Nat), annotations := none, code := PySem.Value.ref (122 : Nat), closureTuple := PySem.Value.none, builtins := (0 : Nat) }, slots := #[] }) ::
  (nat_lit 124, { cls := PySem.Value.type "tuple", dict := (none : Option Nat), data := PySem.Data.seq #[], slots := #[] }) ::
  (nat_lit 127, { cls := PySem.Value.type "code", dict := (none : Option Nat), data := PySem.Data.fields #[PySem.Value.str (PySem.Str.ofString "__delitem__") (464 : Nat), PySem.Value.str (PySem.Str.ofString "Headers.__delitem__") (465 : Nat), PySem.Value.str (PySem.Str.ofString "/claim/cut.py") (466 : Nat), PySem.Value.int (87 : Int) (0 : Nat), PySem.Value.int (2 : Int) (0 : Nat), PySem.Value.int (0 : Int) (0 : Nat), PySem.Value.int (0 : Int) (0 : Nat), PySem.Value.int (3 : Int) (0 : Nat), PySem.Value.ref (124 : Nat), PySem.Value.bool true, PySem.Value.int (276 : Int) (0 : Nat), PySem.Value.ref (125 : Nat), PySem.Value.none, PySem.Value.none, PySem.Value.none, PySem.Value.ref (126 : Nat), PySem.Value.int (467 : Int) (0 : Nat), PySem.Value.int (87 : Int) (0 : Nat), PySem.Value.str (PySem.Str.ofString "/claim/cut.py") (468 : Nat)], slots := #[] }) ::
  (nat_lit 128, { cls := PySem.Value.type "function", dict := (none : Option Nat), data := PySem.Data.func { name := PySem.Str.ofString "__delitem__", qualname := PySem.Str.ofString "Headers.__delitem__", params := ?A12x4, body := PySem.FuncBody.stmts ?B12x4, scope := ?C12x4, globals := (3 : Nat), closure := [], defaults := PySem.Value.none, kwdefaults := PySem.Value.none, doc := PySem.Value.none, pyModule := PySem.Value.str (PySem.Str.ofString "cpy313.wsgiref.headers") (354 : Nat), annotations := none, code := PySem.Value.ref (127 : Nat), closureTuple := PySem.Value.none, builtins := (0 : Nat) }, slots := #[] }) ::
  (nat_lit 129, { cls := PySem.Value.type "tuple", dict := (none : Option Nat), data := PySem.Data.seq #[], slots := #[] }) ::
  (nat_lit 131, { cls := PySem.Value.type "tuple", dict := (none : Option Nat), data := PySem.Data.seq #[PySem.Value.str (PySem.Str.ofString "self") (473 : Nat), PySem.Value.str (PySem.Str.ofString "name") (474 : Nat)], slots := #[] }) ::
  (nat_lit 132, { cls := PySem.Value.type "tuple", dict := (none : Option Nat), data := PySem.Data.seq #[], slots := #[] }) ::
  (nat_lit 134, { cls := PySem.Value.type "code", dict := (none : Option Nat), data := PySem.Data.fields #[PySem.Value.str (PySem.Str.ofString "__getitem__") (470 : Nat), PySem.Value.str (PySem.Str.ofString "Headers.__getitem__") (471 : Nat), PySem.Value.str (PySem.Str.ofString "/claim/cut.py") (472 : Nat), PySem.Value.int (91 : Int) (0 : Nat), PySem.Value.int (2 : Int) (0 : Nat), PySem.Value.int (0 : Int) (0 : Nat), PySem.Value.int (0 : Int) (0 : Nat), PySem.Value.int (3 : Int) (0 : Nat), PySem.Value.ref (129 : Nat), PySem.Value.bool true, PySem.Value.int (276 : Int) (0 : Nat), PySem.Value.ref (130 : Nat), PySem.Value.none, PySem.Value.ref (131 : Nat), PySem.Value.ref (132 : Nat), PySem.Value.ref (133 : Nat), PySem.Value.int (475 : Int) (0 : Nat), PySem.Value.int (91 : Int) (0 : Nat), PySem.Value.str (PySem.Str.ofString "/claim/cut.py") (476 : Nat)], slots := #[] }) ::
  (nat_lit 135, { cls := PySem.Value.type "function", dict := (none : Option Nat), data := PySem.Data.func { name := PySem.Str.ofString "__getitem__", qualname := PySem.Str.ofString "Headers.__getitem__", params := ?A12x5, body := PySem.FuncBody.stmts ?B12x5, scope := ?C12x5, globals := (3 : Nat), closure := [], defaults := PySem.Value.none, kwdefaults := PySem.Value.none, doc := PySem.Value.none, pyModule := PySem.Value.str (PySem.Str.ofString "cpy313.wsgiref.headers") (354 : Nat), annotations := none, code := PySem.Value.ref (134 : Nat), closureTuple := PySem.Value.none, builtins := (0 : Nat) }, slots := #[] }) ::
  (nat_lit 136, { cls := PySem.Value.type "tuple", dict := (none : Option Nat), data := PySem.Data.seq #[], slots := #[] }) ::
  (nat_lit 138, { cls := PySem.Value.type "tuple", dict := (none : Option Nat), data := PySem.Data.seq #[PySem.Value.str (PySem.Str.ofString "self") (481 : Nat), PySem.Value.str (PySem.Str.ofString "name") (482 : Nat)], slots := #[] }) ::
  (nat_lit 139, { cls := PySem.Value.type "tuple", dict := (none : Option Nat), data := PySem.Data.seq #[], slots := #[] }) ::
  (nat_lit 141, { cls := PySem.Value.type "code", dict := (none : Option Nat), data := PySem.Data.fields #[PySem.Value.str (PySem.Str.ofString "__contains__") (478 : Nat), PySem.Value.str (PySem.Str.ofString "Headers.__contains__") (479 : Nat), PySem.Value.str (PySem.Str.ofString "/claim/cut.py") (480 : Nat), PySem.Value.int (94 : Int) (0 : Nat), PySem.Value.int (2 : Int) (0 : Nat), PySem.Value.int (0 : Int) (0 : Nat), PySem.Value.int (0 : Int) (0 : Nat), PySem.Value.int (3 : Int) (0 : Nat), PySem.Value.ref (136 : Nat), PySem.Value.bool true, PySem.Value.int (276 : Int) (0 : Nat), PySem.Value.ref (137 : Nat), PySem.Value.none, PySem.Value.ref (138 : Nat), PySem.Value.ref (139 : Nat), PySem.Value.ref (140 : Nat), PySem.Value.int (483 : Int) (0 : Nat), PySem.Value.int (94 : Int) (0 : Nat), PySem.Value.str (PySem.Str.ofString "/claim/cut.py") (484 : Nat)], slots := #[] }) ::
  (nat_lit 142, { cls := PySem.Value.type "function", dict := (none : Option Nat), data := PySem.Data.func { name := PySem.Str.ofString "__contains__", qualname := PySem.Str.ofString "Headers.__contains__", params := ?A12x6, body := PySem.FuncBody.stmts ?B12x6, scope := ?C12x5, globals := (3 : Nat), closure := [], defaults := PySem.Value.none, kwdefaults := PySem.Value.none, doc := PySem.Value.none, pyModule := PySem.Value.str (PySem.Str.ofString "cpy313.wsgiref.headers") (354 : Nat), annotations := none, code := PySem.Value.ref (141 : Nat), closureTuple := PySem.Value.none, builtins := (0 : Nat) }, slots := #[] }) ::
  (nat_lit 143, { cls := PySem.Value.type "tuple", dict := (none : Option Nat), data := PySem.Data.seq #[], slots := #[] }) ::
  (nat_lit 145, { cls := PySem.Value.type "tuple", dict := (none : Option Nat), data := PySem.Data.seq #[PySem.Value.str (PySem.Str.ofString "self") (489 : Nat), PySem.Value.str (PySem.Str.ofString "name") (490 : Nat)], slots := #[] }) ::
  (nat_lit 146, { cls := PySem.Value.type "tuple", dict := (none : Option Nat), data := PySem.Data.seq #[], slots := #[] }) ::
  (nat_lit 148, { cls := PySem.Value.type "code", dict := (none : Option Nat), data := PySem.Data.fields #[PySem.Value.str (PySem.Str.ofString "get_all") (486 : Nat), PySem.Value.str (PySem.Str.ofString "Headers.get_all") (487 : Nat), PySem.Value.str (PySem.Str.ofString "/claim/cut.py") (488 : Nat), PySem.Value.int (97 : Int) (0 : Nat), PySem.Value.int (2 : Int) (0 : Nat), PySem.Value.int (0 : Int) (0 : Nat), PySem.Value.int (0 : Int) (0 : Nat), PySem.Value.int (3 : Int) (0 : Nat), PySem.Value.ref (143 : Nat), PySem.Value.bool true, PySem.Value.int (276 : Int) (0 : Nat), PySem.Value.ref (144 : Nat), PySem.Value.none, PySem.Value.ref (145 : Nat), PySem.Value.ref (146 : Nat), PySem.Value.ref (147 : Nat), PySem.Value.int (491 : Int) (0 : Nat), PySem.Value.int (97 : Int) (0 : Nat), PySem.Value.str (PySem.Str.ofString "/claim/cut.py") (492 : Nat)], slots := #[] }) ::
  (nat_lit 149, { cls := PySem.Value.type "function", dict := (none : Option Nat), data := PySem.Data.func { name := PySem.Str.ofString "get_all", qualname := PySem.Str.ofString "Headers.get_all", params := ?A12x7, body := PySem.FuncBody.stmts ?B12x7, scope := ?C12x7, globals := (3 : Nat), closure := [], defaults := PySem.Value.none, kwdefaults := PySem.Value.none, doc := PySem.Value.none, pyModule := PySem.Value.str (PySem.Str.ofString "cpy313.wsgiref.headers") (354 : Nat), annotations := none, code := PySem.Value.ref (148 : Nat), closureTuple := PySem.Value.none, builtins := (0 : Nat) }, slots := #[] }) ::
  (nat_lit 150, { cls := PySem.Value.type "tuple", dict := (none : Option Nat), data := PySem.Data.seq #[PySem.Value.none], slots := #[] }) ::
  (nat_lit 151, { cls := PySem.Value.type "tuple", dict := (none : Option Nat), data := PySem.Data.seq #[], slots := #[] }) ::
  (nat_lit 153, { cls := PySem.Value.type "tuple", dict := (none : Option Nat), data := PySem.Data.seq #[PySem.Value.str (PySem.Str.ofString "self") (497 : Nat), PySem.Value.str (PySem.Str.ofString "name") (498 : Nat), PySem.Value.str (PySem.Str.ofString "default") (499 : Nat), PySem.Value.str (PySem.Str.ofString "k") (500 : Nat), PySem.Value.str (PySem.Str.ofString "v") (501 : Nat)], slots := #[] }) ::
  (nat_lit 154, { cls := PySem.Value.type "tuple", dict := (none : Option Nat), data := PySem.Data.seq #[], slots := #[] }) ::
  (nat_lit 156, { cls := PySem.Value.type "code", dict := (none : Option Nat), data := PySem.Data.fields #[PySem.Value.str (PySem.Str.ofString "get") (494 : Nat), PySem.Value.str (PySem.Str.ofString "Headers.get") (495 : Nat), PySem.Value.str (PySem.Str.ofString "/claim/cut.py") (496 : Nat), PySem.Value.int (100 : Int) (0 : Nat), PySem.Value.int (3 : Int) (0 : Nat), PySem.Value.int (0 : Int) (0 : Nat), PySem.Value.int (0 : Int) (0 : Nat), PySem.Value.int (3 : Int) (0 : Nat), PySem.Value.ref (151 : Nat), PySem.Value.bool true, PySem.Value.int (276 : Int) (0 : Nat), PySem.Value.ref (152 : Nat), PySem.Value.none, PySem.Value.ref (153 : Nat), PySem.Value.ref (154 : Nat), PySem.Value.ref (155 : Nat), PySem.Value.int (502 : Int) (0 : Nat), PySem.Value.int (100 : Int) (0 : Nat), PySem.Value.str (PySem.Str.ofString "/claim/cut.py") (503 : Nat)], slots := #[] }) ::
  (nat_lit 157, { cls := PySem.Value.type "function", dict := (none : Option Nat), data := PySem.Data.func { name := PySem.Str.ofString "get", qualname := PySem.Str.ofString "Headers.get", params := ?A12x8, body := PySem.FuncBody.stmts ?B12x8, scope := ?C12x8, globals := (3 : Nat), closure := [], defaults := PySem.Value.ref (150 : Nat), kwdefaults := PySem.Value.none, doc := PySem.Value.none, pyModule := PySem.Value.str (PySem.Str.ofString "cpy313.wsgiref.headers") (354 : Nat), annotations := none, code := PySem.Value.ref (156 : Nat), closureTuple := PySem.Value.none, builtins := (0 : Nat) }, slots := #[] }) ::
  (nat_lit 158, { cls := PySem.Value.type "tuple", dict := (none : Option Nat), data := PySem.Data.seq #[], slots := #[] }) ::
  (nat_lit 161, { cls := PySem.Value.type "code", dict := (none : Option Nat), data := PySem.Data.fields #[PySem.Value.str (PySem.Str.ofString "keys") (505 : Nat), PySem.Value.str (PySem.Str.ofString "Headers.keys") (506 : Nat), PySem.Value.str (PySem.Str.ofString "/claim/cut.py") (507 : Nat), PySem.Value.int (107 : Int) (0 : Nat), PySem.Value.int (1 : Int) (0 : Nat), PySem.Value.int (0 : Int) (0 : Nat), PySem.Value.int (0 : Int) (0 : Nat), PySem.Value.int (3 : Int) (0 : Nat), PySem.Value.ref (158 : Nat), PySem.Value.bool true, PySem.Value.int (276 : Int) (0 : Nat), PySem.Value.ref (159 : Nat), PySem.Value.none, PySem.Value.none, PySem.Value.none, PySem.Value.ref (160 : Nat), PySem.Value.int (508 : Int) (0 : Nat), PySem.Value.int (107 : Int) (0 : Nat), PySem.Value.str (PySem.Str.ofString "/claim/cut.py") (509 : Nat)], slots := #[] }) ::
  (nat_lit 162, { cls := PySem.Value.type "function", dict := (none : Option Nat), data := PySem.Data.func { name := PySem.Str.ofString "keys", qualname := PySem.Str.ofString "Headers.keys", params := ?A12x9, body := PySem.FuncBody.stmts ?B12x9, scope := ?C12x9, globals := (3 : Nat), closure := [], defaults := PySem.Value.none, kwdefaults := PySem.Value.none, doc := PySem.Value.none, pyModule := PySem.Value.str (PySem.Str.ofString "cpy313.wsgiref.headers") (354 : Nat), annotations := none, code := PySem.Value.ref (161 : Nat), closureTuple := PySem.Value.none, builtins := (0 : Nat) }, slots := #[] }) ::
  (nat_lit 163, { cls := PySem.Value.type "tuple", dict := (none : Option Nat), data := PySem.Data.seq #[], slots := #[] }) ::
  (nat_lit 166, { cls := PySem.Value.type "code", dict := (none : Option Nat), data := PySem.Data.fields #[PySem.Value.str (PySem.Str.ofString "values") (511 : Nat), PySem.Value.str (PySem.Str.ofString "Headers.values") (512 : Nat), PySem.Value.str (PySem.Str.ofString "/claim/cut.py") (513 : Nat), PySem.Value.int (110 : Int) (0 : Nat), PySem.Value.int (1 : Int) (0 : Nat), PySem.Value.int (0 : Int) (0 : Nat), PySem.Value.int (0 : Int) (0 : Nat), PySem.Value.int (3 : Int) (0 : Nat), PySem.Value.ref (163 : Nat), PySem.Value.bool true, PySem.Value.int (276 : Int) (0 : Nat), PySem.Value.ref (164 : Nat), PySem.Value.none, PySem.Value.none, PySem.Value.none, PySem.Value.ref (165 : Nat), PySem.Value.int (514 : Int) (0 : Nat), PySem.Value.int (110 : Int) (0 : Nat), PySem.Value.str (PySem.Str.ofString "/claim/cut.py") (515 : Nat)], slots := #[] }) ::
  (nat_lit 167, { cls := PySem.Value.type "function", dict := (none : Option Nat), data := PySem.Data.func { name := PySem.Str.ofString "values", qualname := PySem.Str.ofString "Headers.values", params := ?A12x10, body := PySem.FuncBody.stmts ?B12x10, scope := ?C12x9, globals := (3 : Nat), closure := [], defaults := PySem.Value.none, kwdefaults := PySem.Value.none, doc := PySem.Value.none, pyModule := PySem.Value.str (PySem.Str.ofString "cpy313.wsgiref.headers") (354 : Nat), annotations := none, code := PySem.Value.ref (166 : Nat), closureTuple := PySem.Value.none, builtins := (0 : Nat) }, slots := #[] }) ::
  (nat_lit 168, { cls := PySem.Value.type "tuple", dict := (none : Option Nat), data := PySem.Data.seq #[], slots := #[] }) ::
  (nat_lit 170, { cls := PySem.Value.type "tuple", dict := (none : Option Nat), data := PySem.Data.seq #[PySem.Value.str (PySem.Str.ofString "self") (520 : Nat)], slots := #[] }) ::
  (nat_lit 171, { cls := PySem.Value.type "tuple", dict := (none : Option Nat), data := PySem.Data.seq #[], slots := #[] }) ::
  (nat_lit 173, { cls := PySem.Value.type "code", dict := (none : Option Nat), data := PySem.Data.fields #[PySem.Value.str (PySem.Str.ofString "items") (517 : Nat), PySem.Value.str (PySem.Str.ofString "Headers.items") (518 : Nat), PySem.Value.str (PySem.Str.ofString "/claim/cut.py") (519 : Nat), PySem.Value.int (113 : Int) (0 : Nat), PySem.Value.int (1 : Int) (0 : Nat), PySem.Value.int (0 : Int) (0 : Nat), PySem.Value.int (0 : Int) (0 : Nat), PySem.Value.int (3 : Int) (0 : Nat), PySem.Value.ref (168 : Nat), PySem.Value.bool true, PySem.Value.int (276 : Int) (0 : Nat), PySem.Value.ref (169 : Nat), PySem.Value.none, PySem.Value.ref (170 : Nat), PySem.Value.ref (171 : Nat), PySem.Value.ref (172 : Nat), PySem.Value.int (521 : Int) (0 : Nat), PySem.Value.int (113 : Int) (0 : Nat), PySem.Value.str (PySem.Str.ofString "/claim/cut.py") (522 : Nat)], slots := #[] }) ::
  (nat_lit 174, { cls := PySem.Value.type "function", dict := (none : Option Nat), data := PySem.Data.func { name := PySem.Str.ofString "items", qualname := PySem.Str.ofString "Headers.items", params := ?A12x11, body := PySem.FuncBody.stmts ?B12x11, scope := ?C12x11, globals := (3 : Nat), closure := [], defaults := PySem.Value.none, kwdefaults := PySem.Value.none, doc := PySem.Value.none, pyModule := PySem.Value.str (PySem.Str.ofString "cpy313.wsgiref.headers") (354 : Nat), annotations := none, code := PySem.Value.ref (173 : Nat), closureTuple := PySem.Value.none, builtins := (0 : Nat) }, slots := #[] }) ::
  (nat_lit 175, { cls := PySem.Value.type "tuple", dict := (none : Option Nat), data := PySem.Data.seq #[], slots := #[] }) ::
  (nat_lit 177, { cls := PySem.Value.type "tuple", dict := (none : Option Nat), data := PySem.Data.seq #[PySem.Value.str (PySem.Str.ofString "self") (527 : Nat)], slots := #[] }) ::
  (nat_lit 178, { cls := PySem.Value.type "tuple", dict := (none : Option Nat), data := PySem.Data.seq #[], slots := #[] }) ::
  (nat_lit 180, { cls := PySem.Value.type "code", dict := (none : Option Nat), data := PySem.Data.fields #[PySem.Value.str (PySem.Str.ofString "__repr__") (524 : Nat), PySem.Value.str (PySem.Str.ofString "Headers.__repr__") (525 : Nat), PySem.Value.str (PySem.Str.ofString "/claim/cut.py") (526 : Nat), PySem.Value.int (116 : Int) (0 : Nat), PySem.Value.int (1 : Int) (0 : Nat), PySem.Value.int (0 : Int) (0 : Nat), PySem.Value.int (0 : Int) (0 : Nat), PySem.Value.int (3 : Int) (0 : Nat), PySem.Value.ref (175 : Nat), PySem.Value.bool true, PySem.Value.int (276 : Int) (0 : Nat), PySem.Value.ref (176 : Nat), PySem.Value.none, PySem.Value.ref (177 : Nat), PySem.Value.ref (178 : Nat), PySem.Value.ref (179 : Nat), PySem.Value.int (528 : Int) (0 : Nat), PySem.Value.int (116 : Int) (0 : Nat), PySem.Value.str (PySem.Str.ofString "/claim/cut.py") (529 : Nat)], slots := #[] }) ::
  (nat_lit 181, { cls := PySem.Value.type "function", dict := (none : Option Nat), data := PySem.Data.func { name := PySem.Str.ofString "__repr__", qualname := PySem.Str.ofString "Headers.__repr__", params := ?A12x12, body := PySem.FuncBody.stmts ?B12x12, scope := ?C12x11, globals := (3 : Nat), closure := [], defaults := PySem.Value.none, kwdefaults := PySem.Value.none, doc := PySem.Value.none, pyModule := PySem.Value.str (PySem.Str.ofString "cpy313.wsgiref.headers") (354 : Nat), annotations := none, code := PySem.Value.ref (180 : Nat), closureTuple := PySem.Value.none, builtins := (0 : Nat) }, slots := #[] }) ::
  (nat_lit 182, { cls := PySem.Value.type "tuple", dict := (none : Option Nat), data := PySem.Data.seq #[], slots := #[] }) ::
  (nat_lit 185, { cls := PySem.Value.type "code", dict := (none : Option Nat), data := PySem.Data.fields #[PySem.Value.str (PySem.Str.ofString "__str__") (531 : Nat), PySem.Value.str (PySem.Str.ofString "Headers.__str__") (532 : Nat), PySem.Value.str (PySem.Str.ofString "/claim/cut.py") (533 : Nat), PySem.Value.int (119 : Int) (0 : Nat), PySem.Value.int (1 : Int) (0 : Nat), PySem.Value.int (0 : Int) (0 : Nat), PySem.Value.int (0 : Int) (0 : Nat), PySem.Value.int (3 : Int) (0 : Nat), PySem.Value.ref (182 : Nat), PySem.Value.bool true, PySem.Value.int (276 : Int) (0 : Nat), PySem.Value.ref (183 : Nat), PySem.Value.none, PySem.Value.none, PySem.Value.none, PySem.Value.ref (184 : Nat), PySem.Value.int (534 : Int) (0 : Nat), PySem.Value.int (119 : Int) (0 : Nat), PySem.Value.str (PySem.Str.ofString "/claim/cut.py") (535 : Nat)], slots := #[] }) ::
  (nat_lit 186, { cls := PySem.Value.type "function", dict := (none : Option Nat), data := PySem.Data.func { name := PySem.Str.ofString "__str__", qualname := PySem.Str.ofString "Headers.__str__", params := ?A12x13, body := PySem.FuncBody.stmts ?B12x13, scope := ?C12x13, globals := (3 : Nat), closure := [], defaults := PySem.Value.none, kwdefaults := PySem.Value.none, doc := PySem.Value.none, pyModule := PySem.Value.str (PySem.Str.ofString "cpy313.wsgiref.headers") (354 : Nat), annotations := none, code := PySem.Value.ref (185 : Nat), closureTuple := PySem.Value.none, builtins := (0 : Nat) }, slots := #[] }) ::
  (nat_lit 187, { cls := PySem.Value.type "tuple", dict := (none : Option Nat), data := PySem.Data.seq #[], slots := #[] }) ::
  (nat_lit 189, { cls := PySem.Value.type "tuple", dict := (none : Option Nat), data := PySem.Data.seq #[PySem.Value.str (PySem.Str.ofString "self") (540 : Nat)], slots := #[] }) ::
  (nat_lit 190, { cls := PySem.Value.type "tuple", dict := (none : Option Nat), data := PySem.Data.seq #[], slots := #[] }) ::
  (nat_lit 192, { cls := PySem.Value.type "code", dict := (none : Option Nat), data := PySem.Data.fields #[PySem.Value.str (PySem.Str.ofString "__bytes__") (537 : Nat), PySem.Value.str (PySem.Str.ofString "Headers.__bytes__") (538 : Nat), PySem.Value.str (PySem.Str.ofString "/claim/cut.py") (539 : Nat), PySem.Value.int (122 : Int) (0 : Nat), PySem.Value.int (1 : Int) (0 : Nat), PySem.Value.int (0 : Int) (0 : Nat), PySem.Value.int (0 : Int) (0 : Nat), PySem.Value.int (3 : Int) (0 : Nat), PySem.Value.ref (187 : Nat), PySem.Value.bool true, PySem.Value.int (276 : Int) (0 : Nat), PySem.Value.ref (188 : Nat), PySem.Value.none, PySem.Value.ref (189 : Nat), PySem.Value.ref (190 : Nat), PySem.Value.ref (191 : Nat), PySem.Value.int (541 : Int) (0 : Nat), PySem.Value.int (122 : Int) (0 : Nat), PySem.Value.str (PySem.Str.ofString "/claim/cut.py") (542 : Nat)], slots := #[] }) ::
  (nat_lit 193, { cls := PySem.Value.type "function", dict := (none : Option Nat), data := PySem.Data.func { name := PySem.Str.ofString "__bytes__", qualname := PySem.Str.ofString "Headers.__bytes__", params := ?A12x14, body := PySem.FuncBody.stmts ?B12x14, scope := ?C12x14, globals := (3 : Nat), closure := [], defaults := PySem.Value.none, kwdefaults := PySem.Value.none, doc := PySem.Value.none, pyModule := PySem.Value.str (PySem.Str.ofString "cpy313.wsgiref.headers") (354 : Nat), annotations := none, code := PySem.Value.ref (192 : Nat), closureTuple := PySem.Value.none, builtins := (0 : Nat) }, slots := #[] }) ::
  (nat_lit 194, { cls := PySem.Value.type "tuple", dict := (none : Option Nat), data := PySem.Data.seq #[], slots := #[] }) ::
  (nat_lit 196, { cls := PySem.Value.type "tuple", dict := (none : Option Nat), data := PySem.Data.seq #[PySem.Value.str (PySem.Str.ofString "self") (547 : Nat), PySem.Value.str (PySem.Str.ofString "name") (548 : Nat), PySem.Value.str (PySem.Str.ofString "value") (549 : Nat), PySem.Value.str (PySem.Str.ofString "result") (550 : Nat)], slots := #[] }) ::
  (nat_lit 197, { cls := PySem.Value.type "tuple", dict := (none : Option Nat), data := PySem.Data.seq #[], slots := #[] }) ::
  (nat_lit 199, { cls := PySem.Value.type "code", dict := (none : Option Nat), data := PySem.Data.fields #[PySem.Value.str (PySem.Str.ofString "setdefault") (544 : Nat), PySem.Value.str (PySem.Str.ofString "Headers.setdefault") (545 : Nat), PySem.Value.str (PySem.Str.ofString "/claim/cut.py") (546 : Nat), PySem.Value.int (125 : Int) (0 : Nat), PySem.Value.int (3 : Int) (0 : Nat), PySem.Value.int (0 : Int) (0 : Nat), PySem.Value.int (0 : Int) (0 : Nat), PySem.Value.int (3 : Int) (0 : Nat), PySem.Value.ref (194 : Nat), PySem.Value.bool true, PySem.Value.int (276 : Int) (0 : Nat), PySem.Value.ref (195 : Nat), PySem.Value.none, PySem.Value.ref (196 : Nat), PySem.Value.ref (197 : Nat), PySem.Value.ref (198 : Nat), PySem.Value.int (551 : Int) (0 : Nat), PySem.Value.int (125 : Int) (0 : Nat), PySem.Value.str (PySem.Str.ofString "/claim/cut.py") (552 : Nat)], slots := #[] }) ::
  (nat_lit 200, { cls := PySem.Value.type "function", dict := (none : Option Nat), data := PySem.Data.func { name := PySem.Str.ofString "setdefault", qualname := PySem.Str.ofString "Headers.setdefault", params := ?A12x15, body := PySem.FuncBody.stmts ?B12x15, scope := ?C12x15, globals := (3 : Nat), closure := [], defaults := PySem.Value.none, kwdefaults := PySem.Value.none, doc := PySem.Value.none, pyModule := PySem.Value.str (PySem.Str.ofString "cpy313.wsgiref.headers") (354 : Nat), annotations := none, code := PySem.Value.ref (199 : Nat), closureTuple := PySem.Value.none, builtins := (0 : Nat) }, slots := #[] }) ::
  (nat_lit 201, { cls := PySem.Value.type "tuple", dict := (none : Option Nat), data := PySem.Data.seq #[], slots := #[] }) ::
  (nat_lit 203, { cls := PySem.Value.type "tuple", dict := (none : Option Nat), data := PySem.Data.seq #[PySem.Value.str (PySem.Str.ofString "self") (557 : Nat), PySem.Value.str (PySem.Str.ofString "_name") (558 : Nat), PySem.Value.str (PySem.Str.ofString "_value") (559 : Nat), PySem.Value.str (PySem.Str.ofString "_params") (560 : Nat)], slots := #[] }) ::
  (nat_lit 204, { cls := PySem.Value.type "tuple", dict := (none : Option Nat), data := PySem.Data.seq #[], slots := #[] }) ::
  (nat_lit 206, { cls := PySem.Value.type "code", dict := (none : Option Nat), data := PySem.Data.fields #[PySem.Value.str (PySem.Str.ofString "add_header") (554 : Nat), PySem.Value.str (PySem.Str.ofString "Headers.add_header") (555 : Nat), PySem.Value.str (PySem.Str.ofString "/claim/cut.py") (556 : Nat), PySem.Value.int (133 : Int) (0 : Nat), PySem.Value.int (3 : Int) (0 : Nat), PySem.Value.int (0 : Int) (0 : Nat), PySem.Value.int (0 : Int) (0 : Nat), PySem.Value.int (11 : Int) (0 : Nat), PySem.Value.ref (201 : Nat), PySem.Value.bool true, PySem.Value.int (276 : Int) (0 : Nat), PySem.Value.ref (202 : Nat), PySem.Value.none, PySem.Value.ref (203 : Nat), PySem.Value.ref (204 : Nat), PySem.Value.ref (205 : Nat), PySem.Value.int (561 : Int) (0 : Nat), PySem.Value.int (133 : Int) (0 : Nat), PySem.Value.str (PySem.Str.ofString "/claim/cut.py") (562 : Nat)], slots := #[] }) ::
  (nat_lit 207, { cls := PySem.Value.type "function", dict := (none : Option Nat), data := PySem.Data.func { name := PySem.Str.ofString "add_header", qualname := PySem.Str.ofString "Headers.add_header", params := ?A12x16, body := PySem.FuncBody.stmts ?B12x16, scope := ?C12x16, globals := (3 : Nat), closure := [], defaults := PySem.Value.none, kwdefaults := PySem.Value.none, doc := PySem.Value.none, pyModule := PySem.Value.str (PySem.Str.ofString "cpy313.wsgiref.headers") (354 : Nat), annotations := none, code := PySem.Value.ref (206 : Nat), closureTuple := PySem.Value.none, builtins := (0 : Nat) }, slots := #[] }) ::
  (nat_lit 208, { cls := PySem.Value.type "tuple", dict := (none : Option Nat), data := PySem.Data.seq #[PySem.Value.str (PySem.Str.ofString "_headers") (564 : Nat)], slots := #[] }) ::
  (nat_lit 209, { cls := PySem.Value.type "dict", dict := (none : Option Nat), data := PySem.Data.dict #[{ hash := PySem.PyData.keyHash P (PySem.Str.ofString "__module__"), key := PySem.Value.str (PySem.Str.ofString "__module__") (423 : Nat), val := PySem.Value.str (PySem.Str.ofString "cpy313.wsgiref.headers") (354 : Nat) }, { hash := PySem.PyData.keyHash P (PySem.Str.ofString "__firstlineno__"), key := PySem.Value.str (PySem.Str.ofString "__firstlineno__") (427 : Nat), val := PySem.Value.int (60 : Int) (426 : Nat) }, { hash := PySem.PyData.keyHash P (PySem.Str.ofString "__init__"), key := PySem.Value.str (PySem.Str.ofString "__init__") (437 : Nat), val := PySem.Value.ref (102 : Nat) }, { hash := PySem.PyData.keyHash P (PySem.Str.ofString "_convert_string_type"), key := PySem.Value.str (PySem.Str.ofString "_convert_string_type") (447 : Nat), val := PySem.Value.ref (109 : Nat) }, { hash := PySem.PyData.keyHash P (PySem.Str.ofString "__len__"), key := PySem.Value.str (PySem.Str.ofString "__len__") (454 : Nat), val := PySem.Value.ref (116 : Nat) }, { hash := PySem.PyData.keyHash P (PySem.Str.ofString "__setitem__"), key := PySem.Value.str (PySem.Str.ofString "__setitem__") (463 : Nat), val := PySem.Value.ref (123 : Nat) }, { hash := PySem.PyData.keyHash P (PySem.Str.ofString "__delitem__"), key := PySem.Value.str (PySem.Str.ofString "__delitem__") (469 : Nat), val := PySem.Value.ref (128 : Nat) }, { hash := PySem.PyData.keyHash P (PySem.Str.ofString "__getitem__"), key := PySem.Value.str (PySem.Str.ofString "__getitem__") (477 : Nat), val := PySem.Value.ref (135 : Nat) }, { hash := PySem.PyData.keyHash P (PySem.Str.ofString "__contains__"), key := PySem.Value.str (PySem.Str.ofString "__contains__") (485 : Nat), val := PySem.Value.ref (142 : Nat) }, { hash := PySem.PyData.keyHash P (PySem.Str.ofString "get_all"), key := PySem.Value.str (PySem.Str.ofString "get_all") (493 : Nat), val := PySem.Value.ref (149 : Nat) }, { hash := PySem.PyData.keyHash P (PySem.Str.ofString "get"), key := PySem.Value.str (PySem.Str.ofString "get") (504 : Nat), val := PySem.Value.ref (157 : Nat) }, { hash := PySem.PyData.keyHash P (PySem.Str.ofString "keys"), key := PySem.Value.str (PySem.Str.ofString "keys") (510 : Nat), val := PySem.Value.ref (162 : Nat) }, { hash := PySem.PyData.keyHash P (PySem.Str.ofString "values"), key := PySem.Value.str (PySem.Str.ofString "values") (516 : Nat), val := PySem.Value.ref (167 : Nat) }, { hash := PySem.PyData.keyHash P (PySem.Str.ofString "items"), key := PySem.Value.str (PySem.Str.ofString "items") (523 : Nat), val := PySem.Value.ref (174 : Nat) }, { hash := PySem.PyData.keyHash P (PySem.Str.ofString "__repr__"), key := PySem.Value.str (PySem.Str.ofString "__repr__") (530 : Nat), val := PySem.Value.ref (181 : Nat) }, { hash := PySem.PyData.keyHash P (PySem.Str.ofString "__str__"), key := PySem.Value.str (PySem.Str.ofString "__str__") (536 : Nat), val := PySem.Value.ref (186 : Nat) }, { hash := PySem.PyData.keyHash P (PySem.Str.ofString "__bytes__"), key := PySem.Value.str (PySem.Str.ofString "__bytes__") (543 : Nat), val := PySem.Value.ref (193 : Nat) }, { hash := PySem.PyData.keyHash P (PySem.Str.ofString "setdefault"), key := PySem.Value.str (PySem.Str.ofString "setdefault") (553 : Nat), val := PySem.Value.ref (200 : Nat) }, { hash := PySem.PyData.keyHash P (PySem.Str.ofString "add_header"), key := PySem.Value.str (PySem.Str.ofString "add_header") (563 : Nat), val := PySem.Value.ref (207 : Nat) }, { hash := PySem.PyData.keyHash P (PySem.Str.ofString "__static_attributes__"), key := PySem.Value.str (PySem.Str.ofString "__static_attributes__") (565 : Nat), val := PySem.Value.ref (208 : Nat) }, { hash := PySem.PyData.keyHash P (PySem.Str.ofString "__dict__"), key := PySem.Value.str (PySem.Str.ofString "__dict__") (567 : Nat), val := PySem.Value.ref (211 : Nat) }, { hash := PySem.PyData.keyHash P (PySem.Str.ofString "__weakref__"), key := PySem.Value.str (PySem.Str.ofString "__weakref__") (569 : Nat), val := PySem.Value.ref (212 : Nat) }, { hash := PySem.PyData.keyHash P (PySem.Str.ofString "__doc__"), key := PySem.Value.str (PySem.Str.ofString "__doc__") (570 : Nat), val := PySem.Value.none }] (4 : Nat), slots := #[] }) ::
  (nat_lit 210, { cls := PySem.Value.type "type", dict := (none : Option Nat), data := PySem.Data.cls { name := PySem.Str.ofString "Headers", bases := [PySem.Value.type "object"], mro := [PySem.Value.ref (210 : Nat), PySem.Value.type "object"], ns := (209 : Nat), qualname := PySem.Str.ofString "Headers", hasDict := true, slotNames := [], subclasses := [], abstract := false, collection := none, hasDel := false }, slots := #[none, none, some (PySem.Value.str (PySem.Str.ofString "Headers") (416 : Nat)), some (PySem.Value.str (PySem.Str.ofString "Headers") (424 : Nat)), some (PySem.Value.builtin "object.__new__"), some (PySem.Value.bool true)] }) ::
  (nat_lit 211, { cls := PySem.Value.type "getset_descriptor", dict := (none : Option Nat), data := PySem.Data.fields #[PySem.Value.str (PySem.Str.ofString "__dict__") (566 : Nat), PySem.Value.ref (210 : Nat), PySem.Value.builtin "function.__dict__", PySem.Value.builtin "function.__dict__#set"], slots := #[] }) ::
  (nat_lit 212, { cls := PySem.Value.type "getset_descriptor", dict := (none : Option Nat), data := PySem.Data.fields #[PySem.Value.str (PySem.Str.ofString "__weakref__") (568 : Nat), PySem.Value.ref (210 : Nat), PySem.Value.builtin "ExceptionGroup.__weakref__", PySem.Value.none], slots := #[] }) ::
  (nat_lit 215, { cls := PySem.Value.type "tuple", dict := (none : Option Nat), data := PySem.Data.seq #[], slots := #[] }) ::
  (nat_lit 218, { cls := PySem.Value.type "code", dict := (none : Option Nat), data := PySem.Data.fields #[PySem.Value.str (PySem.Str.ofString "_law_numbers") (575 : Nat), PySem.Value.str (PySem.Str.ofString "_law_numbers") (576 : Nat), PySem.Value.str (PySem.Str.ofString "/claim/cut.py") (577 : Nat), PySem.Value.int (136 : Int) (0 : Nat), PySem.Value.int (1 : Int) (0 : Nat), PySem.Value.int (0 : Int) (0 : Nat), PySem.Value.int (0 : Int) (0 : Nat), PySem.Value.int (3 : Int) (0 : Nat), PySem.Value.ref (215 : Nat), PySem.Value.bool true, PySem.Value.int (276 : Int) (0 : Nat), PySem.Value.ref (216 : Nat), PySem.Value.none, PySem.Value.none, PySem.Value.none, PySem.Value.ref (217 : Nat), PySem.Value.int (578 : Int) (0 : Nat), PySem.Value.int (136 : Int) (0 : Nat), PySem.Value.str (PySem.Str.ofString "/claim/cut.py") (579 : Nat)], slots := #[] }) ::
  (nat_lit 219, { cls := PySem.Value.type "function", dict := (none : Option Nat), data := PySem.Data.func { name := PySem.Str.ofString "_law_numbers", qualname := PySem.Str.ofString "_law_numbers", params := ?A14, body := PySem.FuncBody.stmts ?B14, scope := ?C14, globals := (3 : Nat), closure := [], defaults := PySem.Value.none, kwdefaults := PySem.Value.none, doc := PySem.Value.none, pyModule := PySem.Value.str (PySem.Str.ofString "law_ux0027_01") (573 : Nat), annotations := none, code := PySem.Value.ref (218 : Nat), closureTuple := PySem.Value.none, builtins := (0 : Nat) }, slots := #[] }) ::
  (nat_lit 220, { cls := PySem.Value.type "tuple", dict := (none : Option Nat), data := PySem.Data.seq #[], slots := #[] }) ::
  (nat_lit 222, { cls := PySem.Value.type "tuple", dict := (none : Option Nat), data := PySem.Data.seq #[PySem.Value.str (PySem.Str.ofString "number") (584 : Nat), PySem.Value.str (PySem.Str.ofString "signs") (585 : Nat)], slots := #[] }) ::
  (nat_lit 223, { cls := PySem.Value.type "tuple", dict := (none : Option Nat), data := PySem.Data.seq #[], slots := #[] }) ::
  (nat_lit 225, { cls := PySem.Value.type "code", dict := (none : Option Nat), data := PySem.Data.fields #[PySem.Value.str (PySem.Str.ofString "_law_piece") (581 : Nat), PySem.Value.str (PySem.Str.ofString "_law_piece") (582 : Nat), PySem.Value.str (PySem.Str.ofString "/claim/cut.py") (583 : Nat), PySem.Value.int (139 : Int) (0 : Nat), PySem.Value.int (2 : Int) (0 : Nat), PySem.Value.int (0 : Int) (0 : Nat), PySem.Value.int (0 : Int) (0 : Nat), PySem.Value.int (3 : Int) (0 : Nat), PySem.Value.ref (220 : Nat), PySem.Value.bool true, PySem.Value.int (276 : Int) (0 : Nat), PySem.Value.ref (221 : Nat), PySem.Value.none, PySem.Value.ref (222 : Nat), PySem.Value.ref (223 : Nat), PySem.Value.ref (224 : Nat), PySem.Value.int (586 : Int) (0 : Nat), PySem.Value.int (139 : Int) (0 : Nat), PySem.Value.str (PySem.Str.ofString "/claim/cut.py") (587 : Nat)], slots := #[] }) ::
  (nat_lit 226, { cls := PySem.Value.type "function", dict := (none : Option Nat), data := PySem.Data.func { name := PySem.Str.ofString "_law_piece", qualname := PySem.Str.ofString "_law_piece", params := ?A15, body := PySem.FuncBody.stmts ?B15, scope := ?C15, globals := (3 : Nat), closure := [], defaults := PySem.Value.none, kwdefaults := PySem.Value.none, doc := PySem.Value.none, pyModule := PySem.Value.str (PySem.Str.ofString "law_ux0027_01") (573 : Nat), annotations := none, code := PySem.Value.ref (225 : Nat), closureTuple := PySem.Value.none, builtins := (0 : Nat) }, slots := #[] }) ::
  (nat_lit 227, { cls := PySem.Value.type "tuple", dict := (none : Option Nat), data := PySem.Data.seq #[], slots := #[] }) ::
  (nat_lit 229, { cls := PySem.Value.type "tuple", dict := (none : Option Nat), data := PySem.Data.seq #[PySem.Value.str (PySem.Str.ofString "places") (592 : Nat), PySem.Value.str (PySem.Str.ofString "sign") (593 : Nat), PySem.Value.str (PySem.Str.ofString "letters") (594 : Nat), PySem.Value.str (PySem.Str.ofString "gaps") (595 : Nat), PySem.Value.str (PySem.Str.ofString "found") (596 : Nat), PySem.Value.str (PySem.Str.ofString "k") (597 : Nat)], slots := #[] }) ::
  (nat_lit 230, { cls := PySem.Value.type "tuple", dict := (none : Option Nat), data := PySem.Data.seq #[], slots := #[] }) ::
  (nat_lit 232, { cls := PySem.Value.type "code", dict := (none : Option Nat), data := PySem.Data.fields #[PySem.Value.str (PySem.Str.ofString "_law_on") (589 : Nat), PySem.Value.str (PySem.Str.ofString "_law_on") (590 : Nat), PySem.Value.str (PySem.Str.ofString "/claim/cut.py") (591 : Nat), PySem.Value.int (143 : Int) (0 : Nat), PySem.Value.int (4 : Int) (0 : Nat), PySem.Value.int (0 : Int) (0 : Nat), PySem.Value.int (0 : Int) (0 : Nat), PySem.Value.int (3 : Int) (0 : Nat), PySem.Value.ref (227 : Nat), PySem.Value.bool true, PySem.Value.int (276 : Int) (0 : Nat), PySem.Value.ref (228 : Nat), PySem.Value.none, PySem.Value.ref (229 : Nat), PySem.Value.ref (230 : Nat), PySem.Value.ref (231 : Nat), PySem.Value.int (598 : Int) (0 : Nat), PySem.Value.int (143 : Int) (0 : Nat), PySem.Value.str (PySem.Str.ofString "/claim/cut.py") (599 : Nat)], slots := #[] }) ::
  (nat_lit 233, { cls := PySem.Value.type "function", dict := (none : Option Nat), data := PySem.Data.func { name := PySem.Str.ofString "_law_on", qualname := PySem.Str.ofString "_law_on", params := ?A16, body := PySem.FuncBody.stmts ?B16, scope := ?C16, globals := (3 : Nat), closure := [], defaults := PySem.Value.none, kwdefaults := PySem.Value.none, doc := PySem.Value.none, pyModule := PySem.Value.str (PySem.Str.ofString "law_ux0027_01") (573 : Nat), annotations := none, code := PySem.Value.ref (232 : Nat), closureTuple := PySem.Value.none, builtins := (0 : Nat) }, slots := #[] }) ::
  (nat_lit 234, { cls := PySem.Value.type "tuple", dict := (none : Option Nat), data := PySem.Data.seq #[], slots := #[] }) ::
  (nat_lit 236, { cls := PySem.Value.type "tuple", dict := (none : Option Nat), data := PySem.Data.seq #[PySem.Value.str (PySem.Str.ofString "text") (604 : Nat), PySem.Value.str (PySem.Str.ofString "letters") (605 : Nat), PySem.Value.str (PySem.Str.ofString "gaps") (606 : Nat), PySem.Value.str (PySem.Str.ofString "places") (607 : Nat), PySem.Value.str (PySem.Str.ofString "state") (608 : Nat), PySem.Value.str (PySem.Str.ofString "sign") (609 : Nat), PySem.Value.str (PySem.Str.ofString "ahead") (610 : Nat)], slots := #[] }) ::
  (nat_lit 237, { cls := PySem.Value.type "tuple", dict := (none : Option Nat), data := PySem.Data.seq #[], slots := #[] }) ::
  (nat_lit 239, { cls := PySem.Value.type "code", dict := (none : Option Nat), data := PySem.Data.fields #[PySem.Value.str (PySem.Str.ofString "_law_lack") (601 : Nat), PySem.Value.str (PySem.Str.ofString "_law_lack") (602 : Nat), PySem.Value.str (PySem.Str.ofString "/claim/cut.py") (603 : Nat), PySem.Value.int (149 : Int) (0 : Nat), PySem.Value.int (3 : Int) (0 : Nat), PySem.Value.int (0 : Int) (0 : Nat), PySem.Value.int (0 : Int) (0 : Nat), PySem.Value.int (3 : Int) (0 : Nat), PySem.Value.ref (234 : Nat), PySem.Value.bool true, PySem.Value.int (276 : Int) (0 : Nat), PySem.Value.ref (235 : Nat), PySem.Value.none, PySem.Value.ref (236 : Nat), PySem.Value.ref (237 : Nat), PySem.Value.ref (238 : Nat), PySem.Value.int (611 : Int) (0 : Nat), PySem.Value.int (149 : Int) (0 : Nat), PySem.Value.str (PySem.Str.ofString "/claim/cut.py") (612 : Nat)], slots := #[] }) ::
  (nat_lit 240, { cls := PySem.Value.type "function", dict := (none : Option Nat), data := PySem.Data.func { name := PySem.Str.ofString "_law_lack", qualname := PySem.Str.ofString "_law_lack", params := ?A17, body := PySem.FuncBody.stmts ?B17, scope := ?C17, globals := (3 : Nat), closure := [], defaults := PySem.Value.none, kwdefaults := PySem.Value.none, doc := PySem.Value.none, pyModule := PySem.Value.str (PySem.Str.ofString "law_ux0027_01") (573 : Nat), annotations := none, code := PySem.Value.ref (239 : Nat), closureTuple := PySem.Value.none, builtins := (0 : Nat) }, slots := #[] }) ::
  (nat_lit 241, { cls := PySem.Value.type "tuple", dict := (none : Option Nat), data := PySem.Data.seq #[], slots := #[] }) ::
  (nat_lit 244, { cls := PySem.Value.type "code", dict := (none : Option Nat), data := PySem.Data.fields #[PySem.Value.str (PySem.Str.ofString "_law_answers") (614 : Nat), PySem.Value.str (PySem.Str.ofString "_law_answers") (615 : Nat), PySem.Value.str (PySem.Str.ofString "/claim/cut.py") (616 : Nat), PySem.Value.int (168 : Int) (0 : Nat), PySem.Value.int (5 : Int) (0 : Nat), PySem.Value.int (0 : Int) (0 : Nat), PySem.Value.int (0 : Int) (0 : Nat), PySem.Value.int (3 : Int) (0 : Nat), PySem.Value.ref (241 : Nat), PySem.Value.bool true, PySem.Value.int (276 : Int) (0 : Nat), PySem.Value.ref (242 : Nat), PySem.Value.none, PySem.Value.none, PySem.Value.none, PySem.Value.ref (243 : Nat), PySem.Value.int (617 : Int) (0 : Nat), PySem.Value.int (168 : Int) (0 : Nat), PySem.Value.str (PySem.Str.ofString "/claim/cut.py") (618 : Nat)], slots := #[] }) ::
  (nat_lit 245, { cls := PySem.Value.type "function", dict := (none : Option Nat), data := PySem.Data.func { name := PySem.Str.ofString "_law_answers", qualname := PySem.Str.ofString "_law_answers", params := ?A18, body := PySem.FuncBody.stmts ?B18, scope := ?C18, globals := (3 : Nat), closure := [], defaults := PySem.Value.none, kwdefaults := PySem.Value.none, doc := PySem.Value.none, pyModule := PySem.Value.str (PySem.Str.ofString "law_ux0027_01") (573 : Nat), annotations := none, code := PySem.Value.ref (244 : Nat), closureTuple := PySem.Value.none, builtins := (0 : Nat) }, slots := #[] }) ::
  (nat_lit 246, { cls := PySem.Value.type "tuple", dict := (none : Option Nat), data := PySem.Data.seq #[], slots := #[] }) ::
  (nat_lit 248, { cls := PySem.Value.type "tuple", dict := (none : Option Nat), data := PySem.Data.seq #[PySem.Value.str (PySem.Str.ofString "text") (623 : Nat), PySem.Value.str (PySem.Str.ofString "lacks") (624 : Nat), PySem.Value.str (PySem.Str.ofString "wanted") (625 : Nat), PySem.Value.str (PySem.Str.ofString "pieces") (626 : Nat), PySem.Value.str (PySem.Str.ofString "behind") (627 : Nat), PySem.Value.str (PySem.Str.ofString "rest") (628 : Nat), PySem.Value.str (PySem.Str.ofString "kinds") (629 : Nat), PySem.Value.str (PySem.Str.ofString "firsts") (630 : Nat), PySem.Value.str (PySem.Str.ofString "k") (631 : Nat), PySem.Value.str (PySem.Str.ofString "row") (632 : Nat), PySem.Value.str (PySem.Str.ofString "name") (633 : Nat)], slots := #[] }) ::
  (nat_lit 249, { cls := PySem.Value.type "tuple", dict := (none : Option Nat), data := PySem.Data.seq #[], slots := #[] }) ::
  (nat_lit 251, { cls := PySem.Value.type "code", dict := (none : Option Nat), data := PySem.Data.fields #[PySem.Value.str (PySem.Str.ofString "_law_kinds") (620 : Nat), PySem.Value.str (PySem.Str.ofString "_law_kinds") (621 : Nat), PySem.Value.str (PySem.Str.ofString "/claim/cut.py") (622 : Nat), PySem.Value.int (187 : Int) (0 : Nat), PySem.Value.int (4 : Int) (0 : Nat), PySem.Value.int (0 : Int) (0 : Nat), PySem.Value.int (0 : Int) (0 : Nat), PySem.Value.int (3 : Int) (0 : Nat), PySem.Value.ref (246 : Nat), PySem.Value.bool true, PySem.Value.int (276 : Int) (0 : Nat), PySem.Value.ref (247 : Nat), PySem.Value.none, PySem.Value.ref (248 : Nat), PySem.Value.ref (249 : Nat), PySem.Value.ref (250 : Nat), PySem.Value.int (634 : Int) (0 : Nat), PySem.Value.int (187 : Int) (0 : Nat), PySem.Value.str (PySem.Str.ofString "/claim/cut.py") (635 : Nat)], slots := #[] }) ::
  (nat_lit 252, { cls := PySem.Value.type "function", dict := (none : Option Nat), data := PySem.Data.func { name := PySem.Str.ofString "_law_kinds", qualname := PySem.Str.ofString "_law_kinds", params := ?A19, body := PySem.FuncBody.stmts ?B19, scope := ?C19, globals := (3 : Nat), closure := [], defaults := PySem.Value.none, kwdefaults := PySem.Value.none, doc := PySem.Value.none, pyModule := PySem.Value.str (PySem.Str.ofString "law_ux0027_01") (573 : Nat), annotations := none, code := PySem.Value.ref (251 : Nat), closureTuple := PySem.Value.none, builtins := (0 : Nat) }, slots := #[] }) ::
  (nat_lit 253, { cls := PySem.Value.type "tuple", dict := (none : Option Nat), data := PySem.Data.seq #[], slots := #[] }) ::
  (nat_lit 255, { cls := PySem.Value.type "tuple", dict := (none : Option Nat), data := PySem.Data.seq #[PySem.Value.str (PySem.Str.ofString "reply") (640 : Nat), PySem.Value.str (PySem.Str.ofString "refusal") (641 : Nat)], slots := #[] }) ::
  (nat_lit 256, { cls := PySem.Value.type "tuple", dict := (none : Option Nat), data := PySem.Data.seq #[], slots := #[] }) ::
  (nat_lit 258, { cls := PySem.Value.type "code", dict := (none : Option Nat), data := PySem.Data.fields #[PySem.Value.str (PySem.Str.ofString "_law_refused") (637 : Nat), PySem.Value.str (PySem.Str.ofString "_law_refused") (638 : Nat), PySem.Value.str (PySem.Str.ofString "/claim/cut.py") (639 : Nat), PySem.Value.int (203 : Int) (0 : Nat), PySem.Value.int (1 : Int) (0 : Nat), PySem.Value.int (0 : Int) (0 : Nat), PySem.Value.int (0 : Int) (0 : Nat), PySem.Value.int (3 : Int) (0 : Nat), PySem.Value.ref (253 : Nat), PySem.Value.bool true, PySem.Value.int (276 : Int) (0 : Nat), PySem.Value.ref (254 : Nat), PySem.Value.none, PySem.Value.ref (255 : Nat), PySem.Value.ref (256 : Nat), PySem.Value.ref (257 : Nat), PySem.Value.int (642 : Int) (0 : Nat), PySem.Value.int (203 : Int) (0 : Nat), PySem.Value.str (PySem.Str.ofString "/claim/cut.py") (643 : Nat)], slots := #[] }) ::
  (nat_lit 259, { cls := PySem.Value.type "function", dict := (none : Option Nat), data := PySem.Data.func { name := PySem.Str.ofString "_law_refused", qualname := PySem.Str.ofString "_law_refused", params := ?A20, body := PySem.FuncBody.stmts ?B20, scope := ?C20, globals := (3 : Nat), closure := [], defaults := PySem.Value.none, kwdefaults := PySem.Value.none, doc := PySem.Value.none, pyModule := PySem.Value.str (PySem.Str.ofString "law_ux0027_01") (573 : Nat), annotations := none, code := PySem.Value.ref (258 : Nat), closureTuple := PySem.Value.none, builtins := (0 : Nat) }, slots := #[] }) ::
  (nat_lit 260, { cls := PySem.Value.type "tuple", dict := (none : Option Nat), data := PySem.Data.seq #[], slots := #[] }) ::
  (nat_lit 263, { cls := PySem.Value.type "code", dict := (none : Option Nat), data := PySem.Data.fields #[PySem.Value.str (PySem.Str.ofString "law") (645 : Nat), PySem.Value.str (PySem.Str.ofString "law") (646 : Nat), PySem.Value.str (PySem.Str.ofString "/claim/cut.py") (647 : Nat), PySem.Value.int (209 : Int) (0 : Nat), PySem.Value.int (1 : Int) (0 : Nat), PySem.Value.int (0 : Int) (0 : Nat), PySem.Value.int (0 : Int) (0 : Nat), PySem.Value.int (3 : Int) (0 : Nat), PySem.Value.ref (260 : Nat), PySem.Value.bool true, PySem.Value.int (276 : Int) (0 : Nat), PySem.Value.ref (261 : Nat), PySem.Value.none, PySem.Value.none, PySem.Value.none, PySem.Value.ref (262 : Nat), PySem.Value.int (648 : Int) (0 : Nat), PySem.Value.int (209 : Int) (0 : Nat), PySem.Value.str (PySem.Str.ofString "/claim/cut.py") (649 : Nat)], slots := #[] }) ::
  (nat_lit 264, { cls := PySem.Value.type "function", dict := (none : Option Nat), data := PySem.Data.func { name := PySem.Str.ofString "law", qualname := PySem.Str.ofString "law", params := ?A21, body := PySem.FuncBody.stmts ?B21, scope := ?C21, globals := (3 : Nat), closure := [], defaults := PySem.Value.none, kwdefaults := PySem.Value.none, doc := PySem.Value.none, pyModule := PySem.Value.str (PySem.Str.ofString "law_ux0027_01") (573 : Nat), annotations := none, code := PySem.Value.ref (263 : Nat), closureTuple := PySem.Value.none, builtins := (0 : Nat) }, slots := #[] }) :: ([] : List (Nat × Obj)))
  case f => exact fun _ x => x
  case h => rfl
noncomputable def hd.view_39 : Program := by
  refine' (?f : (PySem.Challenge.pw_ux0027_01.main.body = [?S0, ?S1, _, ?S3, ?S4, ?S5, _, ?S7, ?S8, _, ?S10, ?S11, ?S12, _, ?S14, ?S15, ?S16, ?S17, ?S18, ?S19, ?S20, ?S21]) → Program → Program) ?h { PySem.Challenge.rw_ux0027_01.row.toRowW.1 with main := { PySem.Challenge.rw_ux0027_01.row.toRowW.1.main with body := [?S0, ?S1, ?S3, ?S4, ?S5, ?S7, ?S8, ?S10, ?S11, ?S12, ?S14, ?S15, ?S16, ?S17, ?S18, ?S19, ?S20, ?S21] } }
  case f => exact fun _ x => x
  case h => rfl
noncomputable def hd.ads : List Nat := nat_lit 2 :: nat_lit 3 :: nat_lit 32 :: nat_lit 34 :: nat_lit 35 :: nat_lit 37 :: nat_lit 38 :: nat_lit 39 :: nat_lit 46 :: nat_lit 47 :: nat_lit 48 :: nat_lit 49 :: nat_lit 52 :: nat_lit 59 :: nat_lit 60 :: nat_lit 61 :: nat_lit 64 :: nat_lit 66 :: nat_lit 67 :: nat_lit 69 :: nat_lit 70 :: nat_lit 71 :: nat_lit 73 :: nat_lit 74 :: nat_lit 76 :: nat_lit 77 :: nat_lit 81 :: nat_lit 82 :: nat_lit 86 :: nat_lit 87 :: nat_lit 95 :: nat_lit 96 :: nat_lit 98 :: nat_lit 99 :: nat_lit 101 :: nat_lit 102 :: nat_lit 103 :: nat_lit 105 :: nat_lit 106 :: nat_lit 108 :: nat_lit 109 :: nat_lit 110 :: nat_lit 112 :: nat_lit 113 :: nat_lit 115 :: nat_lit 116 :: nat_lit 117 :: nat_lit 119 :: nat_lit 120 :: nat_lit 122 :: nat_lit 123 :: nat_lit 124 :: nat_lit 127 :: nat_lit 128 :: nat_lit 129 :: nat_lit 131 :: nat_lit 132 :: nat_lit 134 :: nat_lit 135 :: nat_lit 136 :: nat_lit 138 :: nat_lit 139 :: nat_lit 141 :: nat_lit 142 :: nat_lit 143 :: nat_lit 145 :: nat_lit 146 :: nat_lit 148 :: nat_lit 149 :: nat_lit 150 :: nat_lit 151 :: nat_lit 153 :: nat_lit 154 :: nat_lit 156 :: nat_lit 157 :: nat_lit 158 :: nat_lit 161 :: nat_lit 162 :: nat_lit 163 :: nat_lit 166 :: nat_lit 167 :: nat_lit 168 :: nat_lit 170 :: nat_lit 171 :: nat_lit 173 :: nat_lit 174 :: nat_lit 175 :: nat_lit 177 :: nat_lit 178 :: nat_lit 180 :: nat_lit 181 :: nat_lit 182 :: nat_lit 185 :: nat_lit 186 :: nat_lit 187 :: nat_lit 189 :: nat_lit 190 :: nat_lit 192 :: nat_lit 193 :: nat_lit 194 :: nat_lit 196 :: nat_lit 197 :: nat_lit 199 :: nat_lit 200 :: nat_lit 201 :: nat_lit 203 :: nat_lit 204 :: nat_lit 206 :: nat_lit 207 :: nat_lit 208 :: nat_lit 209 :: nat_lit 210 :: nat_lit 211 :: nat_lit 212 :: nat_lit 215 :: nat_lit 218 :: nat_lit 219 :: nat_lit 220 :: nat_lit 222 :: nat_lit 223 :: nat_lit 225 :: nat_lit 226 :: nat_lit 227 :: nat_lit 229 :: nat_lit 230 :: nat_lit 232 :: nat_lit 233 :: nat_lit 234 :: nat_lit 236 :: nat_lit 237 :: nat_lit 239 :: nat_lit 240 :: nat_lit 241 :: nat_lit 244 :: nat_lit 245 :: nat_lit 246 :: nat_lit 248 :: nat_lit 249 :: nat_lit 251 :: nat_lit 252 :: nat_lit 253 :: nat_lit 255 :: nat_lit 256 :: nat_lit 258 :: nat_lit 259 :: nat_lit 260 :: nat_lit 263 :: nat_lit 264 :: []
set_option maxHeartbeats 0 in
theorem hd.left : LeftO PySem.Challenge.rw_ux0027_01.row.toRowW.1 hd.view_39 [Str.ofString "_name_disallowed_re", Str.ofString "_value_disallowed_re"]
    (fun s => xlAt hd.view_39 [] s && recOk (RowW.records PySem.Challenge.rw_ux0027_01.row.toRowW) s)
    (Hook.obs (kHook hd.heap_39 hd.ads (fun _ => by kernel_rfl))) (Hook.val (kHook hd.heap_39 hd.ads (fun _ => by kernel_rfl))) 3466 := by
  intro w
  first
    | (unfold openEnds topFrom; simp only [PySem.W.Fast.te14082659384304107361, PySem.W.Fast.te4187177175401517315]; kernel_rfl)
    | kernel_rfl
end Mine
end

-- part Base
section
open PySem PySem.W PyProof.Rows PySem.Calls
set_option Elab.async false
namespace Mine
abbrev PRG : Program := PySem.Challenge.rw_ux0027_01.row.prog

/-- what a call of the text's def f with these arguments, upon this ledger, gives back: post v news' -/
def Con (w : World) (f : Addr) (news : List (Addr × Obj)) (vs : List Value) (dd uu : Nat) (post : Value → List (Addr × Obj) → Prop) : Prop :=
  ∀ (p : Program) (loose : List Str) (mean : ExcName → Option Value) (mg mb : Str → Option Value) (dp un : Nat) (gd : Option (List Code)) (cn : Str) (cs : Scope) (a : Addr) (ccd : Value) (cl : List (Str × Addr)) (outer : List Env) (A₀ : Around) (base h₀ : Heap) (L : Addr) (m : Str → Option Value) (s : Shared) (Q E : Value → Shared → Prop),
    Below A₀ base outer h₀ → Fr h₀ L s.heap m → (hd.heap_39 w.params).In h₀ → News h₀ L s.heap news → Top p loose mean mg mb h₀ → cs.kind = .function → dp + dd < recursionLimit → un + uu < cLine →
    (∀ v news' h' tk', post v news' → Fr h₀ L h' m → News h₀ L h' news' → Q v { s with heap := h', toks := tk' }) →
    wpAny (model PRG w) (ktrTop dp un gd cn cs L a ccd cl outer) (call (.ref f) vs) Q E s
end Mine
end

-- part C3
section
open PySem PySem.W PyProof.Rows PySem.Calls
set_option Elab.async false
set_option maxRecDepth 100000
namespace Mine
theorem Con.use {w : World} {f : Addr} {news : List (Addr × Obj)} {vs : List Value} {dd uu : Nat} {post : Value → List (Addr × Obj) → Prop} (C : Con w f news vs dd uu post)
    {p : Program} {loose : List Str} {mean : ExcName → Option Value} {mg mb : Str → Option Value} {dp un : Nat} {gd : Option (List Code)} {cn : Str} {cs : Scope} {a : Addr} {ccd : Value} {cl : List (Str × Addr)} {outer : List Env} {A₀ : Around} {base h₀ : Heap} {L : Addr} {m : Str → Option Value} {s : Shared} {Q E : Value → Shared → Prop}
    (B : Below A₀ base outer h₀) (F : Fr h₀ L s.heap m) (X : (hd.heap_39 w.params).In h₀) (N : News h₀ L s.heap news) (T : Top p loose mean mg mb h₀) (hk : cs.kind = .function) (hd : dp + dd < recursionLimit) (hu : un + uu < cLine)
    (ret : ∀ v news' h' tk', post v news' → Fr h₀ L h' m → News h₀ L h' news' → Q v { s with heap := h', toks := tk' }) :
    wpAny (model PRG w) (ktrTop dp un gd cn cs L a ccd cl outer) (call (.ref f) vs) Q E s :=
  C _ _ _ _ _ _ _ _ _ _ _ _ _ _ _ _ _ _ _ _ _ _ B F X N T hk hd hu ret

/-- what _law_piece gives -/
def pieceS (x : Str) (i : Int) : Str := if i < 3 then Txt.item x i else Txt.item x (i.fdiv 3 - 1) ++ Txt.item x (i.fmod 3)
theorem item_len (x : Str) (i : Int) : (Txt.item x i).length = 1 := rfl
theorem pieceS_len (x : Str) (i : Int) : 1 ≤ (pieceS x i).length ∧ (pieceS x i).length ≤ 2 := by
  unfold pieceS
  split
  · exact ⟨Nat.le_refl 1, Nat.le_succ 1⟩
  · rw [Str.length_append, item_len, item_len]; exact ⟨Nat.le_succ 1, Nat.le_refl 2⟩

set_option maxHeartbeats 8000000 in
theorem piece_con (w : World) (news : List (Addr × Obj)) (x : Str) (tx ti : Tok) (i : Int) (hx : x.length = 3) (h0 : 0 ≤ i) (h1 : i < 12) :
    Con w 226 news [.int i ti, .str x tx] 1 8 (fun v news' => (∃ t, v = .str (pieceS x i) t) ∧ news' = news) := by
  unfold Con PRG
  k_with_none
  w_top off
  k_fill
  intro p loose mean mg mb dp un gd cn cs a ccd cl outer A₀ base h₀ L m s Q E B F X N T hk hd hu hret
  have hm1 : 0 ≤ i.fmod 3 := Int.fmod_nonneg_of_pos _ (by decide)
  have hm2 : i.fmod 3 < 3 := Int.fmod_lt_of_pos _ (by decide)
  refine wpAny_call ?_
  k_dflt cell_enter
  k_steps
  · refine hret _ _ _ _ ⟨⟨_, congrArg (Value.str · _) ?_⟩, rfl⟩ (by k_asm) (by k_asm)
    exact (if_pos (by assumption)).symm
  · refine hret _ _ _ _ ⟨⟨_, congrArg (Value.str · _) ?_⟩, rfl⟩ (by k_asm) (by k_asm)
    exact (if_neg (by assumption)).symm
end Mine
end

-- part C8a
section
open PySem PySem.Sre PySem.Sre.M
namespace Mine
theorem adm_none (m : M) (h : ∀ s, s < m.lim → ∀ seen, ∃ seen', inSet m.code (m.text.getD s 0) m.code.size 5 true seen = .ok (false, seen')) : ∀ (fuel s : Nat) (seen : Seen), ∃ seen', M.admitted m fuel s seen = .ok (none, seen')
  | 0, _, seen => ⟨seen, rfl⟩
  | fuel + 1, s, seen => by
    unfold M.admitted
    split
    · exact ⟨_, rfl⟩
    · rename_i hs
      obtain ⟨seen', e⟩ := h s (by omega) seen
      rw [e]
      exact adm_none m h fuel (s + 1) seen'
theorem from_none (m : M) (hf : m.hasFirstSet = true) (h : ∀ s, s < m.lim → ∀ seen, ∃ seen', inSet m.code (m.text.getD s 0) m.code.size 5 true seen = .ok (false, seen')) (s : Nat) (first : Bool) : ∃ seen', m.attemptFrom s first = { m with seen := seen' }.say false := by
  unfold M.attemptFrom
  rw [hf]
  obtain ⟨seen', e⟩ := adm_none m h (m.lim + 1 - s) s m.seen
  rw [e]
  exact ⟨_, rfl⟩
theorem run_false (m : M) (h1 : m.outcome = none) (h2 : m.answer = some false) (h3 : m.frames = []) : (m.runFor 4).outcome = some .failed := by
  have e : m.step = { m with outcome := some .failed } := by
    unfold M.step; rw [h1]; simp only [Option.isSome_none, Bool.false_eq_true, if_false]; rw [h2, h3]; rfl
  unfold M.runFor
  rw [h1]; simp only [Option.isSome_none, Bool.false_eq_true, if_false]
  rw [e]
  unfold M.runFor
  rfl
theorem fin_none (m : M) (ho : m.outcome = none) (hfr : m.frames = []) (hf : m.hasFirstSet = true) (h : ∀ s, s < m.lim → ∀ seen, ∃ seen', inSet m.code (m.text.getD s 0) m.code.size 5 true seen = .ok (false, seen')) (s : Nat) (first : Bool) : ((m.attemptFrom s first).runFor 4).outcome = some .failed := by
  obtain ⟨seen', e⟩ := from_none m hf h s first
  rw [e]
  exact run_false _ ho rfl hfr
abbrev nameCode : Array Nat := #[14, 10, 4, 1, 1, 22, 0, 31, 16, 127, 0, 13, 7, 22, 0, 31, 16, 127, 0, 1]
abbrev valCode : Array Nat := #[14, 14, 4, 1, 1, 9, 4294966783, 0, 0, 2147483648, 0, 0, 0, 0, 0, 13, 11, 9, 4294966783, 0, 0, 2147483648, 0, 0, 0, 0, 0, 1]
theorem search_none (code text : Array Nat) (hcode : code = nameCode ∨ code = valCode) (h : ∀ s, s < text.size → ∀ seen, ∃ seen', inSet code (text.getD s 0) code.size 5 true seen = .ok (false, seen')) :
    ((forSearch code text 0 0 text.size false).runFor 4).outcome = some .failed := by
  unfold forSearch
  dsimp only
  split
  · rcases hcode with rfl | rfl <;> exact run_false _ rfl rfl rfl
  · rcases hcode with rfl | rfl
    · exact fin_none _ rfl rfl rfl h 0 true
    · exact fin_none _ rfl rfl rfl h 0 true
/-- the signs of names (y, n, Y, N) and of values (0 to 9) -/
theorem name_safe {c : Nat} (hc : c = 121 ∨ c = 110 ∨ c = 89 ∨ c = 78) (seen : Seen) : ∃ seen', inSet nameCode c nameCode.size 5 true seen = .ok (false, seen') := by
  rcases hc with rfl | rfl | rfl | rfl <;> exact ⟨_, rfl⟩
theorem val_safe {c : Nat} (hc : 48 ≤ c ∧ c ≤ 53) (seen : Seen) : ∃ seen', inSet valCode c valCode.size 5 true seen = .ok (false, seen') := by
  have : c = 48 ∨ c = 49 ∨ c = 50 ∨ c = 51 ∨ c = 52 ∨ c = 53 := by omega
  rcases this with rfl | rfl | rfl | rfl | rfl | rfl <;> exact ⟨_, rfl⟩
end Mine
end

-- part C2
section
open PySem PySem.W PyProof.Rows PySem.Calls
set_option Elab.async false
set_option maxRecDepth 100000
namespace Mine
/-- what stands told behind the opening mark -/
def scan : List Nat → List Nat
  | [] => []
  | 34 :: 34 :: r => 34 :: scan r
  | 34 :: _ => []
  | c :: r => c :: scan r
theorem scan_nil : scan [] = [] := rfl
theorem scan_two (r : List Nat) : scan (34 :: 34 :: r) = 34 :: scan r := rfl
theorem scan_stop1 : scan [34] = [] := rfl
theorem scan_stop {c : Nat} (r : List Nat) (h : c ≠ 34) : scan (34 :: c :: r) = [] := by
  unfold scan
  split <;> simp_all
theorem scan_on {c : Nat} (r : List Nat) (h : c ≠ 34) : scan (c :: r) = c :: scan r := by
  conv => lhs; unfold scan
  split <;> simp_all

theorem qm : Str.ofString "\"" = ⟨#[34]⟩ := by decide +kernel
theorem item_at {x : Str} {i : Int} (h0 : 0 ≤ i) (h : i < x.length) : ∃ c, x.cps.toList.drop i.toNat = c :: x.cps.toList.drop (i + 1).toNat ∧ Txt.item x i = ⟨#[c]⟩ := by
  have hlt : i.toNat < x.cps.toList.length := by simp [Str.length] at h ⊢; omega
  refine ⟨x.cps.toList[i.toNat], ?_, ?_⟩
  · have e : (i + 1).toNat = i.toNat + 1 := by omega
    rw [e]
    exact List.drop_eq_getElem_cons hlt
  · have e : x.cps[i.toNat]? = some x.cps.toList[i.toNat] := by
      have hlt' : i.toNat < x.cps.size := by simpa using hlt
      simp [hlt']
    unfold Txt.item Txt.charAt
    rw [StrLaws.at_nonneg h0 e]
    rfl

def PEq (x : Str) (i : Int) (d : Str) : Prop := d.cps.toList ++ scan (x.cps.toList.drop i.toNat) = scan (x.cps.toList.drop 5)
abbrev PW (x : Str) (i : Int) (d : Str) : Prop := 5 ≤ i ∧ i ≤ (x.length : Int) ∧ (d.length : Int) ≤ i ∧ PEq x i d
/-- the name that parse257 tells of a reply that begins with 257, a blank and a mark -/
def told (x : Str) : Str := ⟨(scan (x.cps.toList.drop 5)).toArray⟩
section
variable {x d : Str} {i : Int}
theorem parse_start (h : 5 ≤ x.length) : PW x 5 (Str.ofString "") := ⟨Int.le_refl _, by omega, by decide, by
  have e : (Str.ofString "").cps.toList = [] := by decide +kernel
  unfold PEq; rw [e]; rfl⟩
theorem parse_w1 (h5 : 5 ≤ i) (h : i < (x.length : Int)) (hd : (d.length : Int) ≤ i) (hp : PEq x i d) (hc : (Txt.item x i == Str.ofString "\"") = false) : PW x (i + 1) (d ++ Txt.item x i) := by
  obtain ⟨c, e1, e2⟩ := item_at (by omega) h
  rw [e2, qm] at hc
  have hne : c ≠ 34 := by rintro rfl; simp at hc
  refine ⟨by omega, by omega, ?_, ?_⟩
  · rw [Str.length_append, e2]; show ((d.length + 1 : Nat) : Int) ≤ _; omega
  · unfold PEq at hp ⊢
    rw [← hp, e1, scan_on _ hne, Str.cps_append, e2]
    simp
theorem parse_w2 (h5 : 5 ≤ i) (h : i < (x.length : Int)) (h' : ¬ (x.length : Int) ≤ i + 1) (hd : (d.length : Int) ≤ i) (hp : PEq x i d) (hc : (Txt.item x i == Str.ofString "\"") = true) (hc' : (Txt.item x (i + 1) != Str.ofString "\"") = false) :
    PW x (i + 1 + 1) (d ++ Txt.item x i) := by
  obtain ⟨c, e1, e2⟩ := item_at (by omega) h
  obtain ⟨c', e1', e2'⟩ := item_at (x := x) (i := i + 1) (by omega) (by omega)
  rw [e2, qm] at hc
  rw [e2', qm] at hc'
  have hne : c = 34 := by simpa using hc
  have hne' : c' = 34 := by simpa using hc'
  subst hne hne'
  refine ⟨by omega, by omega, ?_, ?_⟩
  · rw [Str.length_append, e2]; show ((d.length + 1 : Nat) : Int) ≤ _; omega
  · unfold PEq at hp ⊢
    rw [← hp, e1, e1', scan_two, Str.cps_append, e2]
    simp
theorem str_of_list {d : Str} {l : List Nat} (h : d.cps.toList = l) : d = ⟨l.toArray⟩ := by
  subst h; rfl
theorem parse_e1 (h5 : 5 ≤ i) (h : i < (x.length : Int)) (h' : (x.length : Int) ≤ i + 1) (hp : PEq x i d) (hc : (Txt.item x i == Str.ofString "\"") = true) : d = told x := by
  obtain ⟨c, e1, e2⟩ := item_at (by omega) h
  rw [e2, qm] at hc
  have hne : c = 34 := by simpa using hc
  subst hne
  refine str_of_list ?_
  unfold PEq at hp
  rw [← hp, e1, List.drop_eq_nil_of_le (as := x.cps.toList) (i := (i + 1).toNat) (by simp [Str.length] at h'; simp; omega), scan_stop1, List.append_nil]
theorem parse_e2 (h5 : 5 ≤ i) (h : i < (x.length : Int)) (h' : ¬ (x.length : Int) ≤ i + 1) (hp : PEq x i d) (hc : (Txt.item x i == Str.ofString "\"") = true) (hc' : (Txt.item x (i + 1) != Str.ofString "\"") = true) : d = told x := by
  obtain ⟨c, e1, e2⟩ := item_at (by omega) h
  obtain ⟨c', e1', e2'⟩ := item_at (x := x) (i := i + 1) (by omega) (by omega)
  rw [e2, qm] at hc
  rw [e2', qm] at hc'
  have hne : c = 34 := by simpa using hc
  have hne' : c' ≠ 34 := by simpa using hc'
  subst hne
  refine str_of_list ?_
  unfold PEq at hp
  rw [← hp, e1, e1', scan_stop _ hne', List.append_nil]
theorem parse_e3 (h5 : 5 ≤ i) (h : ¬ i < (x.length : Int)) (hp : PEq x i d) : d = told x := by
  refine str_of_list ?_
  unfold PEq at hp
  rw [← hp, List.drop_eq_nil_of_le (as := x.cps.toList) (i := i.toNat) (by simp [Str.length] at h; simp; omega), scan_nil, List.append_nil]
theorem bne_no {a b : Str} (e : a = b) (h : (a != b) = true) : False := by subst e; simp at h
theorem bne_no' {a b : Str} (e : ¬ a = b) (h : (a != b) = false) : False := by simp at h; exact e h
end

set_option maxHeartbeats 8000000 in
theorem parse_con (w : World) (news : List (Addr × Obj)) (x : Str) (tx : Tok) (hx : x.length ≤ 1000) (hx5 : 5 ≤ x.length) (h3 : Txt.slice x none (some 3) = Str.ofString "257") (h5 : Txt.slice x (some 3) (some 5) = Str.ofString " \"") :
    Con w 70 news [.str x tx] 1 8 (fun v news' => (∃ t, v = .str (told x) t) ∧ news' = news) := by
  unfold Con PRG
  k_with_none
  w_top off
  k_fill
  intro p loose mean mg mb dp un gd cn cs a ccd cl outer A₀ base h₀ L m s Q E B F X N T hk hd hu hret
  k_with "exec While Compare cons nil" => k_while (fun _ i d => PW x i d) (fun _ i _ => x.length - i.toNat) "i" "dirname"
  k_with "state" => exact parse_start (by assumption)
  k_with "state" => exact parse_w2 (by assumption) (by assumption) (by assumption) (by assumption) (by assumption) (by assumption) (by assumption)
  k_with "state" => exact parse_w1 (by assumption) (by assumption) (by assumption) (by assumption) (by assumption)
  refine wpAny_call ?_
  k_dflt cell_enter
  k_steps
  all_goals first
    | (exfalso; exact bne_no h3 (by assumption))
    | (exfalso; exact bne_no h5 (by assumption))
    | (refine hret _ _ _ _ ?_ (by k_asm) (by k_asm); refine ⟨⟨_, congrArg (Value.str · _) ?_⟩, rfl⟩)
  · exact parse_e1 (by assumption) (by assumption) (by assumption) (by assumption) (by assumption)
  · exact parse_e2 (by assumption) (by assumption) (by assumption) (by assumption) (by assumption) (by assumption)
  · exact parse_e3 (by assumption) (by assumption) (by assumption)
end Mine
end

-- part C8b
section
open PySem
namespace Mine
set_option maxRecDepth 100000
theorem slot_re_search : Slot "re.Pattern" "search" "re.Pattern.search" :=
  .of (owner := "re.Pattern") (n := "search") (by rw [typeLookup_type, builtinLookup_eq_fast]; kernel_rfl) (by decide +kernel) (by decide +kernel) (by decide +kernel)
    (by first | exact .inl (by decide +kernel) | exact .inr (by decide +kernel)) (by rw [isSubtype_type]; kernel_rfl)
theorem type_re_search : typeOf (.builtin "re.Pattern.search") = pure (.type "method_descriptor") := by show builtinType _ = _; rw [builtinType_eq_fast]; kernel_rfl
theorem entry_re_search : entryFor table "re.Pattern.search" = some Builtin.«re.Pattern.search» := entryFor_of_tree (by kernel_rfl)
theorem plainAttrs_re : PlainAttrs "re.Pattern" :=
  ⟨⟨"object.__getattribute__", by rw [typeLookup_type, builtinLookup_eq_fast]; kernel_rfl, by decide +kernel⟩, by rw [typeLookup_type, builtinLookup_eq_fast]; kernel_rfl⟩
theorem owner_re : Manifest.owners.lookup (String.ofList ['n', 'r', 'e', 't', 't', 'a', 'P', '.', 'e', 'r'].reverse) = some Manifest.sig_re_Pattern := by kernel_rfl
theorem args_re_search (a b : Value) : argsOk "re.Pattern.search" ⟨[a, b], []⟩ := by
  unfold argsOk; rw [signature?_of (id := "re.Pattern.search") (n := ['h', 'c', 'r', 'a', 'e', 's']) (o := ['n', 'r', 'e', 't', 't', 'a', 'P', '.', 'e', 'r']) (by kernel_rfl) owner_re]; kernel_rfl
end Mine
end

-- part C2b
section
open PySem PySem.W PyProof.Rows PySem.Calls
set_option Elab.async false
set_option maxRecDepth 100000
namespace Mine
set_option maxHeartbeats 8000000 in
theorem parse_con0 (w : World) (news : List (Addr × Obj)) (x : Str) (tx : Tok) (hx : x.length ≤ 1000) (h3 : (Txt.slice x none (some 3) != Str.ofString "257") = false) (h5 : (Txt.slice x (some 3) (some 5) != Str.ofString " \"") = true) :
    Con w 70 news [.str x tx] 1 8 (fun v news' => (∃ t, v = .str (Str.ofString "") t) ∧ news' = news) := by
  unfold Con PRG
  k_with_none
  w_top off
  k_fill
  intro p loose mean mg mb dp un gd cn cs a ccd cl outer A₀ base h₀ L m s Q E B F X N T hk hd hu hret
  refine wpAny_call ?_
  k_dflt cell_enter
  k_steps
  all_goals (refine hret _ _ _ _ ?_ (by k_asm) (by k_asm); exact ⟨⟨_, rfl⟩, rfl⟩)
end Mine
end

-- part C1
section
open PySem PySem.W PyProof.Rows PySem.Calls
set_option Elab.async false
set_option maxRecDepth 100000
namespace Mine
local macro_rules | `(tactic| walk_at $s:str) => `(tactic| k_extra $s)
/-- does place k lie in what _law_on finds -/
def onB (ps gs : List Int) (sg le : Str) (k : Int) : Bool :=
  (ps.any (· == k) && gs.any (· == k)) || (ps.any (· == k - 1) && Txt.item le (k - 1) == sg)
def onF (ps gs : List Int) (sg le : Str) (ks : List Int) : List Int := ks.filter (onB ps gs sg le)
theorem onF_snoc {ps gs : List Int} {sg le : Str} {pre : List Int} {k : Int} : onF ps gs sg le (pre ++ [k]) = if onB ps gs sg le k then onF ps gs sg le pre ++ [k] else onF ps gs sg le pre := by
  unfold onF
  rw [List.filter_append]
  cases h : onB ps gs sg le k <;> simp [h]
theorem onF_len {ps gs : List Int} {sg le : Str} {pre : List Int} : (onF ps gs sg le pre).length ≤ pre.length := List.length_filter_le _ _

section
variable {ps gs : List Int} {sg le : Str} {pre f : List Int} {k : Int}
abbrev OnP (ps gs : List Int) (sg le : Str) (pre f : List Int) : Prop := f.length ≤ pre.length ∧ f = onF ps gs sg le pre
theorem on_add (h : onB ps gs sg le k = true) (hl : f.length ≤ pre.length) (hf : f = onF ps gs sg le pre) : OnP ps gs sg le (pre ++ [k]) (f ++ [k]) := by
  refine ⟨by simpa using hl, ?_⟩
  rw [onF_snoc, if_pos h, hf]
theorem on_keep (h : onB ps gs sg le k = false) (hl : f.length ≤ pre.length) (hf : f = onF ps gs sg le pre) : OnP ps gs sg le (pre ++ [k]) f := by
  refine ⟨by simp; omega, ?_⟩
  rw [onF_snoc, h, hf]; rfl
theorem on_w1 (a1 : (ps.any fun x => x == k) = true) (a2 : (gs.any fun x => x == k) = true) (hl : f.length ≤ pre.length) (hf : f = onF ps gs sg le pre) : OnP ps gs sg le (pre ++ [k]) (f ++ [k]) :=
  on_add (by unfold onB; rw [a1, a2]; rfl) hl hf
theorem on_w2 (b1 : (ps.any fun x => x == k - 1) = true) (b2 : (Txt.item le (k - 1) == sg) = true) (hl : f.length ≤ pre.length) (hf : f = onF ps gs sg le pre) : OnP ps gs sg le (pre ++ [k]) (f ++ [k]) :=
  on_add (by unfold onB; rw [b1, b2]; simp) hl hf
theorem on_w3 (a1 : (ps.any fun x => x == k) = false) (b1 : (ps.any fun x => x == k - 1) = false) (hl : f.length ≤ pre.length) (hf : f = onF ps gs sg le pre) : OnP ps gs sg le (pre ++ [k]) f :=
  on_keep (by unfold onB; rw [a1, b1]; rfl) hl hf
theorem on_w4 (a1 : (ps.any fun x => x == k) = false) (b2 : (Txt.item le (k - 1) == sg) = false) (hl : f.length ≤ pre.length) (hf : f = onF ps gs sg le pre) : OnP ps gs sg le (pre ++ [k]) f :=
  on_keep (by unfold onB; rw [a1, b2]; simp) hl hf
theorem on_w5 (a2 : (gs.any fun x => x == k) = false) (b1 : (ps.any fun x => x == k - 1) = false) (hl : f.length ≤ pre.length) (hf : f = onF ps gs sg le pre) : OnP ps gs sg le (pre ++ [k]) f :=
  on_keep (by unfold onB; rw [a2, b1]; simp) hl hf
theorem on_w6 (a2 : (gs.any fun x => x == k) = false) (b2 : (Txt.item le (k - 1) == sg) = false) (hl : f.length ≤ pre.length) (hf : f = onF ps gs sg le pre) : OnP ps gs sg le (pre ++ [k]) f :=
  on_keep (by unfold onB; rw [a2, b2]; simp) hl hf
theorem on_done {n : Nat} {vs : List Value} (hi : IntsAre vs f) (hf : f = onF ps gs sg le (rangeKs 0 ((n : Int) + 1 - 0).toNat)) : IntsAre vs (onF ps gs sg le (rangeKs 0 (n + 1))) := by
  have e : ((n : Int) + 1 - 0).toNat = n + 1 := by omega
  rw [e] at hf
  exact hf ▸ hi
end

local macro_rules | `(tactic| k_mem) => `(tactic| first | assumption | exact List.mem_append_left _ (by with_reducible assumption) | exact List.mem_append_right _ (by with_reducible assumption))

set_option maxHeartbeats 8000000 in
theorem on_con (w : World) (news : List (Addr × Obj)) (lp lg : Addr) (vp vg : List Value) (np ng : Nat) (ps gs : List Int) (hp : (lp, listOf vp.toArray np) ∈ news) (hg : (lg, listOf vg.toArray ng) ∈ news) (ip : IntsAre vp ps) (ig : IntsAre vg gs)
    (sg le : Str) (ts tl : Tok) (hl : le.length ≤ 1000) (hl1 : 1 ≤ le.length) :
    Con w 233 news [.ref lp, .str sg ts, .str le tl, .ref lg] 1 8 (fun v news' => ∃ l vs n, v = .ref l ∧ news' = (l, listOf vs.toArray n) :: news ∧ (∀ p ∈ news, p.1 < l) ∧ IntsAre vs (onF ps gs sg le (rangeKs 0 (le.length + 1)))) := by
  unfold Con PRG
  k_with_none
  w_top off
  k_fill
  intro p loose mean mg mb dp un gd cn cs a ccd cl outer A₀ base h₀ L m s Q E B F X N T hk hd hu hret
  k_with "pyIter ref" => k_state (fun pre found => OnP ps gs sg le pre found) "found"
  k_with "state" => exact ⟨Nat.le_refl _, rfl⟩
  k_with "state" => exact on_w6 (by assumption) (by assumption) (by assumption) (by assumption)
  k_with "state" => exact on_w5 (by assumption) (by assumption) (by assumption) (by assumption)
  k_with "state" => exact on_w4 (by assumption) (by assumption) (by assumption) (by assumption)
  k_with "state" => exact on_w3 (by assumption) (by assumption) (by assumption) (by assumption)
  k_with "state" => exact on_w2 (by assumption) (by assumption) (by assumption) (by assumption)
  k_with "state" => exact on_w1 (by assumption) (by assumption) (by assumption) (by assumption)
  refine wpAny_call ?_
  k_dflt cell_enter
  k_with "compareOp In int ref" => (k_here; (with_reducible show wpAny _ _ (compareOp CmpOp.In (Value.int _ _) (Value.ref _)) _ _ _); k_dflt (refine' in_list_ints ?k1y0 ?k2y0 ?_; (case k1y0 => exact News.isList (by k_asm) (by k_mem)); (case k2y0 => assumption)))
  k_steps
  refine hret _ _ _ _ ?hp (by k_asm) (by k_asm)
  case hp => exact ⟨_, _, _, rfl, rfl, by assumption, on_done (by assumption) (by assumption)⟩
end Mine
end

-- part L1
section
open PySem PySem.W PyProof.Rows PySem.Calls PyProof.V PySem.Spec
set_option Elab.async false
set_option maxRecDepth 100000
namespace Mine
section
variable {prog : Program} {w : World} {A : Around} {E : Value → Shared → Prop} {s : Shared} {env : Env} {h₀ : Heap} {x : Str} {body : List Stmt} {Q : Flow → Shared → Prop}

def LEnd (h₀ : Heap) (L : Addr) (J : (Str → Option Value) → List (Addr × Obj) → Prop) (I : Addr) (oI : Obj) (s₁ s₂ : Shared) : Prop :=
  ∃ h' tk m' news' nx, s₂ = { s₁ with heap := h', toks := tk } ∧ Fr h₀ L h' m' ∧ News h₀ L h' news' ∧ (∀ p ∈ nx, p ∈ news') ∧ (I, oI) ∈ news' ∧ (∀ p ∈ nx, p.1 ≠ I) ∧ J m' nx
def LPost (h₀ : Heap) (L : Addr) (J : (Str → Option Value) → List (Addr × Obj) → Prop) (I : Addr) (oI : Obj) (s₁ : Shared) (Q : Flow → Shared → Prop) (f : Flow) (s₂ : Shared) : Prop :=
  match f with
  | .ret v => Q (.ret v) s₂
  | .brk => Q .next s₂
  | _ => LEnd h₀ L J I oI s₁ s₂

/-- own of the loop's turn: the iterator's object, and nothing else that is new -/
theorem own_news {L I : Addr} {oI : Obj} {h₁ : Heap} {fp : List Addr} {own nx : List (Addr × Obj)} {J : (Str → Option Value) → List (Addr × Obj) → Prop} (hI : ∃ o, h₁.get? I = some o ∧ o = oI)
    (hkeep : ∀ b ∈ fp, b ≠ I → (∃ o, h₀.get? b = some o) ∨ (∃ o, (b, o) ∈ nx ∧ ∀ m nx', J m nx' → (b, o) ∈ nx'))
    (hown : ∀ p ∈ own, p.1 ∈ fp) (hget : ∀ p ∈ own, h₁.get? p.1 = some p.2) (N : News h₀ L h₁ (own ++ nx)) {m' : Str → Option Value} {nx' news' : List (Addr × Obj)} (hJ : J m' nx') (hn : ∀ p ∈ nx', p ∈ news') (hi : (I, oI) ∈ news') :
    ∀ p ∈ own, p ∈ news' := by
  intro p hp
  by_cases e : p.1 = I
  · obtain ⟨o, ho, rfl⟩ := hI
    have h1 := hget p hp
    rw [e, ho] at h1
    have : p = (I, o) := Prod.ext e (Option.some.inj h1).symm
    exact this ▸ hi
  · rcases hkeep p.1 (hown p hp) e with ⟨o, ho⟩ | ⟨o, ho, hk⟩
    · have := (N p (List.mem_append_left _ hp)).2.2
      rw [ho] at this
      cases this
    · have h1 := hget p hp
      have h2 := (N _ (List.mem_append_right _ ho)).1
      rw [h1] at h2
      have : p = (p.1, o) := Prod.ext rfl (Option.some.inj h2)
      exact this ▸ hn _ (hk _ _ hJ)

theorem loop_J {I : Addr} {fp : List Addr} {n : Nat} {P : Nat → Value → Prop} {St : Nat → Heap → Prop} {m₀ : Str → Option Value} {nx₀ : List (Addr × Obj)} (J : Nat → (Str → Option Value) → List (Addr × Obj) → Prop)
    (W : Walks prog w A I fp [I] n P St) (hI0 : h₀.get? I = none) (hlive : ∀ i h, St i h → ∃ o, h.get? I = some o) (hLf : env.locals ∉ fp)
    (hkeep : ∀ b ∈ fp, b ≠ I → (∃ o, h₀.get? b = some o) ∨ (∃ o, ∀ i m nx, J i m nx → (b, o) ∈ nx))
    (hnw : ∀ p ∈ nx₀, p.1 ≠ I) (hst : St 0 s.heap) (F : Fr h₀ env.locals s.heap m₀) (N : News h₀ env.locals s.heap nx₀) (h0 : J 0 m₀ nx₀)
    (turn : ∀ i v m₁ nx h tk oI, i < n → P i v → J i m₁ nx → (∀ p ∈ nx, p.1 ≠ I) → Fr h₀ env.locals h (fun y => if y = x then some v else m₁ y) → News h₀ env.locals h ((I, oI) :: nx) →
      wpAny (model prog w) A (execs body env) (LPost h₀ env.locals (J (i + 1)) I oI { s with heap := h, toks := tk } Q) E { s with heap := h, toks := tk })
    (done : ∀ m₁ nx h tk, J n m₁ nx → Fr h₀ env.locals h m₁ → News h₀ env.locals h nx → Q .next { s with heap := h, toks := tk }) :
    LoopAtV prog w A h₀ env x body Q E (.ref I) s := by
  refine ⟨I, fp, [I], n, P, St, m₀, nx₀, J, rfl, W, hLf, ?_, ?_, hst, F, N, h0, ?_, ?_⟩
  · intro b hb; rw [List.mem_singleton.mp hb]; exact hI0
  · intro p hp hq; exact hnw p hp (List.mem_singleton.mp hq)
  · rintro i v m₁ nx s₁ own ⟨hh, tk, rfl⟩ hi hP hJ hoff hown hget hall hst₁ F₁ N₁
    obtain ⟨oI, hoI⟩ := hlive _ _ hst₁
    have hIown : (I, oI) ∈ own := hall I (W.sub I (List.mem_singleton.mpr rfl)) hI0 oI hoI
    have hne : ∀ p ∈ nx, p.1 ≠ I := fun p hp e => hoff p hp (List.mem_singleton.mpr e)
    have N₂ : News h₀ env.locals hh ((I, oI) :: nx) := fun p hp => by
      rcases List.mem_cons.mp hp with rfl | hp
      · exact N₁ _ (List.mem_append_left _ hIown)
      · exact N₁ _ (List.mem_append_right _ hp)
    refine wpAny_mono (turn i v m₁ nx hh tk oI hi hP hJ hne F₁ N₂) (fun f s₂ p => ?_) fun _ _ e => e
    have fin : LEnd h₀ env.locals (J (i + 1)) I oI { s with heap := hh, toks := tk } s₂ → LoopStepU h₀ env.locals [I] own (J (i + 1)) { s with heap := hh, toks := tk } .next s₂ := by
      rintro ⟨h', tk', m', news', nx', e, F', N', hn, hi', hI', hm⟩
      have hk : ∀ b ∈ fp, b ≠ I → (∃ o, h₀.get? b = some o) ∨ (∃ o, (b, o) ∈ nx ∧ ∀ m nx', J (i + 1) m nx' → (b, o) ∈ nx') := fun b hb hne => by
        rcases hkeep b hb hne with h | ⟨o, h⟩
        · exact .inl h
        · exact .inr ⟨o, h _ _ _ hJ, fun m nx' hj => h _ _ _ hj⟩
      refine ⟨rfl, h', tk', m', nx', e, F', fun p hp => ?_, fun p hp hq => hI' p hp (List.mem_singleton.mp hq), hm⟩
      rcases List.mem_append.mp hp with h | h
      · exact N' p (own_news (J := J (i + 1)) ⟨oI, hoI, rfl⟩ hk hown hget N₁ hm hn hi' p h)
      · exact N' p (hn p h)
    cases f with
    | ret v => exact .ret p
    | brk => exact .brk p
    | next => exact .next (fin p)
    | cont => exact .cont (fin p)
  · rintro h' tk m' nx F' N' _ hJ
    exact done m' nx h' tk hJ F' N'

/-- a loop's state: what it changes -/
def JS {σ : Type} (Led : σ → List (Addr × Obj)) (ps : σ → List (Str × Value)) (Facts : Nat → σ → Prop) (x : Str) (stored : List Str) (m₀ : Str → Option Value) (i : Nat) (m : Str → Option Value) (nx : List (Addr × Obj)) : Prop :=
  ∃ c : σ, nx = Led c ∧ Facts i c ∧ (∀ p ∈ ps c, m p.1 = some p.2) ∧ ∀ z, z ≠ x → (∀ p ∈ ps c, z ≠ p.1) → stored.contains z = false → m z = m₀ z
theorem JS.fin {σ : Type} {Led : σ → List (Addr × Obj)} {ps : σ → List (Str × Value)} {Facts : Nat → σ → Prop} {stored : List Str} {m₀ : Str → Option Value} {i : Nat} (c : σ) {L I : Addr} {oI : Obj} {m' : Str → Option Value} {news' : List (Addr × Obj)} {s₁ : Shared} {h' : Heap} {tk : Nat}
    (F : Fr h₀ L h' m') (N : News h₀ L h' news') (hk : ∀ p ∈ ps c, m' p.1 = some p.2) (hn : ∀ p ∈ Led c, p ∈ news') (hi : (I, oI) ∈ news') (hI : ∀ p ∈ Led c, p.1 ≠ I) (hf : Facts i c) (hr : ∀ z, z ≠ x → (∀ p ∈ ps c, z ≠ p.1) → stored.contains z = false → m' z = m₀ z) :
    LEnd h₀ L (JS Led ps Facts x stored m₀ i) I oI s₁ { s₁ with heap := h', toks := tk } :=
  ⟨h', tk, m', news', Led c, rfl, F, N, hn, hi, hI, c, rfl, hf, hk, hr⟩

theorem loop_S {σ : Type} {I : Addr} {fp : List Addr} {n : Nat} {P : Nat → Value → Prop} {St : Nat → Heap → Prop} {m₀ : Str → Option Value} (Led : σ → List (Addr × Obj)) (ps : σ → List (Str × Value)) (Facts : Nat → σ → Prop) (stored : List Str) (c₀ : σ)
    (W : Walks prog w A I fp [I] n P St) (hI0 : h₀.get? I = none) (hlive : ∀ i h, St i h → ∃ o, h.get? I = some o) (hLf : env.locals ∉ fp)
    (hkeep : ∀ b ∈ fp, b ≠ I → (∃ o, h₀.get? b = some o) ∨ (∃ o, ∀ c, (b, o) ∈ Led c))
    (hnw : ∀ p ∈ Led c₀, p.1 ≠ I) (hst : St 0 s.heap) (F : Fr h₀ env.locals s.heap m₀) (N : News h₀ env.locals s.heap (Led c₀)) (hf : Facts 0 c₀) (hk : ∀ p ∈ ps c₀, m₀ p.1 = some p.2)
    (turn : ∀ i v (c : σ) (u : Str → Option Value) h tk oI, i < n → P i v → Facts i c → (∀ p ∈ Led c, p.1 ≠ I) →
      Fr h₀ env.locals h (fun y => if y = x then some v else kstB (fun z => if stored.contains z then u z else m₀ z) (ps c) y) → News h₀ env.locals h ((I, oI) :: Led c) →
      wpAny (model prog w) A (execs body env) (LPost h₀ env.locals (JS Led ps Facts x stored m₀ (i + 1)) I oI { s with heap := h, toks := tk } Q) E { s with heap := h, toks := tk })
    (done : ∀ (c : σ) (u : Str → Option Value) h tk, Facts n c → Fr h₀ env.locals h (fun y => if y = x then u y else kstB (fun z => if stored.contains z then u z else m₀ z) (ps c) y) → News h₀ env.locals h (Led c) → Q .next { s with heap := h, toks := tk }) :
    LoopAtV prog w A h₀ env x body Q E (.ref I) s := by
  refine loop_J (JS Led ps Facts x stored m₀) W hI0 hlive hLf ?_ hnw hst F N ⟨c₀, rfl, hf, hk, fun _ _ _ _ => rfl⟩ ?_ ?_
  · intro b hb hne
    rcases hkeep b hb hne with h | ⟨o, h⟩
    · exact .inl h
    · refine .inr ⟨o, ?_⟩
      rintro i m nx ⟨c, rfl, _⟩
      exact h c
  · rintro i v m₁ nx h tk oI hi hP ⟨c, rfl, hf', h1, h2⟩ hne F₁ N₁
    exact turn i v c m₁ h tk oI hi hP hf' hne (kst_fr h1 h2 F₁) N₁
  · rintro m₁ nx h tk ⟨c, rfl, hf', h1, h2⟩ F₁ N₁
    exact done c m₁ h tk hf' (kst_frOut h1 h2 F₁) N₁

/-- for sign in text -/
theorem loop_text {σ : Type} {xt : Str} {tx : Tok} {m₀ : Str → Option Value} (Led : σ → List (Addr × Obj)) (ps : σ → List (Str × Value)) (Facts : Nat → σ → Prop) (stored : List Str) (c₀ : σ)
    (hh : A.handled = none) (F : Fr h₀ env.locals s.heap m₀) (N : News h₀ env.locals s.heap (Led c₀)) (hf : Facts 0 c₀) (hk : ∀ p ∈ ps c₀, m₀ p.1 = some p.2)
    (turn : ∀ i (n : Nat) t I (c : σ) (u : Str → Option Value) h tk oI, xt.cps.toList[i]? = some n → Facts i c → (∀ p ∈ Led c, p.1 ≠ I) →
      Fr h₀ env.locals h (fun y => if y = x then some (.str ⟨#[n]⟩ t) else kstB (fun z => if stored.contains z then u z else m₀ z) (ps c) y) → News h₀ env.locals h ((I, oI) :: Led c) →
      wpAny (model prog w) A (execs body env) (LPost h₀ env.locals (JS Led ps Facts x stored m₀ (i + 1)) I oI { s with heap := h, toks := tk } Q) E { s with heap := h, toks := tk })
    (done : ∀ (c : σ) (u : Str → Option Value) h tk, Facts xt.length c → Fr h₀ env.locals h (fun y => if y = x then u y else kstB (fun z => if stored.contains z then u z else m₀ z) (ps c) y) → News h₀ env.locals h (Led c) → Q .next { s with heap := h, toks := tk }) :
    wpAny (model prog w) A (pyIter (.str xt tx)) (fun it s₂ => LoopAtV prog w A h₀ env x body Q E it s₂) E s := by
  have hsz : ∀ p ∈ Led c₀, p.1 ≠ s.heap.objs.size := fun p hp e => absurd (Heap.lt_size (N p hp).1) (by rw [e]; exact Nat.lt_irrefl _)
  have go : ∀ (o : Obj) (St : Nat → Heap → Prop), Walks prog w A s.heap.objs.size [s.heap.objs.size] [s.heap.objs.size] xt.cps.size (SignAt xt) St → (∀ i h, St i h → ∃ o, h.get? s.heap.objs.size = some o) → St 0 (s.heap.push o) →
      LoopAtV prog w A h₀ env x body Q E (.ref s.heap.objs.size) { s with heap := s.heap.push o } := fun o St W hl hst => by
    refine loop_S Led ps Facts stored c₀ W (next_is_new F) hl ?_ ?_ hsz hst (F.push _) (fun p hp => ⟨Heap.get?_push_of_some _ (N p hp).1, (N p hp).2⟩) hf hk ?_ ?_
    · intro hm
      exact absurd F.ns.lt ((List.mem_singleton.mp hm) ▸ Nat.lt_irrefl _)
    · intro b hb hne
      exact absurd (List.mem_singleton.mp hb) hne
    · rintro i v c u h tk oI hi ⟨n, t, hn, rfl⟩ hf' hne F₁ N₁
      exact turn i n t _ c u h tk oI (by simpa using hn) hf' hne F₁ N₁
    · exact done
  cases ha : xt.cps.all (· < 128)
  · exact wpAny_pyIter_wide ha (go _ _ (Walks.strWide hh _ xt tx) (fun _ _ ⟨o, ho, _⟩ => ⟨o, ho⟩) ⟨_, Heap.get?_push_size _ rfl, rfl, rfl⟩)
  · exact wpAny_pyIter_ascii ha (go _ _ (Walks.strAscii hh _ xt tx) (fun _ _ ⟨o, ho, _⟩ => ⟨o, ho⟩) ⟨_, Heap.get?_push_size _ rfl, rfl, rfl⟩)

/-- for y in a list of the ledger that the loop lets be -/
theorem loop_list {σ : Type} {l : Addr} {vs : List Value} {nn : Nat} {m₀ : Str → Option Value} (Led : σ → List (Addr × Obj)) (ps : σ → List (Str × Value)) (Facts : Nat → σ → Prop) (stored : List Str) (c₀ : σ)
    (hh : A.handled = none) (hl : ∀ c : σ, (l, listOf vs.toArray nn) ∈ Led c) (F : Fr h₀ env.locals s.heap m₀) (N : News h₀ env.locals s.heap (Led c₀)) (hf : Facts 0 c₀) (hk : ∀ p ∈ ps c₀, m₀ p.1 = some p.2)
    (turn : ∀ i v I (c : σ) (u : Str → Option Value) h tk oI, vs[i]? = some v → Facts i c → (∀ p ∈ Led c, p.1 ≠ I) →
      Fr h₀ env.locals h (fun y => if y = x then some v else kstB (fun z => if stored.contains z then u z else m₀ z) (ps c) y) → News h₀ env.locals h ((I, oI) :: Led c) →
      wpAny (model prog w) A (execs body env) (LPost h₀ env.locals (JS Led ps Facts x stored m₀ (i + 1)) I oI { s with heap := h, toks := tk } Q) E { s with heap := h, toks := tk })
    (done : ∀ (c : σ) (u : Str → Option Value) h tk, Facts vs.length c → Fr h₀ env.locals h (fun y => if y = x then u y else kstB (fun z => if stored.contains z then u z else m₀ z) (ps c) y) → News h₀ env.locals h (Led c) → Q .next { s with heap := h, toks := tk }) :
    wpAny (model prog w) A (pyIter (.ref l)) (fun it s₂ => LoopAtV prog w A h₀ env x body Q E it s₂) E s := by
  have hol : s.heap.get? l = some (listOf vs.toArray nn) := (N _ (hl c₀)).1
  have hls : s.heap.IsList l vs.toArray := ⟨_, hol, rfl, nn, rfl⟩
  have hne : l ≠ s.heap.objs.size := Nat.ne_of_lt (Heap.lt_size hol)
  have hsz : ∀ p ∈ Led c₀, p.1 ≠ s.heap.objs.size := fun p hp e => absurd (Heap.lt_size (N p hp).1) (by rw [e]; exact Nat.lt_irrefl _)
  refine wpAny_pyIter_list hls ?_
  have W := Walks.list (prog := prog) (w := w) hh s.heap.objs.size l hne vs.toArray
  rw [List.size_toArray] at W
  refine loop_S Led ps Facts stored c₀ W (next_is_new F) (fun _ _ ⟨⟨o, ho, _⟩, _⟩ => ⟨o, ho⟩) ?_ ?_ hsz ⟨⟨_, Heap.get?_push_size _ rfl, rfl, rfl⟩, hls.at fun o e => Heap.get?_push_of_some _ e⟩ (F.push _) (fun p hp => ⟨Heap.get?_push_of_some _ (N p hp).1, (N p hp).2⟩) hf hk ?_ ?_
  · intro hm
    rcases List.mem_cons.mp hm with e | hm
    · exact absurd F.ns.lt (e ▸ Nat.lt_irrefl _)
    · exact (N _ (hl c₀)).2.1 ((List.mem_singleton.mp hm).symm)
  · intro b hb hne'
    rcases List.mem_cons.mp hb with e | hb
    · exact absurd e hne'
    · rw [List.mem_singleton.mp hb]; exact .inr ⟨_, hl⟩
  · intro i v c u h tk oI hi hP hf' hne' F₁ N₁
    exact turn i v _ c u h tk oI (by simpa using hP) hf' hne' F₁ N₁
  · exact done

/-- for k in range(n) -/
theorem loop_range {σ : Type} {r : Addr} {b₀ : Int} {t₀ u₀ v₀ : Tok} {n : Nat} {m₀ : Str → Option Value} (Led : σ → List (Addr × Obj)) (ps : σ → List (Str × Value)) (Facts : Nat → σ → Prop) (stored : List Str) (c₀ : σ)
    (hh : A.handled = none) (hr : IsRange s.heap r 0 b₀ 1 t₀ u₀ v₀) (hb : b₀ = (n : Int)) (hsm : n < 2 ^ 60) (F : Fr h₀ env.locals s.heap m₀) (N : News h₀ env.locals s.heap (Led c₀)) (hf : Facts 0 c₀) (hk : ∀ p ∈ ps c₀, m₀ p.1 = some p.2)
    (turn : ∀ (i : Nat) t I (c : σ) (u : Str → Option Value) h tk oI, i < n → Facts i c → (∀ p ∈ Led c, p.1 ≠ I) →
      Fr h₀ env.locals h (fun y => if y = x then some (.int (i : Int) t) else kstB (fun z => if stored.contains z then u z else m₀ z) (ps c) y) → News h₀ env.locals h ((I, oI) :: Led c) →
      wpAny (model prog w) A (execs body env) (LPost h₀ env.locals (JS Led ps Facts x stored m₀ (i + 1)) I oI { s with heap := h, toks := tk } Q) E { s with heap := h, toks := tk })
    (done : ∀ (c : σ) (u : Str → Option Value) h tk, Facts n c → Fr h₀ env.locals h (fun y => if y = x then u y else kstB (fun z => if stored.contains z then u z else m₀ z) (ps c) y) → News h₀ env.locals h (Led c) → Q .next { s with heap := h, toks := tk }) :
    wpAny (model prog w) A (pyIter (.ref r)) (fun it s₂ => LoopAtV prog w A h₀ env x body Q E it s₂) E s := by
  subst hb
  have hsz : ∀ p ∈ Led c₀, p.1 ≠ s.heap.objs.size := fun p hp e => absurd (Heap.lt_size (N p hp).1) (by rw [e]; exact Nat.lt_irrefl _)
  have hsmall : Builtin.Range.small 0 (n : Int) 1 = true := small_one (by omega) (by omega) (by omega) (by omega)
  have hn : Builtin.Range.rangeSize 0 (n : Int) 1 = (n : Int) := by
    have := rangeSize_nat 0 (n : Int)
    have e : ((n : Int) - 0).toNat = n := by omega
    rw [e] at this
    exact this
  refine wpAny_pyIter_range hr hsmall ?_
  have W : Walks prog w A s.heap.objs.size [s.heap.objs.size] [s.heap.objs.size] n (fun i v => i < n ∧ ∃ t, v = .int (0 + i * 1) t)
      (fun i h => IsRangeIter h s.heap.objs.size (0 + (i : Nat) * 1) ((n : Int) - (i : Nat)) 1) := (Walks.range hh _ 0 1 n).bound
  refine loop_S Led ps Facts stored c₀ W (next_is_new F) (fun _ _ hs => ⟨_, hs⟩) ?_ ?_ hsz (by show IsRangeIter _ _ _ _ _; rw [hn]; simpa using Heap.get?_push_size _ rfl) (F.push _) (fun p hp => ⟨Heap.get?_push_of_some _ (N p hp).1, (N p hp).2⟩) hf hk ?_ ?_
  · intro hm
    exact absurd F.ns.lt ((List.mem_singleton.mp hm) ▸ Nat.lt_irrefl _)
  · intro b hb hne
    exact absurd (List.mem_singleton.mp hb) hne
  · rintro i v c u h tk oI hi ⟨_, t, rfl⟩ hf' hne F₁ N₁
    have e : (0 : Int) + (i : Int) * 1 = (i : Int) := by omega
    rw [e] at F₁
    exact turn i t _ c u h tk oI hi hf' hne F₁ N₁
  · exact done
end
end Mine
end

-- part L2
section
open PySem PySem.W PyProof.Rows PySem.Calls
set_option Elab.async false
set_option maxRecDepth 100000
namespace Mine
open PyProof.Rows
theorem replace_len (x y z : Str) (hz : z.length ≤ 14) : (Txt.replace x y z).length ≤ 15 * x.length + 14 := by
  unfold Txt.replace
  split
  · omega
  · have h1 := StrLaws.occ_length_le x y 0 x.length (x.length + 1)
    have hy : (Builtin.Str.glued y (Builtin.Str.partsBetween x (Builtin.Str.occurrences x y 0 x.length (x.length + 1)) y.length)).length = x.length := by rw [StrLaws.glued_between_self]
    rw [size_glued, length_partsBetween, Nat.add_sub_cancel] at hy
    rw [size_glued, length_partsBetween, Nat.add_sub_cancel]
    have h2 : (Builtin.Str.occurrences x y 0 x.length (x.length + 1)).length * z.length ≤ (x.length + 1) * 14 := Nat.mul_le_mul h1 hz
    omega
def ReplPost (B : Nat) (a b : Str) (Q : Value → Shared → Prop) (v : Value) (s' : Shared) : Prop :=
  match v with
  | .str x _ => x.length ≤ B ∧ ∀ t' k, 1 ≤ k → (Txt.replace x a b).length ≤ 15 * x.length + 14 → Q (.str (Txt.replace x a b) t') { s' with toks := k }
  | _ => False
set_option maxHeartbeats 4000000 in
theorem eval_replace {prog : Program} {w : World} {A : Around} {E : Value → Shared → Prop} {s : Shared} {env : Env} {obj : PySem.Expr} {a b : Str} {k1 k2 : Nat} {p1 p2 p3 p4 : Pos} {pl : Sem Bool} {Q : Value → Shared → Prop}
    (hT : 1 ≤ s.toks) (hab : (a == b) = false) (hb : b.length ≤ 14)
    (h : wpAny (model prog w) A (eval obj env) (ReplPost 100000 a b Q) E s)
    (he : eval (.Call (.Attribute obj (Str.ofString "replace") p1) [.Constant (.str a) k1 p2, .Constant (.str b) k2 p3] [] p4) env = (do
      let ov ← eval obj env
      standAt p1.atName
      let (f, first) ← holding [ov] (getMethod ov (Str.ofString "replace") pl)
      callWith p4 f first (backTo p4 (starEach [.Constant (.str a) k1 p2, .Constant (.str b) k2 p3] env)) []) := by rfl) :
    wpAny (model prog w) A (eval (.Call (.Attribute obj (Str.ofString "replace") p1) [.Constant (.str a) k1 p2, .Constant (.str b) k2 p3] [] p4) env) Q E s := by
  refine MethodCall_ ?_ he
  refine wpAny_mono (wpAny_toks_of hT h) (fun v s' hv => ?_) fun _ _ x => x.2
  obtain ⟨h1, hv⟩ := hv
  cases v <;> try exact hv.elim
  rename_i x t
  obtain ⟨hx, hq⟩ := hv
  refine GM.replace ?_
  refine callWith_method1 ?_
  walk1
  walk1
  walk1
  walk1
  walk1
  refine wpAny_with_toks (n := 1) (Nat.le_add_left 1 _) (SC.replaceW (Nat.ne_of_gt h1) (Nat.succ_ne_zero _) (Nat.ne_of_lt (Nat.lt_succ_self _)) hab (by omega) hb ?_)
  exact fun t' k hk => hq t' k hk (replace_len x a b hb)

/-- the suite's next line, the count of tokens being one at least -/
theorem execs_cons_T {M : Model} {A : Around} {E : Value → Shared → Prop} {s : Shared} {env : Env} {st : Stmt} {rest : List Stmt} {Q : Flow → Shared → Prop} (h1 : 1 ≤ s.toks)
    (h : ∀ tk, 1 ≤ tk → wpAny M A (exec st env) (fun f s' => match f with | .next => wpAny M A (execs rest env) Q E s' | f => Q f s') E { s with toks := tk }) : wpAny M A (execs (st :: rest) env) Q E s :=
  wpAny_execs_cons (h _ h1)
end Mine
end

-- part C8c
section
open PySem PySem.W PyProof.Rows PySem.Calls PySem.Builtin PySem.Builtin.Re
set_option maxRecDepth 100000
namespace Mine
theorem named_eq (x : Str) (t : Tok) : reNamed "re.Pattern.search" "search" ["string", "pos", "endpos"] 1 [Value.str x t] [] = pure [some (Value.str x t), none, none] := by rfl
theorem text_eq (x : Str) (t : Tok) : reTextOf (.str x t) = pure (x.cps, 0) := by rfl
section
variable {M : Model} {A : Around} {E : Value → Shared → Prop} {s : Shared}
theorem items_raw {C : Addr} {oC : Obj} {code : Array Value} {nn : Nat} {Q : Array Int → Shared → Prop} (hC : s.heap.get? C = some oC) (hCd : oC.data = .seq code nn) (h : Q (code.map reRawOf) s) : wpAny M A (reRawItems (.ref C)) Q E s := by
  unfold reRawItems
  refine wpAny_bind ?_
  unfold seqItems?
  refine wpAny_bind (wpAny_load hC ?_)
  rw [hCd]
  exact wpAny_pure (wpAny_pure h)
theorem rules_only {Q : PUnit → Shared → Prop} (p : Nat → Bool) (g : Nat → String) : ∀ (l : List Nat), Q PUnit.unit s → wpAny M A (forIn l PUnit.unit fun i (_ : PUnit) => (if p i = true then (do
    rule (g i)
    pure (ForInStep.yield PUnit.unit)) else pure (ForInStep.yield PUnit.unit) : Sem (ForInStep PUnit))) Q E s
  | [], h => by
    rw [List.forIn_nil]; exact wpAny_pure h
  | i :: l, h => by
    rw [List.forIn_cons]
    refine wpAny_bind ?_
    split
    · exact wpAny_bind (wpAny_rule (wpAny_pure (rules_only p g l h)))
    · exact wpAny_pure (rules_only p g l h)
theorem drive_one (m : Sre.M) (o : Sre.Outcome) (h : (m.runFor 4).outcome = some o) : reDrive (2 ^ 64) m = pure (m.runFor 4) := by
  have e : (2 ^ 64 : Nat) = (2 ^ 64 - 1) + 1 := by decide
  rw [e]
  unfold reDrive
  show (if (m.runFor 4).outcome.isSome = true then pure (m.runFor 4) else _) = _
  rw [if_pos (by rw [h]; rfl)]
end
set_option maxHeartbeats 1000000 in
theorem call_search {prog : Program} {w : World} {A : Around} {E : Value → Shared → Prop} {s : Shared} {R C : Addr} {pat : Value} {code : Array Value} {x : Str} {t : Tok} {Q : Value → Shared → Prop} {oR oC : Obj} {nn : Nat} {f1 : Value}
    (hR : s.heap.get? R = some oR) (hRc : oR.cls = .type "re.Pattern") (hRd : oR.data = .fields #[pat, f1, .int 0 0, .none, .none, .ref C, .int 0 0])
    (hC : s.heap.get? C = some oC) (hCc : oC.cls = .type "tuple") (hCd : oC.data = .seq code nn)
    (hm : ((Sre.forSearch ((code.map reRawOf).map (·.toNat)) x.cps 0 0 x.cps.size false).runFor 4).outcome = some .failed)
    (hx : x.length ≤ 1000) (h : Q .none s) : wpAny (model prog w) A (call (.builtin "re.Pattern.search") [.ref R, .str x t]) Q E s := by
  refine wpAny_call_entry slot_re_search ⟨oR, hR, hRc⟩ entry_re_search ?_ (args_re_search _ _)
  unfold «re.Pattern.search» reTarget
  dsimp only
  rw [named_eq]
  refine wpAny_bind (wpAny_bind (wpAny_pure ?_))
  dsimp only
  refine wpAny_bind (wpAny_pure ?_)
  refine wpAny_bind (wpAny_pure ?_)
  refine wpAny_bind (wpAny_fieldsOf hR hRd ?_)
  rw [text_eq]
  refine wpAny_bind (wpAny_pure ?_)
  split
  · rename_i hf; exact absurd hf Bool.false_ne_true
  split
  · rename_i hf; exact absurd hf Bool.false_ne_true
  refine wpAny_bind (show wpAny _ _ (pure PUnit.unit) _ _ _ from wpAny_pure ?_)
  refine wpAny_bind (show wpAny _ _ (reRawItems (.ref C)) _ _ _ from items_raw hC hCd ?_)
  refine wpAny_pure ?_
  dsimp only
  have hlim : Min.min (2 ^ 63 - 1 : Int).toNat x.cps.size = x.cps.size := by
    have e : ((2 ^ 63 - 1 : Int)).toNat = 9223372036854775807 := by decide
    unfold Str.length at hx
    omega
  have hpos : Min.min (Int.toNat 0) x.cps.size = 0 := by simp
  rw [hlim, hpos]
  unfold reAnswer reRunToEnd
  dsimp only
  refine wpAny_bind (wpAny_bind ?_)
  refine (show wpAny _ _ (reDrive (2 ^ 64) (Sre.forSearch ((code.map reRawOf).map (·.toNat)) x.cps 0 0 x.cps.size false)) _ _ _ from ?_)
  rw [drive_one _ _ hm]
  refine wpAny_pure (wpAny_bind (rules_only _ _ _ ?_))
  rw [hm]
  refine wpAny_pure ?_
  exact wpAny_pure ⟨_, rfl, h⟩
end Mine
end

-- part L3
section
open PySem PySem.W PyProof.Rows PySem.Calls PyProof.V PySem.Spec PySem.Builtin PySem.Builtin.Str
set_option Elab.async false
set_option maxRecDepth 100000
namespace Mine
/-- str.find with a start and an end -/
def find4 (x y : Str) (i j : Int) : Int := match occurrences x y (fromIndex x.length i) (min (fromIndex x.length j) x.length) 1 with | k :: _ => (k : Int) | [] => -1
theorem gives_find4 (x y : Str) (i j : Int) (t u v r : Tok) : Gives («str.find» ⟨[.str x t, .str y u, .int i v, .int j r], []⟩) (.int (find4 x y i j)) := by
  unfold find4
  show Gives (match occurrences x y (fromIndex x.length i) (min (fromIndex x.length j) x.length) 1 with | k :: _ => retInt k | [] => (do rule "str.find.not-found"; retInt (-1))) _
  cases occurrences x y (fromIndex x.length i) (min (fromIndex x.length j) x.length) 1 with
  | nil => exact .rule (.of_eq rfl)
  | cons k _ => exact .of_eq rfl
theorem call_find4 {prog : Program} {w : World} {A : Around} {E : Value → Shared → Prop} {s : Shared} {x y : Str} {t u v r : Tok} {i j : Int} {Q : Value → Shared → Prop}
    (hq : ∀ t' k, Q (.int (find4 x y i j) t') { s with toks := k }) : wpAny (model prog w) A (call (.builtin "str.find") [.str x t, .str y u, .int i v, .int j r]) Q E s :=
  call_gives F.slot_str_find (typeIs_str _ _ _) F.entry_str_find (F.args_str_find_4 _ _ _ _) (gives_find4 x y i j t u v r) (hq _ _)

theorem find4_bnd (x y : Str) (i j : Int) : -1 ≤ find4 x y i j ∧ find4 x y i j ≤ x.length := by
  unfold find4
  split
  · rename_i k r e
    have h := (StrLaws.occ_spec x y (fromIndex x.length i) (min (fromIndex x.length j) x.length) 1 k (by rw [e]; exact List.Mem.head _)).1
    omega
  · omega
section
variable {prog : Program} {w : World} {A : Around} {E : Value → Shared → Prop} {s : Shared} {env : Env} {h₀ : Heap} {x : Str} {body : List Stmt} {Q : Flow → Shared → Prop}
def strsOf (ss : List (Str × Tok)) : List Value := ss.map fun p => Value.str p.1 p.2
theorem loop_strs {σ : Type} {l : Addr} (ss : List (Str × Tok)) {nn : Nat} {m₀ : Str → Option Value} (Led : σ → List (Addr × Obj)) (ps : σ → List (Str × Value)) (Facts : Nat → σ → Prop) (stored : List Str) (c₀ : σ)
    (hh : A.handled = none) (hl : ∀ c : σ, (l, listOf (strsOf ss).toArray nn) ∈ Led c) (F : Fr h₀ env.locals s.heap m₀) (N : News h₀ env.locals s.heap (Led c₀)) (hf : Facts 0 c₀) (hk : ∀ p ∈ ps c₀, m₀ p.1 = some p.2)
    (turn : ∀ i y t I (c : σ) (u : Str → Option Value) h tk oI, ss[i]? = some (y, t) → Facts i c → (∀ p ∈ Led c, p.1 ≠ I) →
      Fr h₀ env.locals h (fun z => if z = x then some (.str y t) else kstB (fun z => if stored.contains z then u z else m₀ z) (ps c) z) → News h₀ env.locals h ((I, oI) :: Led c) →
      wpAny (model prog w) A (execs body env) (LPost h₀ env.locals (JS Led ps Facts x stored m₀ (i + 1)) I oI { s with heap := h, toks := tk } Q) E { s with heap := h, toks := tk })
    (done : ∀ (c : σ) (u : Str → Option Value) h tk, Facts ss.length c → Fr h₀ env.locals h (fun y => if y = x then u y else kstB (fun z => if stored.contains z then u z else m₀ z) (ps c) y) → News h₀ env.locals h (Led c) → Q .next { s with heap := h, toks := tk }) :
    wpAny (model prog w) A (pyIter (.ref l)) (fun it s₂ => LoopAtV prog w A h₀ env x body Q E it s₂) E s := by
  refine loop_list Led ps Facts stored c₀ hh hl F N hf hk ?_ ?_
  · intro i v I c u h tk oI hv hf' hne F₁ N₁
    unfold strsOf at hv
    rw [List.getElem?_map] at hv
    obtain ⟨⟨y, t⟩, h1, h2⟩ := Option.map_eq_some_iff.mp hv
    exact turn i y t I c u h tk oI h1 hf' hne (by rw [← h2] at F₁; exact F₁) N₁
  · intro c u h tk hf' F₁ N₁
    exact done c u h tk (by unfold strsOf at hf'; rwa [List.length_map] at hf') F₁ N₁
end
/-- the pieces one by one: where the text stands after them -/
def emGo (y : Str) (e : Int) : List Str → Int → Option Int
  | [], s => some s
  | p :: r, s => if find4 y p s e < 0 then none else emGo y e r (find4 y p s e + p.length)
theorem emGo_snoc (y : Str) (e : Int) (p : Str) : ∀ (ws : List Str) (s : Int), emGo y e (ws ++ [p]) s = (emGo y e ws s).bind fun a => if find4 y p a e < 0 then none else some (find4 y p a e + p.length)
  | [], s => rfl
  | q :: r, s => by
    simp only [List.cons_append, emGo]
    split
    · rfl
    · exact emGo_snoc y e p r _
theorem emGo_none (y : Str) (e : Int) (v : List Str) : ∀ (ws : List Str) (s : Int), emGo y e ws s = none → emGo y e (ws ++ v) s = none
  | [], s, h => by cases h
  | q :: r, s, h => by
    simp only [List.cons_append, emGo] at h ⊢
    split
    · rfl
    · rename_i hn
      rw [if_neg hn] at h
      exact emGo_none y e v r _ h
theorem emGo_step {y : Str} {e s0 a : Int} {ss : List Str} {i : Nat} {p : Str} (hn : ss[i]? = some p) (h : emGo y e (ss.take i) s0 = some a) (h1 : ¬ find4 y p a e < 0) :
    emGo y e (ss.take (i + 1)) s0 = some (find4 y p a e + p.length) := by
  rw [List.take_add_one, hn]
  show emGo y e (ss.take i ++ [p]) s0 = _
  rw [emGo_snoc, h]
  show (if _ then _ else _) = _
  rw [if_neg h1]
theorem emGo_stop {y : Str} {e s0 a : Int} {ss : List Str} {i : Nat} {p : Str} (hn : ss[i]? = some p) (h : emGo y e (ss.take i) s0 = some a) (h1 : find4 y p a e < 0) :
    emGo y e ss s0 = none := by
  have h2 : emGo y e (ss.take (i + 1)) s0 = none := by
    rw [List.take_add_one, hn]
    show emGo y e (ss.take i ++ [p]) s0 = _
    rw [emGo_snoc, h]
    show (if _ then _ else _) = _
    rw [if_pos h1]
  have := emGo_none y e (ss.drop (i + 1)) _ _ h2
  rwa [List.take_append_drop] at this
theorem emGo_all {y : Str} {e s0 a : Int} {ss : List Str} (h : emGo y e (ss.take ss.length) s0 = some a) : emGo y e ss s0 = some a := by
  rwa [List.take_length] at h
theorem strs_get {ss : List (Str × Tok)} {i : Nat} {p : Str} {t : Tok} (h : ss[i]? = some (p, t)) : (ss.map Prod.fst)[i]? = some p := by
  rw [List.getElem?_map, h]; rfl
end Mine
end

-- part L4
section
open PySem PySem.W PyProof.Rows PySem.Calls PyProof.V PySem.Spec PySem.Builtin PySem.Builtin.Str
set_option Elab.async false
set_option maxRecDepth 100000
namespace Mine
abbrev fstPart (z y : Str) : Str := (Txt.split z y).headD ⟨#[]⟩
theorem strSub_len (z : Str) (a b : Nat) : (strSub z a b).length ≤ z.length := by
  have h := congrArg List.length (StrLaws.strSub_toList z a b)
  simp only [List.length_take, List.length_drop, Array.length_toList] at h
  unfold Str.length
  omega
theorem split_head (z y : Str) : ∃ r, Txt.split z y = fstPart z y :: r ∧ (fstPart z y).length ≤ z.length := by
  unfold fstPart Txt.split
  split
  · exact ⟨_, rfl, Nat.le_refl _⟩
  · split
    · exact ⟨_, rfl, Nat.le_refl _⟩
    · rw [StrLaws.partsBetween_eq]
      cases occurrences z y 0 z.length (z.length + 1) with
      | nil => exact ⟨_, rfl, strSub_len _ _ _⟩
      | cons c r => exact ⟨_, rfl, strSub_len _ _ _⟩
theorem split_open {l : List (Str × Tok)} {z y : Str} (e : l.map (·.1) = Txt.split z y) : ∃ t r, l = (fstPart z y, t) :: r ∧ (fstPart z y).length ≤ z.length := by
  obtain ⟨r, h, hl⟩ := split_head z y
  rw [h] at e
  cases l with
  | nil => cases e
  | cons p l =>
    injection e with e1 e2
    exact ⟨p.2, l, by rw [← e1], hl⟩
theorem item_first {prog : Program} {w : World} {A : Around} {E : Value → Shared → Prop} {s : Shared} {value slice : PySem.Expr} {l : Addr} {v : Value} {vs : List Value} {u : Tok} {Q : Value → Shared → Prop}
    (hl : s.heap.IsList l (v :: vs).toArray) (h : Q v s)
    (hs' : subscripted slice false (.ref l) (.int 0 u) = operate [.ref l, .int 0 u] (getItem (.ref l) (.int 0 u)) := by with_unfolding_all rfl) :
    wpAny (model prog w) A (subscriptTail value slice (.ref l) (.int 0 u)) Q E s :=
  tail_any hl.typeIs slot_list_getitem.lookup (wpAny_getItem_list hl (by decide) (by decide) (by simp) h) hs'
theorem addT {prog : Program} {w : World} {A : Around} {E : Value → Shared → Prop} {s : Shared} {x y : PySem.Str} {t u : Tok} {Q : Value → Shared → Prop} (hT : 1 ≤ s.toks) (hl : x.length + y.length ≤ 16777216)
    (h : ∀ t' k, 1 ≤ k → x.length + y.length ≤ (x ++ y).length ∧ (x ++ y).length ≤ x.length + y.length → Q (.str (x ++ y) t') { s with toks := k }) : wpAny (model prog w) A (binaryOp .Add (.str x t) (.str y u)) Q E s := by
  refine wpAny_mono (wpAny_toks_of hT (KXadd.add (Nat.le_refl _) (Nat.le_refl _) hl (Q := fun v s' => ∃ t' k, (x.length + y.length ≤ (x ++ y).length ∧ (x ++ y).length ≤ x.length + y.length) ∧ v = .str (x ++ y) t' ∧ s' = { s with toks := k }) fun t' k hh => ⟨t', k, hh, rfl, rfl⟩)) ?_ fun _ _ e => e.2
  rintro v s' ⟨h1, t', k, hh, rfl, rfl⟩
  exact h t' k h1 hh
theorem Con.useT {w : World} {f : Addr} {news : List (Addr × Obj)} {vs : List Value} {dd uu : Nat} {post : Value → List (Addr × Obj) → Prop} (C : Con w f news vs dd uu post)
    {p : Program} {loose : List Str} {mean : ExcName → Option Value} {mg mb : Str → Option Value} {dp un : Nat} {gd : Option (List Code)} {cn : Str} {cs : Scope} {a : Addr} {ccd : Value} {cl : List (Str × Addr)} {outer : List Env} {A₀ : Around} {base h₀ : Heap} {L : Addr} {m : Str → Option Value} {s : Shared} {Q E : Value → Shared → Prop}
    (B : Below A₀ base outer h₀) (F : Fr h₀ L s.heap m) (X : (hd.heap_39 w.params).In h₀) (N : News h₀ L s.heap news) (T : Top p loose mean mg mb h₀) (hk : cs.kind = .function) (hd : dp + dd < recursionLimit) (hu : un + uu < cLine) (hT : 1 ≤ s.toks)
    (ret : ∀ v news' h' tk', 1 ≤ tk' → post v news' → Fr h₀ L h' m → News h₀ L h' news' → Q v { s with heap := h', toks := tk' }) :
    wpAny (model PRG w) (ktrTop dp un gd cn cs L a ccd cl outer) (call (.ref f) vs) Q E s := by
  refine wpAny_mono (wpAny_toks_of hT (Con.use C (Q := fun v s' => ∃ news' h' tk', post v news' ∧ Fr h₀ L h' m ∧ News h₀ L h' news' ∧ s' = { s with heap := h', toks := tk' }) (E := E) B F X N T hk hd hu fun v news' h' tk' hp hF hN => ⟨news', h', tk', hp, hF, hN, rfl⟩)) ?_ fun _ _ e => e.2
  rintro v s' ⟨h1, news', h', tk', hp, hF, hN, rfl⟩
  exact ret v news' h' tk' h1 hp hF hN
theorem ne_below {D d : Addr} {news : List (Addr × Obj)} (h : ∀ p ∈ news, p.1 < D) (hd : D ≤ d) : ∀ p ∈ news, p.1 ≠ d := fun p hp => Nat.ne_of_lt (Nat.lt_of_lt_of_le (h p hp) hd)
theorem ne_below1 {D : Addr} {news : List (Addr × Obj)} (h : ∀ p ∈ news, p.1 < D) : ∀ p ∈ news, p.1 ≠ D + 1 := ne_below h (Nat.le_add_right _ _)
theorem ne_below2 {D : Addr} {news : List (Addr × Obj)} (h : ∀ p ∈ news, p.1 < D) : ∀ p ∈ news, p.1 ≠ D + 1 + 1 := ne_below h (Nat.le_trans (Nat.le_add_right _ 1) (Nat.le_add_right _ 1))
theorem below_tail {D : Addr} {q : Addr × Obj} {news : List (Addr × Obj)} (h : ∀ p ∈ q :: news, p.1 < D) : ∀ p ∈ news, p.1 < D := fun p hp => h p (List.mem_cons_of_mem _ hp)
abbrev rngOf (a b : Int) (t u v : Tok) : Obj := { cls := .type "range", dict := none, data := .fields #[.int a t, .int b u, .int 1 v], slots := #[] }
theorem call_rangeN {prog : Program} {w : World} {A : Around} {E : Value → Shared → Prop} {s : Shared} {h₀ : Heap} {L : Addr} {m : Str → Option Value} {news : List (Addr × Obj)} {n : Int} {t : Tok} {Q : Value → Shared → Prop} (F : Fr h₀ L s.heap m) (N : News h₀ L s.heap news) (hT : 1 ≤ s.toks)
    (h : ∀ R h' tk t₁ u₁ v₁, 1 ≤ tk → Fr h₀ L h' m → News h₀ L h' ((R, rngOf 0 n t₁ u₁ v₁) :: news) → (∀ p ∈ news, p.1 < R) → Q (.ref R) { s with heap := h', toks := tk }) :
    wpAny (model prog w) A (call (.type "range") [.int n t]) Q E s :=
  call_range_1 (h _ _ _ _ _ _ (Nat.le_trans hT (Nat.le_add_right _ 2)) (F.push _) (News.push F N _) fun p hp => Heap.lt_size (N p hp).1)
/-- the comprehension's end: the ledger as it was -/
theorem comp_end {h₀ : Heap} {L I C D : Addr} {m : Str → Option Value} {s₁ : Shared} {oI oC oD : Obj} {S : List (Addr × Obj) → Prop} {rest : Value → List (Addr × Obj) → Prop} {y : Value} {h' : Heap} {tk : Nat} {all news' : List (Addr × Obj)}
    (off : LCg.Off3 I C D news') (F : Fr h₀ L h' m) (N : News h₀ L h' all) (sub : ∀ p ∈ (I, oI) :: (C, oC) :: (D, oD) :: news', p ∈ all) (hS : S news') (r : rest y news') :
    LCg.CompEnd h₀ L m s₁ I oI C oC D oD S rest y { s₁ with heap := h', toks := tk } := LCg.CompEnd.intro F N news' sub off hS r
def keepIf (p : Int → Bool) (l : List Int) (k : Int) : List Int := if p k = true then l ++ [k] else l
theorem keepIf_yes {p : Int → Bool} {l : List Int} {k : Int} (h : p k = true) : keepIf p l k = l ++ [k] := if_pos h
theorem keepIf_no {p : Int → Bool} {l : List Int} {k : Int} (h : p k = false) : keepIf p l k = l := if_neg (by rw [h]; decide)
theorem keepIf_grows (p : Int → Bool) : KPfGrows (keepIf p) := by
  intro l k
  unfold keepIf
  split
  · simp
  · omega
theorem keepIf_filter (p : Int → Bool) : ∀ (ks l : List Int), ks.foldl (keepIf p) l = l ++ ks.filter p
  | [], l => by simp
  | k :: r, l => by
    rw [List.foldl_cons, keepIf_filter p r, List.filter_cons]
    unfold keepIf
    split <;> simp
/-- the test that a comprehension's turns make, told ahead -/
def TestIs (_f : Int → Bool) : Prop := True
section
variable {prog : Program} {w : World} {A : Around} {h₀ : Heap} {L : Addr} {m : Str → Option Value} {env : Env} {ct elt : PySem.Expr} {x : Str} {scope : Scope} {cl : List (Str × Addr)} {s : Shared} {S : List (Addr × Obj) → Prop} {Fin : List Value → List (Addr × Obj) → Prop} {news : List (Addr × Obj)}
theorem kci_listM {f : Int → Bool} (_hM : TestIs f) {vs : List Value} {ns : List Int} (hi : IntsAre vs ns)
    (turn : ∀ k t I oI C oC D m₂ ys l h tk (E' : Value → Shared → Prop), k ∈ ns → IntsAre ys l → LCg.NsObj oC m₂ → m₂ x = some (.int k t) → Fr h₀ L h m → News h₀ L h ((I, oI) :: (C, oC) :: (D, LCg.lst ys) :: news) → LCg.Off3 I C D news → ((@Ne Nat I C) ∧ (@Ne Nat I D) ∧ (@Ne Nat C D)) → KPfMark →
      wpAny (model prog w) A (isTrue ct (compEnvC scope cl C env) (eval ct (compEnvC scope cl C env))) (fun b s' => if b = true then wpAny (model prog w) A (eval elt (compEnvC scope cl C env)) (LCg.CompEnd h₀ L m { s with heap := h, toks := tk } I oI C oC D (LCg.lst ys) S (fun y news' => KCiEl news l (keepIf f l k) y news')) E' s'
        else LCg.CompEnd h₀ L m { s with heap := h, toks := tk } I oI C oC D (LCg.lst ys) S (fun _ news' => KCiNo news l (keepIf f l k) news') Value.none s') E' { s with heap := h, toks := tk })
    (fin : ∀ ys, IntsAre ys (ns.filter f) → Fin ys news) : LCt.CompRestT prog w A h₀ L m env ct elt x scope cl s S (fun i v => vs.toArray[i]? = some v) Fin vs.toArray.size 0 [] news :=
  kci_list (keepIf f) hi turn (fun ys h _ => fin ys (by rw [keepIf_filter, List.nil_append] at h; exact h)) (keepIf_grows f)
theorem kci_rangeM {f : Int → Bool} (_hM : TestIs f) {n : Nat} {a : Int}
    (turn : ∀ k t I oI C oC D m₂ ys l h tk (E' : Value → Shared → Prop), a ≤ k → k < a + (n : Int) → IntsAre ys l → LCg.NsObj oC m₂ → m₂ x = some (.int k t) → Fr h₀ L h m → News h₀ L h ((I, oI) :: (C, oC) :: (D, LCg.lst ys) :: news) → LCg.Off3 I C D news → ((@Ne Nat I C) ∧ (@Ne Nat I D) ∧ (@Ne Nat C D)) → KPfMark →
      wpAny (model prog w) A (isTrue ct (compEnvC scope cl C env) (eval ct (compEnvC scope cl C env))) (fun b s' => if b = true then wpAny (model prog w) A (eval elt (compEnvC scope cl C env)) (LCg.CompEnd h₀ L m { s with heap := h, toks := tk } I oI C oC D (LCg.lst ys) S (fun y news' => KCiEl news l (keepIf f l k) y news')) E' s'
        else LCg.CompEnd h₀ L m { s with heap := h, toks := tk } I oI C oC D (LCg.lst ys) S (fun _ news' => KCiNo news l (keepIf f l k) news') Value.none s') E' { s with heap := h, toks := tk })
    (fin : ∀ ys, IntsAre ys ((rangeKs a n).filter f) → Fin ys news) : LCt.CompRestT prog w A h₀ L m env ct elt x scope cl s S (fun i v => ∃ t, v = .int (a + (i : Int)) t) Fin n 0 [] news :=
  kci_range (keepIf f) turn (fun ys h _ => fin ys (by rw [keepIf_filter, List.nil_append] at h; exact h)) (keepIf_grows f)
end

end Mine
end

-- part L5
section
open PySem PySem.W PyProof.Rows PySem.Calls PyProof.V PySem.Spec
set_option Elab.async false
set_option maxRecDepth 100000
namespace Mine
section
variable {prog : Program} {w : World} {A : Around} {E : Value → Shared → Prop} {s : Shared} {env : Env} {h₀ : Heap} {body : List Stmt} {Q : Flow → Shared → Prop}
/-- no name of the text -/
abbrev noName : Str := Str.ofString " "
/-- for a, b in a ledger's list of pairs -/
theorem turns_refs {σ : Type} {l : Addr} (rs : List Addr) {nn : Nat} {elts : List PySem.Expr} {k1 : Nat} {pos : Pos} {m₀ : Str → Option Value} (Led : σ → List (Addr × Obj)) (ps : σ → List (Str × Value)) (Facts : Nat → σ → Prop) (stored : List Str) (c₀ : σ)
    (hh : A.handled = none) (hl : ∀ c : σ, (l, listOf (rs.map Value.ref).toArray nn) ∈ Led c) (F : Fr h₀ env.locals s.heap m₀) (N : News h₀ env.locals s.heap (Led c₀)) (hf : Facts 0 c₀) (hk : ∀ p ∈ ps c₀, m₀ p.1 = some p.2)
    (turn : ∀ i T I (c : σ) (u : Str → Option Value) h tk oI, rs[i]? = some T → Facts i c → (∀ p ∈ Led c, p.1 ≠ I) →
      Fr h₀ env.locals h (fun y => if y = noName then u y else kstB (fun z => if stored.contains z then u z else m₀ z) (ps c) y) → News h₀ env.locals h ((I, oI) :: Led c) →
      wpAny (model prog w) A (assign (.Tuple elts k1 pos) env (.ref T)) (fun _ s₃ => wpAny (model prog w) A (execs body env) (LPost h₀ env.locals (JS Led ps Facts noName stored m₀ (i + 1)) I oI { s with heap := h, toks := tk } Q) E s₃) E { s with heap := h, toks := tk })
    (done : ∀ (c : σ) (u : Str → Option Value) h tk, Facts rs.length c → Fr h₀ env.locals h (fun y => if y = noName then u y else kstB (fun z => if stored.contains z then u z else m₀ z) (ps c) y) → News h₀ env.locals h (Led c) → Q .next { s with heap := h, toks := tk }) :
    wpAny (model prog w) A (pyIter (.ref l)) (fun it s₂ => TurnsAt prog w A h₀ env (.Tuple elts k1 pos) body Q E it s₂) E s := by
  have hol : s.heap.get? l = some (listOf (rs.map Value.ref).toArray nn) := (N _ (hl c₀)).1
  have hls : s.heap.IsList l (rs.map Value.ref).toArray := ⟨_, hol, rfl, nn, rfl⟩
  have hne : l ≠ s.heap.objs.size := Nat.ne_of_lt (Heap.lt_size hol)
  have hsz : ∀ p ∈ Led c₀, p.1 ≠ s.heap.objs.size := fun p hp e => absurd (Heap.lt_size (N p hp).1) (by rw [e]; exact Nat.lt_irrefl _)
  refine wpAny_pyIter_list hls ?_
  have W := Walks.list (prog := prog) (w := w) hh s.heap.objs.size l hne (rs.map Value.ref).toArray
  have get : ∀ (i : Nat) (v : Value), (((rs.map Value.ref).toArray)[i]? = some v) → ∃ T : Addr, rs[i]? = some T ∧ v = Value.ref T := fun i v hv => by
    have hv' : (rs.map Value.ref)[i]? = some v := by simpa using hv
    rw [List.getElem?_map] at hv'
    obtain ⟨T, h1, h2⟩ := Option.map_eq_some_iff.mp hv'
    exact ⟨T, h1, h2.symm⟩
  have KT : KTurns prog w A (.Tuple elts k1 pos) s.heap.objs.size [s.heap.objs.size, l] [s.heap.objs.size] (rs.map Value.ref).toArray.size (fun i v _ => (rs.map Value.ref).toArray[i]? = some v) (fun i v h => ((rs.map Value.ref).toArray[i]? = some v) ∧ (h.IsListIter s.heap.objs.size l (i + 1) ∧ h.IsList l (rs.map Value.ref).toArray)) (fun i h => h.IsListIter s.heap.objs.size l i ∧ h.IsList l (rs.map Value.ref).toArray) :=
    { sub := W.sub, frame := W.frame
      item := fun i s Q E hi st hQ => W.item i s Q E hi st fun v h' tk hP st' hk => hQ v h' tk ⟨hP, st'⟩ hk
      go := fun i v s Q E hm hQ => by
        obtain ⟨hv, st⟩ := hm
        obtain ⟨T, _, rfl⟩ := get i v hv
        exact wpAny_letOwnedTupleGo_listiter st.1 (hQ s.heap hv st fun _ _ _ e => e)
      done := W.done }
  have hI0 : h₀.get? s.heap.objs.size = none := next_is_new F
  have hLl : l ≠ env.locals := (N _ (hl c₀)).2.1
  refine ⟨s.heap.objs.size, [s.heap.objs.size, l], [s.heap.objs.size], _, _, _, _, m₀, Led c₀, JS Led ps Facts noName stored m₀, rfl, KT, ?_, ?_, ?_, ⟨⟨_, Heap.get?_push_size _ rfl, rfl, rfl⟩, hls.at fun o e => Heap.get?_push_of_some _ e⟩, F.push _, (fun p hp => ⟨Heap.get?_push_of_some _ (N p hp).1, (N p hp).2⟩), ⟨c₀, rfl, hf, hk, fun _ _ _ _ => rfl⟩, ?_, ?_⟩
  · intro hm
    rcases List.mem_cons.mp hm with e | hm
    · exact absurd F.ns.lt (e ▸ Nat.lt_irrefl _)
    · exact hLl ((List.mem_singleton.mp hm).symm)
  · intro b hb; rw [List.mem_singleton.mp hb]; exact hI0
  · intro p hp hq; exact hsz p hp (List.mem_singleton.mp hq)
  · rintro i v m₁ nx hh' tk own hi hP ⟨c, rfl, hf', hp1, hr1⟩ hoff hown hget hall hst₁ F₁ N₁
    obtain ⟨T, hT, rfl⟩ := get i v hP
    obtain ⟨oI, hoI, _⟩ := hst₁.1
    have hIown : (s.heap.objs.size, oI) ∈ own := hall _ (List.Mem.head _) hI0 oI hoI
    have hne' : ∀ p ∈ Led c, p.1 ≠ s.heap.objs.size := fun p hp e => hoff p hp (List.mem_singleton.mpr e)
    have N₂ : News h₀ env.locals hh' ((s.heap.objs.size, oI) :: Led c) := fun p hp => by
      rcases List.mem_cons.mp hp with rfl | hp
      · exact N₁ _ (List.mem_append_left _ hIown)
      · exact N₁ _ (List.mem_append_right _ hp)
    refine wpAny_mono (turn i T s.heap.objs.size c m₁ hh' tk oI hT hf' hne' (kst_frOut hp1 hr1 F₁) N₂) (fun _ s₂ p2 => wpAny_mono p2 (fun f s₃ p => ?_) fun _ _ e => e) fun _ _ e => e
    have fin : LEnd h₀ env.locals (JS Led ps Facts noName stored m₀ (i + 1)) s.heap.objs.size oI { s with heap := hh', toks := tk } s₃ → LoopStepU h₀ env.locals [s.heap.objs.size] own (JS Led ps Facts noName stored m₀ (i + 1)) { s with heap := hh', toks := tk } .next s₃ := by
      rintro ⟨h', tk', m', news', nx', e, F', N', hn, hi', hI', hm⟩
      have hk2 : ∀ b ∈ [s.heap.objs.size, l], b ≠ s.heap.objs.size → (∃ o, h₀.get? b = some o) ∨ (∃ o, (b, o) ∈ Led c ∧ ∀ m nx', JS Led ps Facts noName stored m₀ (i + 1) m nx' → (b, o) ∈ nx') := fun b hb hne => by
        rcases List.mem_cons.mp hb with e | hb
        · exact absurd e hne
        · rw [List.mem_singleton.mp hb]
          refine .inr ⟨_, hl c, ?_⟩
          rintro m nx' ⟨c', rfl, _⟩
          exact hl c'
      refine ⟨rfl, h', tk', m', nx', e, F', fun p hp => ?_, fun p hp hq => hI' p hp (List.mem_singleton.mp hq), hm⟩
      rcases List.mem_append.mp hp with h | h
      · exact N' p (own_news (J := JS Led ps Facts noName stored m₀ (i + 1)) ⟨oI, hoI, rfl⟩ hk2 hown hget N₁ hm hn hi' p h)
      · exact N' p (hn p h)
    cases f with
    | ret v => exact .ret p
    | brk => exact .brk p
    | next => exact .next (fin p)
    | cont => exact .cont (fin p)
  · rintro h' tk m' nx F' N' _ ⟨c, rfl, hf', hp1, hr1⟩
    exact done c m' h' tk (by simpa using hf') (kst_frOut hp1 hr1 F') N'
end
end Mine
end

-- part C5
section
open PySem PySem.W PyProof.Rows PySem.Calls
set_option Elab.async false
set_option maxRecDepth 100000
namespace Mine
local macro_rules | `(tactic| walk_at $s:str) => `(tactic| k_extra $s)
abbrev dots : Str := Str.ofString "..."
abbrev sE : Str := Str.mk #[]
theorem ne_own {I : Addr} {news : List (Addr × Obj)} (hne : ∀ p ∈ news, p.1 ≠ I) : ∀ p ∈ news, p.1 ≠ I := hne
theorem str_len2 {ss : List (Str × Tok)} {i : Nat} {p : Str} {t : Tok} (h : ss[i]? = some (p, t)) (ha : ∀ q ∈ ss, q.1.length ≤ 2) : p.length ≤ 2 := ha _ (List.mem_of_getElem? h)

set_option maxHeartbeats 8000000 in
theorem emA_con (w : World) (news : List (Addr × Obj)) (x y p0 p1 : Str) (ts tl : Tok) (hx : x.length ≤ 50) (hy : y.length ≤ 100) (h0 : 1 ≤ p0.length) (h0' : p0.length ≤ 2) (h1 : 1 ≤ p1.length) (h1' : p1.length ≤ 2)
    (hin : (Builtin.Str.occurrences x dots 0 x.length 1).isEmpty = false) (hsp : Txt.split x dots = [p0, p1, sE]) (hE : sE.length = 0) :
    Con w 77 news [.str x ts, .str y tl] 1 100 (fun v news' => v = .bool (Txt.startswith y p0 && decide ((p0.length : Int) ≤ y.length) && (emGo y y.length [p1, sE] p0.length).isSome) ∧ news' = news) := by
  unfold Con PRG
  k_with_none
  w_top off
  k_fill
  intro p loose mean mg mb dp un gd cn cs a ccd cl outer A₀ base h₀ L m s Q E B F X N T hk hd hu hret
  k_with "pyIter ref" => (
    (rename Fr _ _ _ _ => lF'); (rename News _ _ _ _ => lN');
    (with_unfolding_all refine' loop_strs (σ := Int × Tok) [(p1, ?w1), (sE, ?w2)] (fun _ => _) (fun c => [(Str.ofString "startpos", .int c.1 c.2)]) (fun i c => 0 ≤ c.1 ∧ c.1 ≤ 200 + 2 * (i : Int) ∧ emGo y (y.length : Int) ([p1, sE].take i) (p0.length : Int) = some c.1) [] ((p0.length : Int), ?w9) (by rfl) ?kl lF' lN' ?kf ?kk ?_ ?_);
    (case kl => intro c; refine List.mem_cons_of_mem _ (List.mem_cons.mpr (Or.inl ?_)); with_unfolding_all rfl);
    (case kk => exact List.forall_mem_cons.mpr ⟨by with_unfolding_all rfl, List.forall_mem_nil _⟩);
    (case kf => exact ⟨by omega, by omega, rfl⟩);
    (all_goals clear lF' lN');
    (rotate_left; intro c u h tk hf F₁ N₁; obtain ⟨c1, c2⟩ := c; dsimp only at hf N₁; dsimp only [kstB] at F₁; obtain ⟨hf0, hf1, hr1⟩ := hf; rotate_right; intro i pw pt I c u h tk oI hn hf hne F₁ N₁; obtain ⟨c1, c2⟩ := c; dsimp only at hf N₁ hne; dsimp only [kstB] at F₁; obtain ⟨hf0, hf1, hr1⟩ := hf; have hpl := str_len2 hn (by intro q hq; (simp only [List.mem_cons, List.not_mem_nil, or_false] at hq); rcases hq with rfl | rfl <;> dsimp only <;> omega); have hil := (List.getElem?_eq_some_iff.mp hn).1; (have hn9 : ([p1, sE])[i]? = some pw := strs_get hn); (simp only [List.length_cons, List.length_nil] at hil); have hb4 := find4_bnd y pw c1 ((y.length : Int)));
    (all_goals try k_fold))
  k_with "LEnd" => (
    (refine JS.fin (_, _) (by assumption) (by assumption) (by kst_all) (by kst_in) (by k_memK) ?_ ⟨?_, ?_, ?_⟩ (by kst_same)) <;>
    (first | exact hne | omega | exact emGo_step hn9 hr1 (by assumption)))
  refine wpAny_call ?_
  k_dflt cell_enter
  k_with "call builtin:str.split" => (k_here; (with_reducible show wpAny _ _ (call (Value.builtin "str.split") [Value.str _ _, Value.str _ _]) _ _ _); (refine KSpl.split1 (by k_asm) (by k_asm) (by decide +kernel) ?_ (by (simp only [PySem.sizeLine_eq]; omega))); (intro D' l' h' k' e' a' F' N' l1); (try k_lt l1); (have e2 := e'.trans (by assumption)); (kspl_open e2); (simp only [strValues, List.map_cons, List.map_nil] at N' a'); clear e' a')
  k_with "truthy str" => (k_here; refine SBL.truthy (by omega) ?_)
  k_with "LPost" => (dsimp only [LPost])
  k_with "execs nil" => (k_here; refine wpAny_execs_nil ?_)
  k_with "call builtin:str.find" => (k_here; (with_reducible show wpAny _ _ (call (Value.builtin "str.find") [Value.str _ _, Value.str _ _, Value.int _ _, Value.int _ _]) _ _ _); (refine call_find4 ?_); (intro tF kF'); (try dsimp only))
  k_with "exec For Name Name cons nil" => (k_here; (rename Fr _ _ _ _ => lFy5); (with_unfolding_all refine' For_invVF lFy5 ?k1y5 ?k2y5 ?_; (case k1y5 => exact rfl); (case k2y5 => exact rfl); k_whole))
  k_steps
  all_goals first
    | (exfalso; omega)
    | refine hret _ news _ _ ⟨congrArg Value.bool ?_, rfl⟩ (by k_asm) (kst_newsOf (by k_asm) (by intro p hp; kst_mem))
  all_goals (
    (try rw [show Txt.startswith y p0 = false from by assumption]);
    (try rw [show Txt.startswith y p0 = true from by assumption]);
    (try rw [show Txt.endswith y p1 = false from by assumption]);
    (try rw [show Txt.endswith y p1 = true from by assumption]);
    (first
      | (rw [emGo_stop hn9 hr1 (by assumption)]; simp; done)
      | (rw [decide_eq_false (show ¬ ((p0.length : Int) ≤ y.length) by omega)]; simp; done)
      | (rw [decide_eq_true (show ((p0.length : Int) ≤ y.length) by omega)]; rw [emGo_all (ss := [p1, sE]) hr1]; rfl)
      | (rw [decide_eq_true (show ((p0.length : Int) ≤ y.length) by omega)]; rfl)
      | (rw [emGo_all (ss := [p1, sE]) hr1]; rfl)
      | (simp; done)))

set_option maxHeartbeats 8000000 in
theorem emB_con (w : World) (news : List (Addr × Obj)) (x y p0 p1 : Str) (ts tl : Tok) (hx : x.length ≤ 50) (hy : y.length ≤ 100) (h0 : 1 ≤ p0.length) (h0' : p0.length ≤ 2) (h1 : 1 ≤ p1.length) (h1' : p1.length ≤ 2)
    (hin : (Builtin.Str.occurrences x dots 0 x.length 1).isEmpty = false) (hsp : Txt.split x dots = [sE, p0, p1, sE]) (hE : sE.length = 0) :
    Con w 77 news [.str x ts, .str y tl] 1 100 (fun v news' => v = .bool ((emGo y y.length [sE, p0, p1, sE] 0).isSome) ∧ news' = news) := by
  unfold Con PRG
  k_with_none
  w_top off
  k_fill
  intro p loose mean mg mb dp un gd cn cs a ccd cl outer A₀ base h₀ L m s Q E B F X N T hk hd hu hret
  k_with "pyIter ref" => (
    (rename Fr _ _ _ _ => lF'); (rename News _ _ _ _ => lN');
    (with_unfolding_all refine' loop_strs (σ := Int × Tok) [(sE, ?w1), (p0, ?w2), (p1, ?w3), (sE, ?w4)] (fun _ => _) (fun c => [(Str.ofString "startpos", .int c.1 c.2)]) (fun i c => 0 ≤ c.1 ∧ c.1 ≤ 200 + 2 * (i : Int) ∧ emGo y (y.length : Int) ([sE, p0, p1, sE].take i) (0 : Int) = some c.1) [] ((0 : Int), ?w9) (by rfl) ?kl lF' lN' ?kf ?kk ?_ ?_);
    (case kl => intro c; refine List.mem_cons_of_mem _ (List.mem_cons.mpr (Or.inl ?_)); with_unfolding_all rfl);
    (case kk => exact List.forall_mem_cons.mpr ⟨by with_unfolding_all rfl, List.forall_mem_nil _⟩);
    (case kf => exact ⟨by omega, by omega, rfl⟩);
    (all_goals clear lF' lN');
    (rotate_left; intro c u h tk hf F₁ N₁; obtain ⟨c1, c2⟩ := c; dsimp only at hf N₁; dsimp only [kstB] at F₁; obtain ⟨hf0, hf1, hr1⟩ := hf; rotate_right; intro i pw pt I c u h tk oI hn hf hne F₁ N₁; obtain ⟨c1, c2⟩ := c; dsimp only at hf N₁ hne; dsimp only [kstB] at F₁; obtain ⟨hf0, hf1, hr1⟩ := hf; have hpl := str_len2 hn (by intro q hq; (simp only [List.mem_cons, List.not_mem_nil, or_false] at hq); rcases hq with rfl | rfl | rfl | rfl <;> dsimp only <;> omega); have hil := (List.getElem?_eq_some_iff.mp hn).1; (have hn9 : ([sE, p0, p1, sE])[i]? = some pw := strs_get hn); (simp only [List.length_cons, List.length_nil] at hil); have hb4 := find4_bnd y pw c1 ((y.length : Int)));
    (all_goals try k_fold))
  k_with "LEnd" => (
    (refine JS.fin (_, _) (by assumption) (by assumption) (by kst_all) (by kst_in) (by k_memK) ?_ ⟨?_, ?_, ?_⟩ (by kst_same)) <;>
    (first | exact hne | omega | exact emGo_step hn9 hr1 (by assumption)))
  refine wpAny_call ?_
  k_dflt cell_enter
  k_with "call builtin:str.split" => (k_here; (with_reducible show wpAny _ _ (call (Value.builtin "str.split") [Value.str _ _, Value.str _ _]) _ _ _); (refine KSpl.split1 (by k_asm) (by k_asm) (by decide +kernel) ?_ (by (simp only [PySem.sizeLine_eq]; omega))); (intro D' l' h' k' e' a' F' N' l1); (try k_lt l1); (have e2 := e'.trans (by assumption)); (kspl_open e2); (simp only [strValues, List.map_cons, List.map_nil] at N' a'); clear e' a')
  k_with "truthy str" => (k_here; refine SBL.truthy (by omega) ?_)
  k_with "LPost" => (dsimp only [LPost])
  k_with "execs nil" => (k_here; refine wpAny_execs_nil ?_)
  k_with "call builtin:str.find" => (k_here; (with_reducible show wpAny _ _ (call (Value.builtin "str.find") [Value.str _ _, Value.str _ _, Value.int _ _, Value.int _ _]) _ _ _); (refine call_find4 ?_); (intro tF kF'); (try dsimp only))
  k_with "exec For Name Name cons nil" => (k_here; (rename Fr _ _ _ _ => lFy5); (with_unfolding_all refine' For_invVF lFy5 ?k1y5 ?k2y5 ?_; (case k1y5 => exact rfl); (case k2y5 => exact rfl); k_whole))
  k_steps
  all_goals first
    | (exfalso; omega)
    | refine hret _ news _ _ ⟨congrArg Value.bool ?_, rfl⟩ (by k_asm) (kst_newsOf (by k_asm) (by intro p hp; kst_mem))
  all_goals (
    (try rw [show Txt.startswith y p0 = false from by assumption]);
    (try rw [show Txt.startswith y p0 = true from by assumption]);
    (try rw [show Txt.endswith y p1 = false from by assumption]);
    (try rw [show Txt.endswith y p1 = true from by assumption]);
    (first
      | (rw [emGo_stop hn9 hr1 (by assumption)]; simp; done)
      | (rw [decide_eq_false (show ¬ (True) by omega)]; simp; done)
      | (rw [decide_eq_true (show (True) by omega)]; rw [emGo_all (ss := [sE, p0, p1, sE]) hr1]; rfl)
      | (rw [decide_eq_true (show (True) by omega)]; rfl)
      | (rw [emGo_all (ss := [sE, p0, p1, sE]) hr1]; rfl)
      | (simp; done)))
end Mine
end

-- part C5b
section
open PySem PySem.W PyProof.Rows PySem.Calls
set_option Elab.async false
set_option maxRecDepth 100000
namespace Mine
local macro_rules | `(tactic| walk_at $s:str) => `(tactic| k_extra $s)

set_option maxHeartbeats 8000000 in
theorem emC_con (w : World) (news : List (Addr × Obj)) (x y p0 p1 : Str) (ts tl : Tok) (hx : x.length ≤ 50) (hy : y.length ≤ 100) (h0 : 1 ≤ p0.length) (h0' : p0.length ≤ 2) (h1 : 1 ≤ p1.length) (h1' : p1.length ≤ 2)
    (hin : (Builtin.Str.occurrences x dots 0 x.length 1).isEmpty = false) (hsp : Txt.split x dots = [p0, p1]) (hE : sE.length = 0) :
    Con w 77 news [.str x ts, .str y tl] 1 100 (fun v news' => v = .bool (Txt.startswith y p0 && Txt.endswith y p1 && decide ((p0.length : Int) + p1.length ≤ y.length)) ∧ news' = news) := by
  unfold Con PRG
  k_with_none
  w_top off
  k_fill
  intro p loose mean mg mb dp un gd cn cs a ccd cl outer A₀ base h₀ L m s Q E B F X N T hk hd hu hret
  k_with "pyIter ref" => (
    (rename Fr _ _ _ _ => lF'); (rename News _ _ _ _ => lN');
    (with_unfolding_all refine' loop_strs (σ := Int × Tok) ([] : List (Str × Tok)) (fun _ => _) (fun c => [(Str.ofString "startpos", .int c.1 c.2)]) (fun i c => 0 ≤ c.1 ∧ c.1 ≤ 200 + 2 * (i : Int) ∧ emGo y ((y.length : Int) - p1.length) (([] : List Str).take i) (p0.length : Int) = some c.1) [] ((p0.length : Int), ?w9) (by rfl) ?kl lF' lN' ?kf ?kk ?_ ?_);
    (case kl => intro c; refine List.mem_cons_of_mem _ (List.mem_cons.mpr (Or.inl ?_)); with_unfolding_all rfl);
    (case kk => exact List.forall_mem_cons.mpr ⟨by with_unfolding_all rfl, List.forall_mem_nil _⟩);
    (case kf => exact ⟨by omega, by omega, rfl⟩);
    (all_goals clear lF' lN');
    (rotate_left; intro c u h tk hf F₁ N₁; obtain ⟨c1, c2⟩ := c; dsimp only at hf N₁; dsimp only [kstB] at F₁; obtain ⟨hf0, hf1, hr1⟩ := hf; rotate_right; intro i pw pt I c u h tk oI hn hf hne F₁ N₁; obtain ⟨c1, c2⟩ := c; dsimp only at hf N₁ hne; dsimp only [kstB] at F₁; obtain ⟨hf0, hf1, hr1⟩ := hf; have hpl := str_len2 hn (by intro q hq; cases hq); have hil := (List.getElem?_eq_some_iff.mp hn).1; (have hn9 : (([] : List Str))[i]? = some pw := strs_get hn); (simp only [List.length_cons, List.length_nil] at hil); have hb4 := find4_bnd y pw c1 (((y.length : Int) - p1.length)));
    (all_goals try k_fold))
  k_with "LEnd" => (
    (refine JS.fin (_, _) (by assumption) (by assumption) (by kst_all) (by kst_in) (by k_memK) ?_ ⟨?_, ?_, ?_⟩ (by kst_same)) <;>
    (first | exact hne | omega | exact emGo_step hn9 hr1 (by assumption)))
  refine wpAny_call ?_
  k_dflt cell_enter
  k_with "call builtin:str.split" => (k_here; (with_reducible show wpAny _ _ (call (Value.builtin "str.split") [Value.str _ _, Value.str _ _]) _ _ _); (refine KSpl.split1 (by k_asm) (by k_asm) (by decide +kernel) ?_ (by (simp only [PySem.sizeLine_eq]; omega))); (intro D' l' h' k' e' a' F' N' l1); (try k_lt l1); (have e2 := e'.trans (by assumption)); (kspl_open e2); (simp only [strValues, List.map_cons, List.map_nil] at N' a'); clear e' a')
  k_with "truthy str" => (k_here; refine SBL.truthy (by omega) ?_)
  k_with "LPost" => (dsimp only [LPost])
  k_with "execs nil" => (k_here; refine wpAny_execs_nil ?_)
  k_with "call builtin:str.find" => (k_here; (with_reducible show wpAny _ _ (call (Value.builtin "str.find") [Value.str _ _, Value.str _ _, Value.int _ _, Value.int _ _]) _ _ _); (refine call_find4 ?_); (intro tF kF'); (try dsimp only))
  k_with "exec For Name Name cons nil" => (k_here; (rename Fr _ _ _ _ => lFy5); (with_unfolding_all refine' For_invVF lFy5 ?k1y5 ?k2y5 ?_; (case k1y5 => exact rfl); (case k2y5 => exact rfl); k_whole))
  k_steps
  all_goals first
    | (exfalso; omega)
    | refine hret _ news _ _ ⟨congrArg Value.bool ?_, rfl⟩ (by k_asm) (kst_newsOf (by k_asm) (by intro p hp; kst_mem))
  all_goals (
    (try rw [show Txt.startswith y p0 = false from by assumption]);
    (try rw [show Txt.startswith y p0 = true from by assumption]);
    (try rw [show Txt.endswith y p1 = false from by assumption]);
    (try rw [show Txt.endswith y p1 = true from by assumption]);
    (first
      | (rw [emGo_stop hn9 hr1 (by assumption)]; simp; done)
      | (rw [decide_eq_false (show ¬ ((p0.length : Int) + p1.length ≤ y.length) by omega)]; simp; done)
      | (rw [decide_eq_true (show ((p0.length : Int) + p1.length ≤ y.length) by omega)]; rw [emGo_all (ss := ([] : List Str)) hr1]; rfl)
      | (rw [decide_eq_true (show ((p0.length : Int) + p1.length ≤ y.length) by omega)]; rfl)
      | (rw [emGo_all (ss := ([] : List Str)) hr1]; rfl)
      | (simp; done)))

set_option maxHeartbeats 8000000 in
theorem emD_con (w : World) (news : List (Addr × Obj)) (x y p0 p1 : Str) (ts tl : Tok) (hx : x.length ≤ 50) (hy : y.length ≤ 100) (h0 : 1 ≤ p0.length) (h0' : p0.length ≤ 2) (h1 : 1 ≤ p1.length) (h1' : p1.length ≤ 2)
    (hin : (Builtin.Str.occurrences x dots 0 x.length 1).isEmpty = false) (hsp : Txt.split x dots = [sE, p0, p1]) (hE : sE.length = 0) :
    Con w 77 news [.str x ts, .str y tl] 1 100 (fun v news' => v = .bool (Txt.endswith y p1 && decide ((p1.length : Int) ≤ y.length) && (emGo y ((y.length : Int) - p1.length) [sE, p0] 0).isSome) ∧ news' = news) := by
  unfold Con PRG
  k_with_none
  w_top off
  k_fill
  intro p loose mean mg mb dp un gd cn cs a ccd cl outer A₀ base h₀ L m s Q E B F X N T hk hd hu hret
  k_with "pyIter ref" => (
    (rename Fr _ _ _ _ => lF'); (rename News _ _ _ _ => lN');
    (with_unfolding_all refine' loop_strs (σ := Int × Tok) [(sE, ?w1), (p0, ?w2)] (fun _ => _) (fun c => [(Str.ofString "startpos", .int c.1 c.2)]) (fun i c => 0 ≤ c.1 ∧ c.1 ≤ 200 + 2 * (i : Int) ∧ emGo y ((y.length : Int) - p1.length) ([sE, p0].take i) (0 : Int) = some c.1) [] ((0 : Int), ?w9) (by rfl) ?kl lF' lN' ?kf ?kk ?_ ?_);
    (case kl => intro c; refine List.mem_cons_of_mem _ (List.mem_cons.mpr (Or.inl ?_)); with_unfolding_all rfl);
    (case kk => exact List.forall_mem_cons.mpr ⟨by with_unfolding_all rfl, List.forall_mem_nil _⟩);
    (case kf => exact ⟨by omega, by omega, rfl⟩);
    (all_goals clear lF' lN');
    (rotate_left; intro c u h tk hf F₁ N₁; obtain ⟨c1, c2⟩ := c; dsimp only at hf N₁; dsimp only [kstB] at F₁; obtain ⟨hf0, hf1, hr1⟩ := hf; rotate_right; intro i pw pt I c u h tk oI hn hf hne F₁ N₁; obtain ⟨c1, c2⟩ := c; dsimp only at hf N₁ hne; dsimp only [kstB] at F₁; obtain ⟨hf0, hf1, hr1⟩ := hf; have hpl := str_len2 hn (by intro q hq; (simp only [List.mem_cons, List.not_mem_nil, or_false] at hq); rcases hq with rfl | rfl <;> dsimp only <;> omega); have hil := (List.getElem?_eq_some_iff.mp hn).1; (have hn9 : ([sE, p0])[i]? = some pw := strs_get hn); (simp only [List.length_cons, List.length_nil] at hil); have hb4 := find4_bnd y pw c1 (((y.length : Int) - p1.length)));
    (all_goals try k_fold))
  k_with "LEnd" => (
    (refine JS.fin (_, _) (by assumption) (by assumption) (by kst_all) (by kst_in) (by k_memK) ?_ ⟨?_, ?_, ?_⟩ (by kst_same)) <;>
    (first | exact hne | omega | exact emGo_step hn9 hr1 (by assumption)))
  refine wpAny_call ?_
  k_dflt cell_enter
  k_with "call builtin:str.split" => (k_here; (with_reducible show wpAny _ _ (call (Value.builtin "str.split") [Value.str _ _, Value.str _ _]) _ _ _); (refine KSpl.split1 (by k_asm) (by k_asm) (by decide +kernel) ?_ (by (simp only [PySem.sizeLine_eq]; omega))); (intro D' l' h' k' e' a' F' N' l1); (try k_lt l1); (have e2 := e'.trans (by assumption)); (kspl_open e2); (simp only [strValues, List.map_cons, List.map_nil] at N' a'); clear e' a')
  k_with "truthy str" => (k_here; refine SBL.truthy (by omega) ?_)
  k_with "LPost" => (dsimp only [LPost])
  k_with "execs nil" => (k_here; refine wpAny_execs_nil ?_)
  k_with "call builtin:str.find" => (k_here; (with_reducible show wpAny _ _ (call (Value.builtin "str.find") [Value.str _ _, Value.str _ _, Value.int _ _, Value.int _ _]) _ _ _); (refine call_find4 ?_); (intro tF kF'); (try dsimp only))
  k_with "exec For Name Name cons nil" => (k_here; (rename Fr _ _ _ _ => lFy5); (with_unfolding_all refine' For_invVF lFy5 ?k1y5 ?k2y5 ?_; (case k1y5 => exact rfl); (case k2y5 => exact rfl); k_whole))
  k_steps
  all_goals first
    | (exfalso; omega)
    | refine hret _ news _ _ ⟨congrArg Value.bool ?_, rfl⟩ (by k_asm) (kst_newsOf (by k_asm) (by intro p hp; kst_mem))
  all_goals (
    (try rw [show Txt.startswith y p0 = false from by assumption]);
    (try rw [show Txt.startswith y p0 = true from by assumption]);
    (try rw [show Txt.endswith y p1 = false from by assumption]);
    (try rw [show Txt.endswith y p1 = true from by assumption]);
    (first
      | (rw [emGo_stop hn9 hr1 (by assumption)]; simp; done)
      | (rw [decide_eq_false (show ¬ ((p1.length : Int) ≤ y.length) by omega)]; simp; done)
      | (rw [decide_eq_true (show ((p1.length : Int) ≤ y.length) by omega)]; rw [emGo_all (ss := [sE, p0]) hr1]; rfl)
      | (rw [decide_eq_true (show ((p1.length : Int) ≤ y.length) by omega)]; rfl)
      | (rw [emGo_all (ss := [sE, p0]) hr1]; rfl)
      | (simp; done)))
end Mine
end

-- part C6h
section
open PySem PySem.W PyProof.Rows PySem.Calls
set_option Elab.async false
set_option maxRecDepth 100000
namespace Mine
abbrev q257 : Str := Str.ofString "257 \""
def tell (z : Str) : Str := ⟨(scan z.cps.toList).toArray⟩
theorem q257_l : q257.cps.toList = [50, 53, 55, 32, 34] := by decide +kernel
theorem told_cat (x r : Str) : told (q257 ++ x ++ r) = tell (x ++ r) := by
  unfold told tell
  rw [Str.cps_append, Str.cps_append, Str.cps_append, Array.toList_append, Array.toList_append, Array.toList_append, q257_l]
  rfl
theorem scan_length : ∀ (n : Nat) (l : List Nat), l.length ≤ n → (scan l).length ≤ l.length
  | 0, l, h => by rw [List.length_eq_zero_iff.mp (Nat.le_zero.mp h)]; exact Nat.le_refl _
  | n + 1, l, h => by
    unfold scan
    split
    · exact Nat.le_refl _
    · rename_i r
      have := scan_length n r (by simp only [List.length_cons] at h; omega)
      simp only [List.length_cons]; omega
    · exact Nat.zero_le _
    · rename_i c r _ _
      have := scan_length n r (by simp only [List.length_cons] at h; omega)
      simp only [List.length_cons]; omega
theorem tell_len (z : Str) : (tell z).length ≤ z.length := by
  have := scan_length _ z.cps.toList (Nat.le_refl _)
  unfold tell Str.length
  simpa using this
theorem q_list (x r : Str) : (q257 ++ x ++ r).cps.toList = 50 :: 53 :: 55 :: 32 :: 34 :: (x.cps.toList ++ r.cps.toList) := by
  rw [Str.cps_append, Str.cps_append, Array.toList_append, Array.toList_append, q257_l]; rfl
theorem q_slice3 (x r : Str) : Txt.slice (q257 ++ x ++ r) none (some 3) = Str.ofString "257" := by
  have h := StrLaws.sliceText_to (x := q257 ++ x ++ r) (j := 3) (by rw [q_list]; simp only [List.length_cons]; omega)
  refine (show Txt.slice (q257 ++ x ++ r) none (some 3) = StrLaws.sliceText (q257 ++ x ++ r) none (some 3) from rfl).trans (h.trans ?_)
  rw [q_list]
  show (⟨([50, 53, 55] : List Nat).toArray⟩ : Str) = _
  decide +kernel
theorem q_slice5 (x r : Str) : Txt.slice (q257 ++ x ++ r) (some 3) (some 5) = Str.ofString " \"" := by
  have h := StrLaws.sliceText_plain (x := q257 ++ x ++ r) (i := 3) (j := 5) (by rw [q_list]; simp only [List.length_cons]; omega)
  refine (show Txt.slice (q257 ++ x ++ r) (some 3) (some 5) = StrLaws.sliceText (q257 ++ x ++ r) (some 3) (some 5) from rfl).trans (h.trans ?_)
  rw [q_list]
  show (⟨([32, 34] : List Nat).toArray⟩ : Str) = _
  decide +kernel
/-- _ellipsis_match told against this wanted text -/
def EmOK (w : World) (want : Str) (f : Str → Bool) : Prop := ∀ (news : List (Addr × Obj)) (y : Str) (ts tl : Tok), y.length ≤ 100 → Con w 77 news [.str want ts, .str y tl] 1 100 (fun v news' => v = .bool (f y) ∧ news' = news)
def yn (b : Bool) : Str := if b = true then Str.ofString "y" else Str.ofString "n"
def rowF (g : Str → Bool) (l : List Str) : Str := l.foldl (fun a r => a ++ yn (g r)) (Str.ofString "")
theorem rowF_snoc (g : Str → Bool) (l : List Str) (r : Str) : rowF g (l ++ [r]) = rowF g l ++ yn (g r) := by
  unfold rowF; rw [List.foldl_append]; rfl
theorem yn_len (b : Bool) : (yn b).length = 1 := by cases b <;> decide +kernel
theorem rowF_len (g : Str → Bool) : ∀ (l : List Str) (a : Str), (l.foldl (fun a r => a ++ yn (g r)) a).length = a.length + l.length
  | [], a => rfl
  | r :: l, a => by
    rw [List.foldl_cons, rowF_len g l, Str.length_append, yn_len, List.length_cons]; omega
theorem row_len {g : Str → Bool} {c1 : Str} {bs : List (Str × Tok)} {i : Nat} (h : c1 = rowF g ((bs.take i).map Prod.fst)) (hb : bs.length ≤ 10) : c1.length ≤ 10 := by
  rw [h]
  have h1 := rowF_len g ((bs.take i).map Prod.fst) (Str.ofString "")
  have h2 : (Str.ofString "").length = 0 := by decide +kernel
  rw [h2, List.length_map, List.length_take] at h1
  unfold rowF
  omega
theorem row_all {g : Str → Bool} {c1 : Str} {bs : List (Str × Tok)} (h : c1 = rowF g ((bs.take bs.length).map Prod.fst)) : c1 = rowF g (bs.map Prod.fst) := by
  rwa [List.take_length] at h
theorem row_step {g : Str → Bool} {c1 : Str} {bs : List (Str × Tok)} {i : Nat} {r : Str} {t : Tok} (hn : bs[i]? = some (r, t)) (h : c1 = rowF g ((bs.take i).map Prod.fst)) : c1 ++ yn (g r) = rowF g ((bs.take (i + 1)).map Prod.fst) := by
  rw [List.take_add_one, hn, List.map_append, h]
  exact (rowF_snoc _ _ _).symm
theorem row_y {g : Str → Bool} {c1 : Str} {bs : List (Str × Tok)} {i : Nat} {r : Str} {t : Tok} {l : List Int} (hn : bs[i]? = some (r, t)) (h : c1 = rowF g ((bs.take i).map Prod.fst)) (h2 : (g r != !decide (l = [])) = false) (h3 : decide (l = []) = false) : c1 ++ Str.ofString "y" = rowF g ((bs.take (i + 1)).map Prod.fst) := by
  rw [← row_step hn h]
  have : g r = true := by rw [h3] at h2; simpa using h2
  rw [this]; rfl
theorem row_n {g : Str → Bool} {c1 : Str} {bs : List (Str × Tok)} {i : Nat} {r : Str} {t : Tok} {l : List Int} (hn : bs[i]? = some (r, t)) (h : c1 = rowF g ((bs.take i).map Prod.fst)) (h2 : (g r != !decide (l = [])) = false) (h3 : decide (l = []) = true) : c1 ++ Str.ofString "n" = rowF g ((bs.take (i + 1)).map Prod.fst) := by
  rw [← row_step hn h]
  have : g r = false := by rw [h3] at h2; simpa using h2
  rw [this]; rfl
theorem ne_swap {I a : Addr} {o o' : Obj} {r : List (Addr × Obj)} (h : ∀ p ∈ (a, o) :: r, p.1 ≠ I) : ∀ p ∈ (a, o') :: r, p.1 ≠ I := List.forall_mem_cons.mpr ⟨h (a, o) (List.Mem.head _), fun p hp => h p (List.mem_cons_of_mem _ hp)⟩
theorem len_q257 : Str.length (Str.ofString "257 \"") = 5 := by decide +kernel
theorem len_dots : Str.length (Str.ofString "...") = 3 := by decide +kernel
theorem len_z : Str.length (Str.ofString "z") = 1 := by decide +kernel
theorem len_y : Str.length (Str.ofString "y") = 1 := by decide +kernel
theorem len_n : Str.length (Str.ofString "n") = 1 := by decide +kernel
theorem EmOK.use {w : World} {want : Str} {f : Str → Bool} {news : List (Addr × Obj)} {y : Str} {ts tl : Tok} (h : EmOK w want f) (hy : y.length ≤ 100) : Con w 77 news [.str want ts, .str y tl] 1 100 (fun v news' => v = .bool (f y) ∧ news' = news) := h _ _ _ _ hy
theorem told_len (x r : Str) : (told (q257 ++ x ++ r)).length ≤ x.length + r.length := by
  rw [told_cat]
  have := tell_len (x ++ r)
  rwa [Str.length_append] at this
def OptStr (o : Option Str) (v : Value) : Prop := match o with
  | none => v = .none
  | some y => ∃ t, v = .str y t
abbrev sQ : Str := Str.ofString "\""
abbrev sQQ : Str := Str.ofString "\"\""
abbrev sHash : Str := Str.ofString "#"
abbrev plain (z : Str) : Str := Txt.replace ((Txt.split (Txt.replace z sQQ sHash) sQ).headD ⟨#[]⟩) sHash sQ
def hit (p0 p1 z : Str) (k : Int) : Bool := Txt.startswith (Txt.slice z (some k) none) p0 && !(Builtin.Str.occurrences (Txt.slice z (some (k + p0.length)) none) p1 0 (Txt.slice z (some (k + p0.length)) none).length 1).isEmpty


theorem hit_yes {p0 p1 z : Str} {k : Int} (h1 : Txt.startswith (Txt.slice z (some k) none) p0 = true) (h2 : (Builtin.Str.occurrences (Txt.slice z (some (k + p0.length)) none) p1 0 (Txt.slice z (some (k + p0.length)) none).length 1).isEmpty = false) : hit p0 p1 z k = true := by
  unfold hit; rw [h1, h2]; rfl
theorem hit_no1 {p0 p1 z : Str} {k : Int} (h1 : Txt.startswith (Txt.slice z (some k) none) p0 = false) : hit p0 p1 z k = false := by
  unfold hit; rw [h1]; rfl
theorem hit_no2 {p0 p1 z : Str} {k : Int} (h2 : (Builtin.Str.occurrences (Txt.slice z (some (k + p0.length)) none) p1 0 (Txt.slice z (some (k + p0.length)) none).length 1).isEmpty = true) : hit p0 p1 z k = false := by
  unfold hit; rw [h2]; simp
theorem plain_len (x r : Str) : (plain (x ++ r)).length ≤ 15 * (15 * (x.length + r.length) + 14) + 14 := by
  have h1 := replace_len (x ++ r) sQQ sHash (by decide +kernel)
  obtain ⟨_, _, h2⟩ := split_head (Txt.replace (x ++ r) sQQ sHash) sQ
  have h3 := replace_len (fstPart (Txt.replace (x ++ r) sQQ sHash) sQ) sHash sQ (by decide +kernel)
  rw [Str.length_append] at h1
  show (Txt.replace (fstPart (Txt.replace (x ++ r) sQQ sHash) sQ) sHash sQ).length ≤ _
  omega
/-- where the places stand that are looked at -/
def SpotO (db : Bool) (n : Int) (o : Obj) : Prop := if db = true then ∃ t u v, o = rngOf 0 n t u v else ∃ t, o = listOf #[.int 0 t] 0
def spotKs (db : Bool) (n : Int) : List Int := if db = true then rangeKs 0 (n - 0).toNat else [0]
def SpotsAre (_db : Bool) (_n : Int) : Prop := True
def JoinOn : Prop := True
theorem spot_range {b db : Bool} {n : Int} {t u v : Tok} (hd : b = db) (h : b = true) : SpotO db n (rngOf 0 n t u v) := by
  subst hd; rw [h]; exact ⟨t, u, v, rfl⟩
theorem spot_list {b db : Bool} {n : Int} {t : Tok} (hd : b = db) (h : b = false) : SpotO db n (listOf #[.int 0 t] 0) := by
  subst hd; rw [h]; exact ⟨t, rfl⟩
def JoinP (h₀ : Heap) (L : Addr) (mc : Str → Option Value) (nx : List (Addr × Obj)) (db : Bool) (n : Int) (s : Shared) (f : Flow) (s' : Shared) : Prop :=
  f = .next ∧ ∃ h' tk m' S oS, s' = { s with heap := h', toks := tk } ∧ 1 ≤ tk ∧ Fr h₀ L h' m' ∧ News h₀ L h' ((S, oS) :: nx) ∧ SpotO db n oS ∧ m' (Str.ofString "spots") = some (.ref S) ∧ ∀ z, z ≠ Str.ofString "spots" → m' z = mc z
theorem JoinP.fin {h₀ h' : Heap} {L S : Addr} {mc m' : Str → Option Value} {nx all : List (Addr × Obj)} {db : Bool} {n : Int} {s : Shared} {tk : Nat} {oS : Obj} (hT : 1 ≤ tk) (F : Fr h₀ L h' m') (N : News h₀ L h' all) (hm : m' (Str.ofString "spots") = some (.ref S)) (hS : (S, oS) ∈ all) (ho : SpotO db n oS)
    (hn : ∀ p ∈ nx, p ∈ all) (hr : ∀ z, z ≠ Str.ofString "spots" → m' z = mc z) : JoinP h₀ L mc nx db n s .next { s with heap := h', toks := tk } :=
  ⟨rfl, h', tk, m', S, oS, rfl, hT, F, fun p hp => by
    rcases List.mem_cons.mp hp with rfl | hp
    · exact N _ hS
    · exact N _ (hn _ hp), ho, hm, hr⟩
theorem spots_join {M : Model} {A : Around} {E : Value → Shared → Prop} {s : Shared} {env : Env} {st : Stmt} {h₀ : Heap} {L a0 : Addr} {o0 : Obj} {mc : Str → Option Value} {nx : List (Addr × Obj)} {db : Bool} {n : Int} {Q : Flow → Shared → Prop} (F : Fr h₀ L s.heap mc) (N : News h₀ L s.heap ((a0, o0) :: nx)) (_hJ : SpotsAre db n)
    (go : JoinOn → wpAny M A (exec st env) (JoinP h₀ L mc nx db n s) E s)
    (next : ∀ S oS h' tk, 1 ≤ tk → SpotO db n oS → Fr h₀ L h' (fun y => if y = Str.ofString "spots" then some (.ref S) else mc y) → News h₀ L h' ((S, oS) :: nx) → Q .next { s with heap := h', toks := tk }) : wpAny M A (exec st env) Q E s := by
  refine wpAny_mono (go True.intro) ?_ fun _ _ e => e
  rintro f s' ⟨rfl, h', tk, m', S, oS, rfl, hT, F', N', ho, hm, hr⟩
  refine next S oS h' tk hT ho ?_ N'
  have e : m' = fun y => if y = Str.ofString "spots" then some (.ref S) else mc y := funext fun y => by
    by_cases hy : y = Str.ofString "spots"
    · rw [if_pos hy, hy]; exact hm
    · rw [if_neg hy]; exact hr y hy
  exact e ▸ F'
section
variable {prog : Program} {w : World} {A : Around} {h₀ : Heap} {L : Addr} {m : Str → Option Value} {env : Env} {ct elt : PySem.Expr} {x : Str} {scope : Scope} {cl : List (Str × Addr)} {Fin : Shared → List Value → List (Addr × Obj) → Prop} {news : List (Addr × Obj)} {s₁ : Shared}
theorem comp_spots {f : Int → Bool} {S : Addr} {oS : Obj} {db : Bool} {n : Int} (hM : TestIs f) (hh : A.handled = none) (F : Fr h₀ L s₁.heap m) (N : News h₀ L s₁.heap news) (hm : (S, oS) ∈ news) (ho : SpotO db n oS) (h0 : 0 ≤ n) (h1 : n ≤ 1000000)
    (turn : ∀ (g : Heap) (Sx : List (Addr × Obj) → Prop), Sx news → ∀ k t I oI C oC D m₂ ys l h tk (E' : Value → Shared → Prop), 0 ≤ k → k ≤ n → IntsAre ys l → LCg.NsObj oC m₂ → m₂ x = some (.int k t) → Fr h₀ L h m → News h₀ L h ((I, oI) :: (C, oC) :: (D, LCg.lst ys) :: news) → LCg.Off3 I C D news → ((@Ne Nat I C) ∧ (@Ne Nat I D) ∧ (@Ne Nat C D)) → KPfMark →
      wpAny (model prog w) A (isTrue ct (compEnvC scope cl C env) (eval ct (compEnvC scope cl C env))) (fun b s' => if b = true then wpAny (model prog w) A (eval elt (compEnvC scope cl C env)) (LCg.CompEnd h₀ L m { s₁ with heap := h, toks := tk } I oI C oC D (LCg.lst ys) Sx (fun y news' => KCiEl news l (keepIf f l k) y news')) E' s'
        else LCg.CompEnd h₀ L m { s₁ with heap := h, toks := tk } I oI C oC D (LCg.lst ys) Sx (fun _ news' => KCiNo news l (keepIf f l k) news') Value.none s') E' { s₁ with heap := h, toks := tk })
    (fin : ∀ (g : Heap) ys, IntsAre ys ((spotKs db n).filter f) → Fin { s₁ with heap := g } ys news) :
    LCt.CompSrcT prog w A h₀ L m env ct elt x scope cl Fin (.ref S) s₁ := by
  unfold SpotO at ho
  unfold spotKs at fin
  cases db with
  | true =>
    simp only [if_true] at ho fin
    obtain ⟨t, u, v, rfl⟩ := ho
    refine LCt.CompSrcT.range hh F N (N _ hm).1 (small_one (by omega) (by omega) (by omega) (by omega)) (rangeSize_nat _ _) (by rw [PySem.sizeLine_eq]; omega) fun g => ?_
    exact kci_rangeM hM (fun k t I oI C oC D m₂ ys l h tk E' ha hb => turn g (fun _ => True) True.intro k t I oI C oC D m₂ ys l h tk E' ha (by omega)) (fin g)
  | false =>
    simp only [Bool.false_eq_true, if_false] at ho fin
    obtain ⟨t, rfl⟩ := ho
    refine LCt.CompSrcT.ledger hh F N hm (by simp [PySem.sizeLine_eq]) fun g => ?_
    exact kci_listM hM (vs := [.int 0 t]) (ns := [0]) (.cons _ _ .nil) (fun k t' I oI C oC D m₂ ys l h tk E' hk => turn g (LCg.SrcAt h₀ S _) (Or.inr ⟨_, hm, rfl, _, rfl⟩) k t' I oI C oC D m₂ ys l h tk E' (by rw [List.mem_singleton.mp hk]; decide) (by rw [List.mem_singleton.mp hk]; exact h0)) (fin g)
end
theorem eq_opt {prog : Program} {w : World} {A : Around} {E : Value → Shared → Prop} {s : Shared} {a : Str} {t : Tok} {v : Value} {lo : Option Str} {Q : Value → Shared → Prop} (hv : OptStr lo v) (h : Q (.bool (lo == some a)) s) : wpAny (model prog w) A (compareOp .Eq (.str a t) v) Q E s := by
  cases lo with
  | none => rw [show v = .none from hv]; exact EqNone.eq_str_none h
  | some y =>
    obtain ⟨u, rfl⟩ := hv
    refine eq_str ?_
    have e : (a == y) = (some y == some a) := by
      by_cases q : a = y
      · subst q; simp
      · rw [beq_eq_false_iff_ne.mpr q]; symm; simp; exact fun h => q h.symm
    rw [e]; exact h
end Mine
end

-- part C7
section
open PySem PySem.W PyProof.Rows PySem.Calls
set_option Elab.async false
set_option maxRecDepth 100000
namespace Mine
local macro_rules | `(tactic| walk_at $s:str) => `(tactic| k_extra $s)

abbrev hEntry (w : World) (t : Tok) (l : Addr) : DictEntry := { hash := PyData.keyHash w.params (Str.ofString "_headers"), key := .str (Str.ofString "_headers") t, val := .ref l }
/-- one made Headers: x itself, d its names, l its list of pairs -/
abbrev hdrs (w : World) (t : Tok) (x d l : Addr) (rs : List Addr) (nn : Nat) : List (Addr × Obj) := [(l, listOf (rs.map Value.ref).toArray nn), (x, instObj 210 d), (d, dictOf [hEntry w t l] 1)]
set_option maxHeartbeats 8000000 in
theorem new_con (w : World) (news : List (Addr × Obj)) :
    Con w 210 news [] 3 1000 (fun v news' => ∃ t x d l nn, v = .ref x ∧ news' = hdrs w t x d l [] nn ++ news ∧ (∀ p ∈ news, p.1 < d) ∧ d < x ∧ x < l) := by
  unfold Con PRG
  k_with_none
  w_top off
  k_fill
  intro p loose mean mg mb dp un gd cn cs a ccd cl outer A₀ base h₀ L m s Q E B F X N T hk hd hu hret
  k_with "pyIter ref" => (
    (rename Fr _ _ _ _ => lF'); (rename News _ _ _ _ => lN');
    (with_unfolding_all refine' turns_refs (σ := Unit) [] (fun c => _) (fun c => []) (fun i c => True) [] () (by rfl) ?kl lF' lN' True.intro (List.forall_mem_nil _) ?_ ?_);
    (case kl => intro c; refine List.mem_cons.mpr (Or.inl ?_); with_unfolding_all rfl);
    (all_goals clear lF' lN');
    (rotate_left; intro c u h tk hf F₁ N₁; dsimp only [kstB] at F₁ N₁; rotate_right; intro i T I c u h tk oI hn hf hne F₁ N₁; exfalso; cases hn))
  k_with "call ref" => (k_here; (k_dflt (first
  | (refine' call_cls ?k1y0 ?k2y0 ?k3y0 ?k4y0 ?k5y0 ?k6y0 ?_; (case k1y0 => k_asm); (case k2y0 => k_asm); (case k3y0 => k_asm); (case k4y0 => k_is); (case k5y0 => k_is); (case k6y0 => k_is); k_whole; intro x' d' h' F' N' l1 l2; (try k_lt l1); (try k_lt2 l2); (try k_sweep); (first | (refine' code_def ?k1 ?k2 ?k3 ?k4 ?k5 ?kA ?kF ?kK ?k6 ?k7 ?k8 ?k9 ?kB ?_ ?c2 ?c3 ?c4 ?c5; (case kA => exact rfl); (case kF => exact rfl); (case kK => first | exact rfl | assumption); (case k1 => k_asm); (case k2 => k_asm); (case k3 => k_asm); (case k4 => k_asm); (case k5 => k_asm); (case k6 => k_is); (case k7 => k_is); (case k8 => ktr_room); (case k9 => first | exact BindsTo.of_eq rfl | exact binds_K (by k_in) rfl (by k_is) rfl rfl rfl); (case c5 => decide); (case kB => exact locs rfl); (case c2 => exact rfl); (case c3 => exact rfl); (case c4 => exact rfl); k_whole; intro g' L' h' FG' F' N' B' X' T'; (try dsimp only); (try k_lift B'); (try k_fold)) | (refine' code_def ?k1 ?k2 ?k3 ?k4 ?k5 ?kA ?kF ?kK ?k6 ?k7 ?k8 ?k9 ?kB ?_ ?c2 ?c3 ?c4 ?c5; (case kA => exact rfl); (case kF => exact rfl); (case kK => first | exact rfl | assumption); (case k1 => k_asm); (case k2 => k_asm); (case k3 => k_asm); (case k4 => k_asm); (case k5 => k_asm); (case k6 => k_is); (case k7 => k_is); (case k8 => ktr_room); (case k9 => (refine' kp_binds ?kx ?ke; (case kx => k_in); (case ke => exact fun _ => rfl))); (case c5 => decide); (case kB => exact locs rfl); (case c2 => exact rfl); (case c3 => exact rfl); (case c4 => exact rfl); k_whole; intro g' L' h' FG' F' N' B' X' T'; (try dsimp only); (try k_lift B'); (try k_fold))))
  | (refine' call_meth ?k1y0 ?k2y0 ?_; (case k1y0 => k_asm); (case k2y0 => k_mem); k_whole; (first | (refine' code_def ?k1 ?k2 ?k3 ?k4 ?k5 ?kA ?kF ?kK ?k6 ?k7 ?k8 ?k9 ?kB ?_ ?c2 ?c3 ?c4 ?c5; (case kA => exact rfl); (case kF => exact rfl); (case kK => first | exact rfl | assumption); (case k1 => k_asm); (case k2 => k_asm); (case k3 => k_asm); (case k4 => k_asm); (case k5 => k_asm); (case k6 => k_is); (case k7 => k_is); (case k8 => ktr_room); (case k9 => first | exact BindsTo.of_eq rfl | exact binds_K (by k_in) rfl (by k_is) rfl rfl rfl); (case c5 => decide); (case kB => exact locs rfl); (case c2 => exact rfl); (case c3 => exact rfl); (case c4 => exact rfl); k_whole; intro g' L' h' FG' F' N' B' X' T'; (try dsimp only); (try k_lift B'); (try k_fold)) | (refine' code_def ?k1 ?k2 ?k3 ?k4 ?k5 ?kA ?kF ?kK ?k6 ?k7 ?k8 ?k9 ?kB ?_ ?c2 ?c3 ?c4 ?c5; (case kA => exact rfl); (case kF => exact rfl); (case kK => first | exact rfl | assumption); (case k1 => k_asm); (case k2 => k_asm); (case k3 => k_asm); (case k4 => k_asm); (case k5 => k_asm); (case k6 => k_is); (case k7 => k_is); (case k8 => ktr_room); (case k9 => (refine' kp_binds ?kx ?ke; (case kx => k_in); (case ke => exact fun _ => rfl))); (case c5 => decide); (case kB => exact locs rfl); (case c2 => exact rfl); (case c3 => exact rfl); (case c4 => exact rfl); k_whole; intro g' L' h' FG' F' N' B' X' T'; (try dsimp only); (try k_lift B'); (try k_fold))))
  | (refine wpAny_call ?_; (first | (refine' code_def ?k1 ?k2 ?k3 ?k4 ?k5 ?kA ?kF ?kK ?k6 ?k7 ?k8 ?k9 ?kB ?_ ?c2 ?c3 ?c4 ?c5; (case kA => exact rfl); (case kF => exact rfl); (case kK => first | exact rfl | assumption); (case k1 => k_asm); (case k2 => k_asm); (case k3 => k_asm); (case k4 => k_asm); (case k5 => k_asm); (case k6 => k_is); (case k7 => k_is); (case k8 => ktr_room); (case k9 => first | exact BindsTo.of_eq rfl | exact binds_K (by k_in) rfl (by k_is) rfl rfl rfl); (case c5 => decide); (case kB => exact locs rfl); (case c2 => exact rfl); (case c3 => exact rfl); (case c4 => exact rfl); k_whole; intro g' L' h' FG' F' N' B' X' T'; (try dsimp only); (try k_lift B'); (try k_fold)) | (refine' code_def ?k1 ?k2 ?k3 ?k4 ?k5 ?kA ?kF ?kK ?k6 ?k7 ?k8 ?k9 ?kB ?_ ?c2 ?c3 ?c4 ?c5; (case kA => exact rfl); (case kF => exact rfl); (case kK => first | exact rfl | assumption); (case k1 => k_asm); (case k2 => k_asm); (case k3 => k_asm); (case k4 => k_asm); (case k5 => k_asm); (case k6 => k_is); (case k7 => k_is); (case k8 => ktr_room); (case k9 => (refine' kp_binds ?kx ?ke; (case kx => k_in); (case ke => exact fun _ => rfl))); (case c5 => decide); (case kB => exact locs rfl); (case c2 => exact rfl); (case c3 => exact rfl); (case c4 => exact rfl); k_whole; intro g' L' h' FG' F' N' B' X' T'; (try dsimp only); (try k_lift B'); (try k_fold)))))))
  k_with "exec For Tuple Name cons nil" => (k_here; (rename Fr _ _ _ _ => lFy1); (with_unfolding_all refine' For_turns lFy1 ?_); k_whole)
  k_with "LPost" => (dsimp only [LPost])
  k_steps
  refine hret _ _ _ _ ⟨_, _, _, _, _, rfl, rfl, by assumption, by assumption, ?_⟩ (by k_asm) (by k_asm)
  rename _ ∧ _ ∧ AllLt _ _ => q
  exact q.1
end Mine
end

-- part C8d
section
open PySem PySem.W PyProof.Rows PySem.Calls PySem.Builtin PySem.Builtin.Re
set_option Elab.async false
set_option maxRecDepth 100000
namespace Mine
section
variable {prog : Program} {w : World} {A : Around} {E : Value → Shared → Prop} {s : Shared} {K : Frag} {h₀ : Heap} {L : Addr} {m : Str → Option Value} {R C : Addr} {oR oC : Obj}
theorem gm_search {pl : Sem Bool} {Q : Value × List Value → Shared → Prop} (F : Fr h₀ L s.heap m) (X : K.In h₀) (hv : K.lookup R = some oR) (hc : oR.cls = .type "re.Pattern") (hd : oR.dict = none) (h : Q (.builtin "re.Pattern.search", [.ref R]) s) :
    wpAny (model prog w) A (getMethod (.ref R) (Str.ofString "search") pl) Q E s :=
  getMethod_builtin ⟨oR, F.keep _ _ (X _ _ hv), hc⟩ plainAttrs_re slot_re_search type_re_search (fun a e => by injection e with e; exact ⟨oR, e ▸ F.keep _ _ (X _ _ hv), hd⟩) h
theorem sc_search {pat f1 : Value} {code : Array Value} {nn : Nat} {x : Str} {t : Tok} {Q : Value → Shared → Prop} (F : Fr h₀ L s.heap m) (X : K.In h₀) (hv : K.lookup R = some oR) (hc : oR.cls = .type "re.Pattern") (hd : oR.data = .fields #[pat, f1, .int 0 0, .none, .none, .ref C, .int 0 0])
    (hv2 : K.lookup C = some oC) (hc2 : oC.cls = .type "tuple") (hd2 : oC.data = .seq code nn)
    {cd : Array Nat} (hcd : (code.map reRawOf).map (·.toNat) = cd) (hm : ((Sre.forSearch cd x.cps 0 0 x.cps.size false).runFor 4).outcome = some .failed) (hx : x.length ≤ 1000) (h : Q .none s) :
    wpAny (model prog w) A (call (.builtin "re.Pattern.search") [.ref R, .str x t]) Q E s :=
  call_search (F.keep _ _ (X _ _ hv)) hc hd (F.keep _ _ (X _ _ hv2)) hc2 hd2 (hcd ▸ hm) hx h
end
/-- texts that may be names: y, n, Y, N -/
def NameT (x : Str) : Prop := ∀ c ∈ x.cps.toList, c = 121 ∨ c = 110 ∨ c = 89 ∨ c = 78
def ValT (x : Str) : Prop := ∀ c ∈ x.cps.toList, 48 ≤ c ∧ c ≤ 53
theorem getD_mem (x : Str) {s : Nat} (h : s < x.cps.size) : x.cps.getD s 0 ∈ x.cps.toList := by
  rw [Array.getD_eq_getD_getElem?, Array.getElem?_eq_getElem h, Option.getD_some]
  exact Array.mem_toList_iff.mpr (Array.getElem_mem h)
theorem name_fails {x : Str} (h : NameT x) : ((Sre.forSearch nameCode x.cps 0 0 x.cps.size false).runFor 4).outcome = some .failed :=
  search_none _ _ (.inl rfl) fun s hs seen => name_safe (h _ (getD_mem x hs)) seen
theorem val_fails {x : Str} (h : ValT x) : ((Sre.forSearch valCode x.cps 0 0 x.cps.size false).runFor 4).outcome = some .failed :=
  search_none _ _ (.inr rfl) fun s hs seen => val_safe (h _ (getD_mem x hs)) seen
end Mine
end

-- part S1
section
open PySem PySem.W PyProof.Rows PySem.Calls
set_option Elab.async false
set_option maxRecDepth 100000
namespace Mine
local macro_rules | `(tactic| walk_at $s:str) => `(tactic| k_extra $s)
abbrev tupObj (vs : List Value) (n : Nat) : Obj := { cls := .type "tuple", data := .seq vs.toArray n }
def pairD (q : Str × Str) : Dat := .tuple [.str q.1, .str q.2]
/-- a list of pairs that stands in the ledger -/
def PairsIn (news : List (Addr × Obj)) (rs : List Addr) (hs : List (Str × Str)) : Prop := DatAll news (rs.map Value.ref) (hs.map pairD)
theorem PairsIn.get {news : List (Addr × Obj)} {rs : List Addr} {hs : List (Str × Str)} (h : PairsIn news rs hs) {i : Nat} {T : Addr} (hT : rs[i]? = some T) :
    ∃ q t u n, hs[i]? = some q ∧ (T, tupObj [.str q.1 t, .str q.2 u] n) ∈ news := by
  have hl := h.length
  rw [List.length_map, List.length_map] at hl
  have hi := (List.getElem?_eq_some_iff.mp hT).1
  have hlk : i < (hs.map pairD).length := by rw [List.length_map]; omega
  obtain ⟨v, e1, e2⟩ := DatAll.get h hlk
  rw [List.getElem?_map, hT] at e1
  cases e1
  rw [List.getElem_map] at e2
  have hi' : i < hs.length := by omega
  unfold pairD at e2
  cases e2 with
  | tuple hm r =>
    cases r with
    | cons a r =>
      cases r with
      | cons b r =>
        cases r
        cases a
        cases b
        exact ⟨hs[i], _, _, _, List.getElem?_eq_getElem hi', hm⟩
def sdF (hs : List (Str × Str)) (name : Str) : Option Str := (hs.find? fun q => Txt.lower q.1 == name).map (·.2)
theorem sdF_none {hs : List (Str × Str)} {y : Str} (h : ∀ j q, j < hs.length → hs[j]? = some q → (Txt.lower q.1 == y) = false) : sdF hs y = none := by
  unfold sdF
  rw [Option.map_eq_none_iff, List.find?_eq_none]
  intro q hq
  obtain ⟨j, hj, rfl⟩ := List.getElem_of_mem hq
  rw [h j _ hj (List.getElem?_eq_getElem hj)]
  exact Bool.false_ne_true
theorem sdF_some {hs : List (Str × Str)} {y : Str} {i : Nat} {q : Str × Str} (hi : hs[i]? = some q) (h1 : (Txt.lower q.1 == y) = true) (h : ∀ j q, j < i → hs[j]? = some q → (Txt.lower q.1 == y) = false) : sdF hs y = some q.2 := by
  unfold sdF
  rw [Option.map_eq_some_iff]
  refine ⟨q, ?_, rfl⟩
  rw [List.find?_eq_some_iff_append]
  refine ⟨h1, hs.take i, hs.drop (i + 1), ?_, ?_⟩
  · obtain ⟨hl, rfl⟩ := List.getElem?_eq_some_iff.mp hi
    rw [List.getElem_cons_drop, List.take_append_drop]
  · intro a ha
    obtain ⟨j, hj, e⟩ := List.getElem_of_mem ha
    rw [List.length_take] at hj
    rw [List.getElem_take] at e
    rw [h j a (by omega) (by rw [List.getElem?_eq_getElem (by omega), e])]
    rfl
local macro_rules | `(tactic| k_mem) => `(tactic| first | assumption | exact List.mem_append_left _ (by with_reducible assumption) | exact List.mem_append_right _ (by with_reducible assumption) | exact List.mem_cons_of_mem _ (List.mem_cons_of_mem _ (List.mem_cons_of_mem _ (by with_reducible assumption))) | exact List.mem_cons_of_mem _ (List.mem_cons_of_mem _ (List.mem_cons_of_mem _ (List.mem_cons_of_mem _ (by with_reducible assumption)))))
local macro_rules | `(tactic| k_all) => `(tactic| assumption)
theorem push_refs (rs : List Addr) (T : Addr) : (rs.map Value.ref).toArray.push (.ref T) = ((rs ++ [T]).map Value.ref).toArray := by simp
theorem refs_size {rs : List Addr} (h : rs.length ≤ 20) : (rs.map Value.ref).toArray.size ≤ sizeLine := by rw [List.size_toArray, List.length_map, PySem.sizeLine_eq]; omega
abbrev hLed (w : World) (t : Tok) (x d l : Addr) (rs : List Addr) (nn : Nat) (news : List (Addr × Obj)) : List (Addr × Obj) := (l, listOf (rs.map Value.ref).toArray nn) :: (x, instObj 210 d) :: (d, dictOf [hEntry w t l] 1) :: news
/-- what setdefault does -/
def SdPost (w : World) (t : Tok) (x d l : Addr) (rs : List Addr) (nn : Nat) (news : List (Addr × Obj)) (hs : List (Str × Str)) (name val : Str) (v : Value) (news' : List (Addr × Obj)) : Prop :=
  (∃ r u, sdF hs (Txt.lower name) = some r ∧ v = .str r u ∧ news' = hLed w t x d l rs nn news) ∨
  (sdF hs (Txt.lower name) = none ∧ ∃ u T nn' t1 t2 n2, v = .str val u ∧ (∀ p ∈ hLed w t x d l rs nn news, p.1 < T) ∧ news' = hLed w t x d l (rs ++ [T]) nn' ((T, tupObj [.str name t1, .str val t2] n2) :: news))
theorem allLt_mem {D : Addr} : ∀ {l : List (Addr × Obj)}, AllLt D l → ∀ p ∈ l, p.1 < D
  | [], _, p, hp => nomatch hp
  | q :: r, h, p, hp => by
    rcases List.mem_cons.mp hp with rfl | hp
    · exact h.1
    · exact allLt_mem h.2 p hp
theorem allLt_three {D a b c : Addr} {oa ob oc : Obj} {news : List (Addr × Obj)} (h : @LT.lt Nat _ a D ∧ @LT.lt Nat _ b D ∧ @LT.lt Nat _ c D ∧ AllLt D news) : ∀ p ∈ (a, oa) :: (b, ob) :: (c, oc) :: news, p.1 < D := by
  intro p hp
  rcases List.mem_cons.mp hp with rfl | hp
  · exact h.1
  rcases List.mem_cons.mp hp with rfl | hp
  · exact h.2.1
  rcases List.mem_cons.mp hp with rfl | hp
  · exact h.2.2.1
  · exact allLt_mem h.2.2.2 p hp
theorem move_four {α : Type} {p a b c q : α} {r : List α} (h : p ∈ a :: b :: c :: q :: r) : p ∈ q :: a :: b :: c :: r := by
  simp only [List.mem_cons] at h ⊢
  rcases h with h | h | h | h | h
  · exact .inr (.inl h)
  · exact .inr (.inr (.inl h))
  · exact .inr (.inr (.inr (.inl h)))
  · exact .inl h
  · exact .inr (.inr (.inr (.inr h)))
set_option maxHeartbeats 8000000 in
theorem sd_con (w : World) (news : List (Addr × Obj)) (t tn tv : Tok) (x d l : Addr) (nn : Nat) (rs : List Addr) (hs : List (Str × Str)) (hp : PairsIn news rs hs) (hl : rs.length ≤ 20) (hsl : ∀ q ∈ hs, q.1.length ≤ 20 ∧ q.2.length ≤ 20) (name val : Str) (hn : name.length ≤ 20) (hv : val.length ≤ 20) (h1 : NameT name) (h2 : NameT (Txt.lower name)) (h3 : ValT val)
    (hxl : @LT.lt Nat _ x l) (hdl : @LT.lt Nat _ d l) (hap : ∀ p ∈ news, p.1 ≠ l) :
    Con w 200 (hLed w t x d l rs nn news) [.ref x, .str name tn, .str val tv] 5 1000 (SdPost w t x d l rs nn news hs name val) := by
  unfold Con PRG
  k_with_none
  w_top off
  k_fill
  intro p loose mean mg mb dp un gd cn cs a ccd cl outer A₀ base h₀ L m s Q E B F X N T hk hd hu hret
  have hzz := refs_size hl
  have hlen : rs.length = hs.length := by have := hp.length; rwa [List.length_map, List.length_map] at this
  k_with "pyIter ref" => (
    (rename Fr _ _ _ _ => lF'); (rename News _ _ _ _ => lN');
    (with_unfolding_all refine' turns_refs (σ := Unit) rs (fun c => _) (fun c => []) (fun i c => ∀ j q, j < i → hs[j]? = some q → (Txt.lower q.1 == Txt.lower name) = false) [Str.ofString "k", Str.ofString "v"] () (by rfl) ?kl lF' lN' (fun j q hj => absurd hj (Nat.not_lt_zero _)) (List.forall_mem_nil _) ?_ ?_);
    (case kl => intro c; refine List.mem_cons.mpr (Or.inl ?_); with_unfolding_all rfl);
    (all_goals clear lF' lN');
    (rotate_left; intro c u h tk hf F₁ N₁; dsimp only [kstB] at F₁ N₁; rotate_right; intro i T I c u h tk oI hn hf hne F₁ N₁; obtain ⟨q, tq, uq, nq, hq, hT⟩ := hp.get hn; dsimp only [kstB] at F₁ N₁; have hql := hsl q (List.mem_of_getElem? hq);
     have hT2 := List.mem_cons_of_mem (I, oI) (List.mem_cons_of_mem (l, listOf (rs.map Value.ref).toArray nn) (List.mem_cons_of_mem (x, instObj 210 d) (List.mem_cons_of_mem (d, dictOf [hEntry w t l] 1) hT)));
     (try k_fold)))
  k_with "LEnd" => (
    (refine JS.fin () (by assumption) (by assumption) (by kst_all) (by kst_in) (by k_memK) ?_ ?_ (by kst_same)) <;>
    (first | exact hne | (intro j q' hj hq'; rcases Nat.lt_succ_iff_lt_or_eq.mp hj with hj | hj; (exact hf j q' hj hq'); (subst hj; rw [hq] at hq'; cases hq'; assumption))))
  refine wpAny_call ?_
  k_dflt (first | (refine' code_def ?k1 ?k2 ?k3 ?k4 ?k5 ?kA ?kF ?kK ?k6 ?k7 ?k8 ?k9 ?kB ?_ ?c2 ?c3 ?c4 ?c5; (case kA => exact rfl); (case kF => exact rfl); (case kK => first | exact rfl | assumption); (case k1 => k_asm); (case k2 => k_asm); (case k3 => k_asm); (case k4 => k_asm); (case k5 => k_asm); (case k6 => k_is); (case k7 => k_is); (case k8 => ktr_room); (case k9 => first | exact BindsTo.of_eq rfl | exact binds_K (by k_in) rfl (by k_is) rfl rfl rfl); (case c5 => decide); (case kB => exact locs rfl); (case c2 => exact rfl); (case c3 => exact rfl); (case c4 => exact rfl); k_whole; intro g' L' h' FG' F' N' B' X' T'; (try dsimp only); (try k_lift B'); (try k_fold)) | (refine' code_def ?k1 ?k2 ?k3 ?k4 ?k5 ?kA ?kF ?kK ?k6 ?k7 ?k8 ?k9 ?kB ?_ ?c2 ?c3 ?c4 ?c5; (case kA => exact rfl); (case kF => exact rfl); (case kK => first | exact rfl | assumption); (case k1 => k_asm); (case k2 => k_asm); (case k3 => k_asm); (case k4 => k_asm); (case k5 => k_asm); (case k6 => k_is); (case k7 => k_is); (case k8 => ktr_room); (case k9 => (refine' kp_binds ?kx ?ke; (case kx => k_in); (case ke => exact fun _ => rfl))); (case c5 => decide); (case kB => exact locs rfl); (case c2 => exact rfl); (case c3 => exact rfl); (case c4 => exact rfl); k_whole; intro g' L' h' FG' F' N' B' X' T'; (try dsimp only); (try k_lift B'); (try k_fold)))
  k_with "call ref" => (k_here; (k_dflt (first
  | (refine' call_cls ?k1y0 ?k2y0 ?k3y0 ?k4y0 ?k5y0 ?k6y0 ?_; (case k1y0 => k_asm); (case k2y0 => k_asm); (case k3y0 => k_asm); (case k4y0 => k_is); (case k5y0 => k_is); (case k6y0 => k_is); k_whole; intro x' d' h' F' N' l1 l2; (try k_lt l1); (try k_lt2 l2); (try k_sweep); (first | (refine' code_def ?k1 ?k2 ?k3 ?k4 ?k5 ?kA ?kF ?kK ?k6 ?k7 ?k8 ?k9 ?kB ?_ ?c2 ?c3 ?c4 ?c5; (case kA => exact rfl); (case kF => exact rfl); (case kK => first | exact rfl | assumption); (case k1 => k_asm); (case k2 => k_asm); (case k3 => k_asm); (case k4 => k_asm); (case k5 => k_asm); (case k6 => k_is); (case k7 => k_is); (case k8 => ktr_room); (case k9 => first | exact BindsTo.of_eq rfl | exact binds_K (by k_in) rfl (by k_is) rfl rfl rfl); (case c5 => decide); (case kB => exact locs rfl); (case c2 => exact rfl); (case c3 => exact rfl); (case c4 => exact rfl); k_whole; intro g' L' h' FG' F' N' B' X' T'; (try dsimp only); (try k_lift B'); (try k_fold)) | (refine' code_def ?k1 ?k2 ?k3 ?k4 ?k5 ?kA ?kF ?kK ?k6 ?k7 ?k8 ?k9 ?kB ?_ ?c2 ?c3 ?c4 ?c5; (case kA => exact rfl); (case kF => exact rfl); (case kK => first | exact rfl | assumption); (case k1 => k_asm); (case k2 => k_asm); (case k3 => k_asm); (case k4 => k_asm); (case k5 => k_asm); (case k6 => k_is); (case k7 => k_is); (case k8 => ktr_room); (case k9 => (refine' kp_binds ?kx ?ke; (case kx => k_in); (case ke => exact fun _ => rfl))); (case c5 => decide); (case kB => exact locs rfl); (case c2 => exact rfl); (case c3 => exact rfl); (case c4 => exact rfl); k_whole; intro g' L' h' FG' F' N' B' X' T'; (try dsimp only); (try k_lift B'); (try k_fold))))
  | (refine' call_meth ?k1y0 ?k2y0 ?_; (case k1y0 => k_asm); (case k2y0 => k_mem); k_whole; (first | (refine' code_def ?k1 ?k2 ?k3 ?k4 ?k5 ?kA ?kF ?kK ?k6 ?k7 ?k8 ?k9 ?kB ?_ ?c2 ?c3 ?c4 ?c5; (case kA => exact rfl); (case kF => exact rfl); (case kK => first | exact rfl | assumption); (case k1 => k_asm); (case k2 => k_asm); (case k3 => k_asm); (case k4 => k_asm); (case k5 => k_asm); (case k6 => k_is); (case k7 => k_is); (case k8 => ktr_room); (case k9 => first | exact BindsTo.of_eq rfl | exact binds_K (by k_in) rfl (by k_is) rfl rfl rfl); (case c5 => decide); (case kB => exact locs rfl); (case c2 => exact rfl); (case c3 => exact rfl); (case c4 => exact rfl); k_whole; intro g' L' h' FG' F' N' B' X' T'; (try dsimp only); (try k_lift B'); (try k_fold)) | (refine' code_def ?k1 ?k2 ?k3 ?k4 ?k5 ?kA ?kF ?kK ?k6 ?k7 ?k8 ?k9 ?kB ?_ ?c2 ?c3 ?c4 ?c5; (case kA => exact rfl); (case kF => exact rfl); (case kK => first | exact rfl | assumption); (case k1 => k_asm); (case k2 => k_asm); (case k3 => k_asm); (case k4 => k_asm); (case k5 => k_asm); (case k6 => k_is); (case k7 => k_is); (case k8 => ktr_room); (case k9 => (refine' kp_binds ?kx ?ke; (case kx => k_in); (case ke => exact fun _ => rfl))); (case c5 => decide); (case kB => exact locs rfl); (case c2 => exact rfl); (case c3 => exact rfl); (case c4 => exact rfl); k_whole; intro g' L' h' FG' F' N' B' X' T'; (try dsimp only); (try k_lift B'); (try k_fold))))
  | (refine wpAny_call ?_; (first | (refine' code_def ?k1 ?k2 ?k3 ?k4 ?k5 ?kA ?kF ?kK ?k6 ?k7 ?k8 ?k9 ?kB ?_ ?c2 ?c3 ?c4 ?c5; (case kA => exact rfl); (case kF => exact rfl); (case kK => first | exact rfl | assumption); (case k1 => k_asm); (case k2 => k_asm); (case k3 => k_asm); (case k4 => k_asm); (case k5 => k_asm); (case k6 => k_is); (case k7 => k_is); (case k8 => ktr_room); (case k9 => first | exact BindsTo.of_eq rfl | exact binds_K (by k_in) rfl (by k_is) rfl rfl rfl); (case c5 => decide); (case kB => exact locs rfl); (case c2 => exact rfl); (case c3 => exact rfl); (case c4 => exact rfl); k_whole; intro g' L' h' FG' F' N' B' X' T'; (try dsimp only); (try k_lift B'); (try k_fold)) | (refine' code_def ?k1 ?k2 ?k3 ?k4 ?k5 ?kA ?kF ?kK ?k6 ?k7 ?k8 ?k9 ?kB ?_ ?c2 ?c3 ?c4 ?c5; (case kA => exact rfl); (case kF => exact rfl); (case kK => first | exact rfl | assumption); (case k1 => k_asm); (case k2 => k_asm); (case k3 => k_asm); (case k4 => k_asm); (case k5 => k_asm); (case k6 => k_is); (case k7 => k_is); (case k8 => ktr_room); (case k9 => (refine' kp_binds ?kx ?ke; (case kx => k_in); (case ke => exact fun _ => rfl))); (case c5 => decide); (case kB => exact locs rfl); (case c2 => exact rfl); (case c3 => exact rfl); (case c4 => exact rfl); k_whole; intro g' L' h' FG' F' N' B' X' T'; (try dsimp only); (try k_lift B'); (try k_fold)))))))
  k_with "getMethod ref" => (k_here; (with_reducible show wpAny _ _ (getMethod (Value.ref _) (PySem.Str.ofString "search") _) _ _ _); (with_unfolding_all refine' gm_search ?Fy1 ?Xy1 ?vy1 ?cy1 ?dy1 ?_; (case Fy1 => k_asm); (case Xy1 => k_asm); (case vy1 => k_is); (case cy1 => rfl); (case dy1 => rfl)))
  k_with "call builtin:re.Pattern.search" => (k_here; (k_dflt (refine' sc_search ?Fy2 ?Xy2 ?vy2 ?cy2 ?dy2 ?v2y2 ?c2y2 ?d2y2 ?cdy2 ?my2 ?xy2 ?_; (case Fy2 => k_asm); (case Xy2 => k_asm); (case vy2 => k_is); (case cy2 => rfl); (case dy2 => rfl); (case v2y2 => k_is); (case c2y2 => rfl); (case d2y2 => rfl); (case my2 => first | (refine name_fails ?_; assumption) | (refine val_fails ?_; assumption)); (case cdy2 => first | decide +kernel | rfl); (case xy2 => omega))))
  k_with "exec For Tuple Attribute cons nil" => (k_here; (rename Fr _ _ _ _ => lFy3); (with_unfolding_all refine' For_turns lFy3 ?_); k_whole)
  k_with "LPost" => (dsimp only [LPost])
  k_with "execs nil" => (k_here; refine wpAny_execs_nil ?_)
  k_with "call builtin:list.append" => (k_here; (with_reducible show wpAny _ _ (call (Value.builtin _) [Value.ref _, _]) _ _ _); k_dflt (refine' append_K ?k1y6 ?k2y6 ?k3y6 ?_ ?zy6; (case k1y6 => k_asm); (case k2y6 => k_asm); (case k3y6 => k_upd); (case zy6 => assumption); k_whole); intro h' F' N'; (try k_sweep))
  k_steps
  · refine hret _ (hLed w t x d l rs nn news) _ _ (Or.inl ⟨_, _, sdF_some hq (by assumption) hf, rfl, rfl⟩) (by k_asm) (kst_newsOf (by k_asm) (by intro p hp; kst_mem))
  · rename _ ∧ _ ∧ _ ∧ AllLt _ _ => l9
    refine hret _ (hLed w t x d l _ _ _) _ _ (Or.inr ⟨sdF_none (by rw [← hlen]; exact hf), tv, _, nn + 1, tn, tv, 0, rfl, allLt_three l9, rfl⟩) (by k_asm) (kst_newsOf (by k_asm) ?_)
    rw [push_refs]
    exact fun p hp => move_four hp
end Mine
end

-- part S2
section
open PySem PySem.W PyProof.Rows PySem.Calls
set_option Elab.async false
set_option maxRecDepth 100000
namespace Mine
local macro_rules | `(tactic| walk_at $s:str) => `(tactic| k_extra $s)
local macro_rules | `(tactic| k_all) => `(tactic| assumption)
theorem refs_all (rs : List Addr) : (slicePick (rs.map Value.ref).toArray none none none).toList = rs.map Value.ref := by rw [slicePick_all]
set_option maxHeartbeats 8000000 in
theorem items_con (w : World) (news : List (Addr × Obj)) (t : Tok) (x d l : Addr) (nn : Nat) (rs : List Addr) (hl : rs.length ≤ 20) :
    Con w 174 (hLed w t x d l rs nn news) [.ref x] 3 1000 (fun v news' => ∃ D n, v = .ref D ∧ news' = (D, listOf (rs.map Value.ref).toArray n) :: hLed w t x d l rs nn news) := by
  unfold Con PRG
  k_with_none
  w_top off
  k_fill
  intro p loose mean mg mb dp un gd cn cs a ccd cl outer A₀ base h₀ L m s Q E B F X N T hk hd hu hret
  have hzz := refs_size hl
  refine wpAny_call ?_
  k_dflt (first | (refine' code_def ?k1 ?k2 ?k3 ?k4 ?k5 ?kA ?kF ?kK ?k6 ?k7 ?k8 ?k9 ?kB ?_ ?c2 ?c3 ?c4 ?c5; (case kA => exact rfl); (case kF => exact rfl); (case kK => first | exact rfl | assumption); (case k1 => k_asm); (case k2 => k_asm); (case k3 => k_asm); (case k4 => k_asm); (case k5 => k_asm); (case k6 => k_is); (case k7 => k_is); (case k8 => ktr_room); (case k9 => first | exact BindsTo.of_eq rfl | exact binds_K (by k_in) rfl (by k_is) rfl rfl rfl); (case c5 => decide); (case kB => exact locs rfl); (case c2 => exact rfl); (case c3 => exact rfl); (case c4 => exact rfl); k_whole; intro g' L' h' FG' F' N' B' X' T'; (try dsimp only); (try k_lift B'); (try k_fold)) | (refine' code_def ?k1 ?k2 ?k3 ?k4 ?k5 ?kA ?kF ?kK ?k6 ?k7 ?k8 ?k9 ?kB ?_ ?c2 ?c3 ?c4 ?c5; (case kA => exact rfl); (case kF => exact rfl); (case kK => first | exact rfl | assumption); (case k1 => k_asm); (case k2 => k_asm); (case k3 => k_asm); (case k4 => k_asm); (case k5 => k_asm); (case k6 => k_is); (case k7 => k_is); (case k8 => ktr_room); (case k9 => (refine' kp_binds ?kx ?ke; (case kx => k_in); (case ke => exact fun _ => rfl))); (case c5 => decide); (case kB => exact locs rfl); (case c2 => exact rfl); (case c3 => exact rfl); (case c4 => exact rfl); k_whole; intro g' L' h' FG' F' N' B' X' T'; (try dsimp only); (try k_lift B'); (try k_fold)))
  k_with "subscriptTail Name Slice ref ref" => (k_here; (with_reducible show wpAny _ _ (subscriptTail _ (PySem.Expr.Slice _ _ none _) (Value.ref _) (Value.ref _)) _ _ _); k_dflt (refine' kmk_slice_lit ?Fy0 ?Ny0 ?ly0 ?py0 ?qy0 ?ey0 ?_ ?sy0 ?ty0 ?zy0; (case Fy0 => k_asm); (case Ny0 => k_asm); (case ly0 => kmk_list); (case py0 => kmk_part); (case qy0 => kmk_part); (case ey0 => exact refs_all _); (case sy0 => rfl); (case ty0 => kmk_pure); (case zy0 => assumption); k_whole); intro D' h' F' N' l1'; (try k_lt l1'))
  k_steps
  refine hret _ _ _ _ ⟨_, _, rfl, rfl⟩ (by k_asm) (by k_asm)
end Mine
end

-- part K0
section
open PySem PySem.W PyProof.Rows PySem.Calls PySem.MeetsSeq PySem.SeqAt
set_option Elab.async false
set_option maxRecDepth 100000
namespace Mine
inductive OptsAre : List Value → List (Option Str) → Prop
  | nil : OptsAre [] []
  | cons {v : Value} {o : Option Str} {vs : List Value} {lo : List (Option Str)} : OptStr o v → OptsAre vs lo → OptsAre (v :: vs) (o :: lo)
theorem OptsAre.length {vs : List Value} {lo : List (Option Str)} (h : OptsAre vs lo) : vs.length = lo.length := by
  induction h with
  | nil => rfl
  | cons _ _ ih => rw [List.length_cons, List.length_cons, ih]
theorem OptsAre.get {vs : List Value} {lo : List (Option Str)} (h : OptsAre vs lo) : ∀ {i : Nat} {v : Value}, vs[i]? = some v → ∃ o, lo[i]? = some o ∧ OptStr o v := by
  induction h with
  | nil => intro i v h; cases h
  | cons a _ ih =>
    intro i v h
    cases i with
    | zero => cases h; exact ⟨_, rfl, a⟩
    | succ i => exact ih h
theorem OptsAre.at {vs : List Value} {lo : List (Option Str)} (h : OptsAre vs lo) {i : Nat} (hi : i < lo.length) : ∃ v, vs[i]? = some v ∧ OptStr lo[i] v := by
  have hi' : i < vs.length := by rw [h.length]; exact hi
  obtain ⟨o, e, ho⟩ := h.get (List.getElem?_eq_getElem hi')
  rw [List.getElem?_eq_getElem hi] at e
  cases e
  exact ⟨_, List.getElem?_eq_getElem hi', ho⟩
def isOptV (o : Option Str) (v : Value) : Bool := match v with
  | .none => o == none
  | .str y _ => o == some y
  | _ => false
theorem EqAt_none {A : Around} {s : Shared} : EqAt A s .none .none true := fun prog w E Q h => by
  unfold eqBool
  refine wpAny_holding ?_
  refine wpAny_ite_split (fun hab => ?_) (fun hab => ?_)
  · exact wpAny_bind (wpAny_rule (wpAny_pure h))
  · exact wpAny_bind (RcAt.none_none prog w E _ (wpAny_truthy_bool h))
theorem some_beq (a b : Str) : (some a == some b) = (a == b) := by
  by_cases h : a = b
  · subst h; simp
  · rw [beq_eq_false_iff_ne.mpr h, beq_eq_false_iff_ne.mpr (fun e => h (Option.some.inj e))]
theorem eqAt_opt {A : Around} {s : Shared} {o o' : Option Str} {y x : Value} (hy : OptStr o y) (hx : OptStr o' x) : EqAt A s y x (isOptV o' y) := by
  cases o with
  | none =>
    rw [show y = .none from hy]
    cases o' with
    | none => rw [show x = .none from hx]; exact EqAt_none
    | some b => obtain ⟨u, rfl⟩ := hx; exact EqAt.none_str b u
  | some a =>
    obtain ⟨t, rfl⟩ := hy
    cases o' with
    | none => rw [show x = .none from hx]; exact EqAt.str_none a t
    | some b =>
      obtain ⟨u, rfl⟩ := hx
      have e : isOptV (some b) (.str a t) = (a == b) := by
        show (some b == some a) = _
        rw [some_beq, BEq.comm]
      rw [e]
      exact EqAt.str_str a t b u
theorem isOptV_eq {o o' : Option Str} {y : Value} (hy : OptStr o y) : isOptV o' y = (o == o') := by
  cases o with
  | none =>
    rw [show y = .none from hy]
    show (o' == none) = _
    cases o' <;> rfl
  | some a =>
    obtain ⟨t, rfl⟩ := hy
    show (o' == some a) = _
    rw [BEq.comm]
section
variable {prog : Program} {w : World} {A : Around} {E : Value → Shared → Prop} {s : Shared}
theorem index_opts {l : Addr} {vs : List Value} {lo : List (Option Str)} {o : Option Str} {x : Value} {Q : Value → Shared → Prop} (hl : s.heap.IsList l vs.toArray) (hv : OptsAre vs lo) (hx : OptStr o x) (ho : o ∈ lo) (hlen : lo.length ≤ 1000)
    (h : ∀ t k, Q (.int (lo.idxOf o : Nat) t) { s with toks := k }) : wpAny (model prog w) A (call (.builtin "list.index") [.ref l, x]) Q E s := by
  obtain ⟨⟨cls, dd, data, sl⟩, ho1, hc, n, hd⟩ := id hl
  simp only at hc hd
  subst hc hd
  have hvl := hv.length
  have hj : lo.idxOf o < lo.length := List.idxOf_lt_length_iff.mpr ho
  refine call_meets PySem.F.slot_list_index ⟨_, ho1, rfl⟩ PySem.F.entry_list_index (PySem.F.args_list_index_2 _ _)
    (list_indexAt l vs.toArray n dd sl x (isOptV o) (lo.idxOf o) (by simpa [hvl] using hj) (by omega) ?_ ?_) ⟨ho1, fun y hy => ?_, h _ _⟩
  · obtain ⟨v, e, hov⟩ := hv.at hj
    have e2 : vs.toArray[lo.idxOf o]'(by simpa [hvl] using hj) = v := by
      have := (List.getElem?_eq_some_iff.mp e).2
      simpa using this
    rw [e2, isOptV_eq hov]
    simp
  · intro m hm hlt
    have hm' : m < lo.length := by rw [← hvl]; simpa using hm
    obtain ⟨v, e, hov⟩ := hv.at hm'
    have e2 : vs.toArray[m] = v := by
      have := (List.getElem?_eq_some_iff.mp e).2
      simpa using this
    rw [e2, isOptV_eq hov]
    have := List.not_of_lt_findIdx (p := (· == o)) (xs := lo) hlt
    simpa using this
  · have hy' : y ∈ vs := by simpa using hy
    obtain ⟨i, hi, rfl⟩ := List.getElem_of_mem hy'
    obtain ⟨o1, _, ho1⟩ := hv.get (List.getElem?_eq_getElem hi)
    exact eqAt_opt ho1 hx
theorem item_any {value slice : PySem.Expr} {l : Addr} {vs : List Value} {i : Nat} {v : Value} {u : Tok} {Q : Value → Shared → Prop} (hl : s.heap.IsList l vs.toArray) (hi : vs[i]? = some v) (hs : i < 1000) (h : Q v s)
    (hs' : subscripted slice false (.ref l) (.int (i : Int) u) = operate [.ref l, .int (i : Int) u] (getItem (.ref l) (.int (i : Int) u)) := by with_unfolding_all rfl) :
    wpAny (model prog w) A (subscriptTail value slice (.ref l) (.int (i : Int) u)) Q E s :=
  tail_any hl.typeIs slot_list_getitem.lookup (wpAny_getItem_list hl (by omega) (by omega) (by simpa using hi) h) hs'
theorem item_two {value slice : PySem.Expr} {l : Addr} {a b : Str} {ta tb : Tok} {i : Int} {u : Tok} {Q : Value → Shared → Prop} (hl : s.heap.IsList l [Value.str a ta, Value.str b tb].toArray) (h : ∀ t, Q (.str (if i.fmod 2 = 0 then a else b) t) s)
    (hs' : subscripted slice false (.ref l) (.int (i.fmod 2) u) = operate [.ref l, .int (i.fmod 2) u] (getItem (.ref l) (.int (i.fmod 2) u)) := by with_unfolding_all rfl) :
    wpAny (model prog w) A (subscriptTail value slice (.ref l) (.int (i.fmod 2) u)) Q E s := by
  have h0 : 0 ≤ i.fmod 2 := Int.fmod_nonneg_of_pos _ (by decide)
  have h2 : i.fmod 2 < 2 := Int.fmod_lt_of_pos _ (by decide)
  by_cases e : i.fmod 2 = 0
  · refine tail_any hl.typeIs slot_list_getitem.lookup (wpAny_getItem_list (x := .str a ta) hl h0 (by omega) (by rw [e]; rfl) ?_) hs'
    have := h ta
    rwa [if_pos e] at this
  · have e1 : i.fmod 2 = 1 := by omega
    refine tail_any hl.typeIs slot_list_getitem.lookup (wpAny_getItem_list (x := .str b tb) hl h0 (by omega) (by rw [e1]; rfl) ?_) hs'
    have := h tb
    rwa [if_neg e] at this
theorem strsOf_eqGives {bs : List (Str × Tok)} {y : Str} {t : Tok} : ∀ v, v ∈ (strsOf bs).toArray → EqGives v (.str y t) (isOptV (some y) v) := by
  intro v hv
  have hv' : v ∈ bs.map fun p => Value.str p.1 p.2 := by simpa [strsOf] using hv
  obtain ⟨q, _, rfl⟩ := List.mem_map.mp hv'
  have e : isOptV (some y) (.str q.1 q.2) = (q.1 == y) := by
    show (some y == some q.1) = _
    rw [some_beq, BEq.comm]
  rw [e]
  exact eqGives_str _ _ _ _
theorem notIn_strs {l : Addr} {bs : List (Str × Tok)} {y : Str} {t : Tok} {Q : Value → Shared → Prop} (hl : s.heap.IsList l (strsOf bs).toArray) (h : Q (.bool (!(bs.map Prod.fst).contains y)) s) :
    wpAny (model prog w) A (compareOp .NotIn (.str y t) (.ref l)) Q E s := by
  refine SeqInW.notIn_listW _ strsOf_eqGives hl ?_
  have e : (strsOf bs).toArray.any (isOptV (some y)) = (bs.map Prod.fst).contains y := by
    rw [List.any_toArray, List.contains_eq_any_beq]
    unfold strsOf
    rw [List.any_map, List.any_map]
    congr 1
  rw [e]
  exact h
end
end Mine
end

-- part C4
section
open PySem PySem.W PyProof.Rows PySem.Calls
set_option Elab.async false
set_option maxRecDepth 100000
namespace Mine
local macro_rules | `(tactic| walk_at $s:str) => `(tactic| k_extra $s)
abbrev onL (le : Str) (gs ps : List Int) (sg : Str) : List Int := onF ps gs sg le (rangeKs 0 (le.length + 1))
abbrev sOpen : Str := Str.ofString "open"
abbrev sHalf : Str := Str.ofString "half"
abbrev sShut : Str := Str.ofString "shut"
def lkStep (le : Str) (gs : List Int) (c : List Int × Str) (n : Nat) : List Int × Str :=
  if (c.2 == sOpen) = true then
    if ((⟨#[n]⟩ : Str) != sQ) = true then (onL le gs c.1 ⟨#[n]⟩, sOpen) else (c.1, sHalf)
  else if (c.2 == sHalf) = true then
    if ((⟨#[n]⟩ : Str) == sQ) = true then (onL le gs c.1 ⟨#[n]⟩, sOpen) else (c.1, sShut)
  else (c.1, sShut)
def lkRun (le : Str) (gs : List Int) (x : List Nat) : List Int × Str := x.foldl (lkStep le gs) ([0], sOpen)
def lkEnd (le : Str) (ps : List Int) (ahead : Str) : Option Str := match ps.getLast? with
  | none => none
  | some p => some (ahead ++ Txt.replace (Txt.slice le (some p) none) sQ sQQ)
def lackF (le : Str) (gs : List Int) (x : List Nat) : Option Str :=
  let c := lkRun le gs x
  if c.1.any (· == (le.length : Int)) then some (Str.ofString "") else
  if (c.2 == sHalf) = true then lkEnd le (onL le gs c.1 sQ) sQ
  else if (c.2 == sShut) = true then none else lkEnd le c.1 (Str.ofString "")

section
variable {le : Str} {gs p1 : List Int} {s1 : Str} {x : Str} {i n : Nat}
theorem lkRun_snoc (hn : x.cps.toList[i]? = some n) (hr : (p1, s1) = lkRun le gs (x.cps.toList.take i)) : lkRun le gs (x.cps.toList.take (i + 1)) = lkStep le gs (p1, s1) n := by
  have e : x.cps.toList.take (i + 1) = x.cps.toList.take i ++ [n] := by rw [List.take_add_one, hn]; rfl
  unfold lkRun at hr ⊢
  rw [e, List.foldl_append, ← hr]
  rfl
theorem lk_w1 (hn : x.cps.toList[i]? = some n) (hr : (p1, s1) = lkRun le gs (x.cps.toList.take i)) (h1 : (s1 == sOpen) = true) (h2 : ((⟨#[n]⟩ : Str) != sQ) = true) : (onL le gs p1 ⟨#[n]⟩, s1) = lkRun le gs (x.cps.toList.take (i + 1)) := by
  rw [lkRun_snoc hn hr]; unfold lkStep; rw [if_pos h1, if_pos h2, eq_of_beq h1]
theorem lk_w2 (hn : x.cps.toList[i]? = some n) (hr : (p1, s1) = lkRun le gs (x.cps.toList.take i)) (h1 : (s1 == sOpen) = true) (h2 : ((⟨#[n]⟩ : Str) != sQ) = false) : (p1, sHalf) = lkRun le gs (x.cps.toList.take (i + 1)) := by
  rw [lkRun_snoc hn hr]; unfold lkStep; rw [if_pos h1, if_neg (by rw [h2]; decide)]
theorem lk_w3 (hn : x.cps.toList[i]? = some n) (hr : (p1, s1) = lkRun le gs (x.cps.toList.take i)) (h1 : (s1 == sOpen) = false) (h2 : (s1 == sHalf) = true) (h3 : ((⟨#[n]⟩ : Str) == sQ) = true) : (onL le gs p1 ⟨#[n]⟩, sOpen) = lkRun le gs (x.cps.toList.take (i + 1)) := by
  rw [lkRun_snoc hn hr]; unfold lkStep; rw [if_neg (by rw [h1]; decide), if_pos h2, if_pos h3]
theorem lk_w4 (hn : x.cps.toList[i]? = some n) (hr : (p1, s1) = lkRun le gs (x.cps.toList.take i)) (h1 : (s1 == sOpen) = false) (h2 : (s1 == sHalf) = true) (h3 : ((⟨#[n]⟩ : Str) == sQ) = false) : (p1, sShut) = lkRun le gs (x.cps.toList.take (i + 1)) := by
  rw [lkRun_snoc hn hr]; unfold lkStep; rw [if_neg (by rw [h1]; decide), if_pos h2, if_neg (by rw [h3]; decide)]
theorem lk_w5 (hn : x.cps.toList[i]? = some n) (hr : (p1, s1) = lkRun le gs (x.cps.toList.take i)) (h1 : (s1 == sOpen) = false) (h2 : (s1 == sHalf) = false) : (p1, sShut) = lkRun le gs (x.cps.toList.take (i + 1)) := by
  rw [lkRun_snoc hn hr]; unfold lkStep; rw [if_neg (by rw [h1]; decide), if_neg (by rw [h2]; decide)]
end
section
variable {le : Str} {gs p1 : List Int} {s1 : Str} {x : Str} {n : Int} {t : Tok}
theorem lk_all (hr : (p1, s1) = lkRun le gs (x.cps.toList.take x.length)) : lkRun le gs x.cps.toList = (p1, s1) := by
  rw [hr, List.take_of_length_le (Nat.le_of_eq (by simp [Str.length]))]
theorem lack_e1 (hr : (p1, s1) = lkRun le gs (x.cps.toList.take x.length)) (h1 : (p1.any fun y => y == (le.length : Int)) = true) : OptStr (lackF le gs x.cps.toList) (.str (Str.ofString "") t) := by
  unfold lackF; rw [lk_all hr]; dsimp only; rw [if_pos h1]; exact ⟨t, rfl⟩
theorem lack_e2 (h1 : (s1 == sHalf) = true) (h2 : (s1 == sShut) = true) : False := by
  rw [eq_of_beq h1] at h2; revert h2; decide +kernel
theorem lack_e3 (hr : (p1, s1) = lkRun le gs (x.cps.toList.take x.length)) (h1 : (p1.any fun y => y == (le.length : Int)) = false) (h2 : (s1 == sHalf) = true) (h3 : decide (onL le gs p1 sQ = []) = true) : OptStr (lackF le gs x.cps.toList) .none := by
  unfold lackF; rw [lk_all hr]; dsimp only; rw [if_neg (by rw [h1]; decide), if_pos h2, of_decide_eq_true h3]; rfl
theorem lack_e4 (hr : (p1, s1) = lkRun le gs (x.cps.toList.take x.length)) (h1 : (p1.any fun y => y == (le.length : Int)) = false) (h2 : (s1 == sHalf) = true) (h3 : (onL le gs p1 sQ).getLast? = some n) :
    OptStr (lackF le gs x.cps.toList) (.str (sQ ++ Txt.replace (Txt.slice le (some n) none) sQ sQQ) t) := by
  unfold lackF; rw [lk_all hr]; dsimp only; rw [if_neg (by rw [h1]; decide), if_pos h2]; unfold lkEnd; rw [h3]; exact ⟨t, rfl⟩
theorem lack_e5 (hr : (p1, s1) = lkRun le gs (x.cps.toList.take x.length)) (h1 : (p1.any fun y => y == (le.length : Int)) = false) (h2 : (s1 == sHalf) = false) (h3 : (s1 == sShut) = true) : OptStr (lackF le gs x.cps.toList) .none := by
  unfold lackF; rw [lk_all hr]; dsimp only; rw [if_neg (by rw [h1]; decide), if_neg (by rw [h2]; decide), if_pos h3]; rfl
theorem lack_e6 (hr : (p1, s1) = lkRun le gs (x.cps.toList.take x.length)) (h1 : (p1.any fun y => y == (le.length : Int)) = false) (h2 : (s1 == sHalf) = false) (h3 : (s1 == sShut) = false) (h4 : decide (p1 = []) = true) : OptStr (lackF le gs x.cps.toList) .none := by
  unfold lackF; rw [lk_all hr]; dsimp only; rw [if_neg (by rw [h1]; decide), if_neg (by rw [h2]; decide), if_neg (by rw [h3]; decide), of_decide_eq_true h4]; rfl
theorem lack_e7 (hr : (p1, s1) = lkRun le gs (x.cps.toList.take x.length)) (h1 : (p1.any fun y => y == (le.length : Int)) = false) (h2 : (s1 == sHalf) = false) (h3 : (s1 == sShut) = false) (h4 : p1.getLast? = some n) :
    OptStr (lackF le gs x.cps.toList) (.str (Str.ofString "" ++ Txt.replace (Txt.slice le (some n) none) sQ sQQ) t) := by
  unfold lackF; rw [lk_all hr]; dsimp only; rw [if_neg (by rw [h1]; decide), if_neg (by rw [h2]; decide), if_neg (by rw [h3]; decide)]; unfold lkEnd; rw [h4]; exact ⟨t, rfl⟩
end
theorem ne_new {l I : Addr} {oI : Obj} {r news : List (Addr × Obj)} {o : Obj} (h : ∀ p ∈ (I, oI) :: r, p.1 < l) (hne : ∀ p ∈ news, p.1 ≠ I) : ∀ p ∈ (l, o) :: news, p.1 ≠ I := fun p hp => by
  rcases List.mem_cons.mp hp with rfl | hp
  · exact Nat.ne_of_gt (h _ (List.Mem.head _))
  · exact hne p hp
theorem ne_tail {I : Addr} {q : Addr × Obj} {news : List (Addr × Obj)} (hne : ∀ p ∈ q :: news, p.1 ≠ I) : ∀ p ∈ news, p.1 ≠ I := fun p hp => hne p (List.mem_cons_of_mem _ hp)

local macro_rules | `(tactic| k_mem) => `(tactic| first | assumption | exact List.mem_append_left _ (by with_reducible assumption) | exact List.mem_append_right _ (by with_reducible assumption))
theorem item_last {prog : Program} {w : World} {A : Around} {E : Value → Shared → Prop} {s : Shared} {value slice : PySem.Expr} {l : Addr} {vs : List Value} {ns : List Int} {u : Tok} {Q : Value → Shared → Prop}
    (hl : s.heap.IsList l vs.toArray) (hi : IntsAre vs ns) (hn : decide (ns = []) = false) (hb : ∀ n ∈ ns, 0 ≤ n ∧ n ≤ 1000) (h : ∀ n t, ns.getLast? = some n → 0 ≤ n → n ≤ 1000 → Q (.int n t) s)
    (hs' : subscripted slice false (.ref l) (.int (-1) u) = operate [.ref l, .int (-1) u] (getItem (.ref l) (.int (-1) u)) := by with_unfolding_all rfl) :
    wpAny (model prog w) A (subscriptTail value slice (.ref l) (.int (-1) u)) Q E s := by
  have hne : ns ≠ [] := by simpa using hn
  have hlen := hi.length
  have hpos : 0 < ns.length := List.length_pos_iff.mpr hne
  obtain ⟨t, ht⟩ := hi.get (ns.length - 1) (ns.getLast hne) (by rw [List.getLast_eq_getElem]; simp)
  have hb' := hb _ (List.getLast_mem hne)
  have e : ((-1 : Int) + (vs.toArray.size : Int)).toNat = ns.length - 1 := by rw [List.size_toArray, hlen]; omega
  refine tail_any hl.typeIs slot_list_getitem.lookup (wpAny_getItem_list_neg hl (by decide) (by rw [List.size_toArray, hlen]; omega) (by decide) ?_ (h _ t (List.getLast?_eq_some_getLast hne) hb'.1 hb'.2)) hs'
  rw [e]
  simpa using ht
theorem onF_bnd {le : Str} {gs ps : List Int} {sg : Str} (hl : le.length ≤ 1000 - 1) : ∀ n ∈ onF ps gs sg le (rangeKs 0 (le.length + 1)), 0 ≤ n ∧ n ≤ 1000 := fun n hn => by
  have h := (List.mem_filter.mp hn).1
  simp only [rangeKs, List.mem_map, List.mem_range] at h
  obtain ⟨k, hk, rfl⟩ := h
  omega
theorem lkRun_bnd {le : Str} {gs : List Int} (hl : le.length ≤ 1000 - 1) (x : List Nat) : ∀ n ∈ (lkRun le gs x).1, 0 ≤ n ∧ n ≤ 1000 := by
  have step : ∀ (c : List Int × Str) (k : Nat), (∀ n ∈ c.1, 0 ≤ n ∧ n ≤ 1000) → ∀ n ∈ (lkStep le gs c k).1, 0 ≤ n ∧ n ≤ 1000 := by
    intro c k hc
    unfold lkStep
    (repeat' split) <;> first | exact onF_bnd hl | exact hc
  have all : ∀ (x : List Nat) (c : List Int × Str), (∀ n ∈ c.1, 0 ≤ n ∧ n ≤ 1000) → ∀ n ∈ (x.foldl (lkStep le gs) c).1, 0 ≤ n ∧ n ≤ 1000 := by
    intro x
    induction x with
    | nil => exact fun c hc => hc
    | cons k r ih => exact fun c hc => ih _ (step c k hc)
  exact all x _ (by simp)
theorem lkRun_bnd' {le : Str} {gs p1 : List Int} {s1 : Str} {x : List Nat} (hl : le.length ≤ 1000 - 1) (hr : (p1, s1) = lkRun le gs x) : ∀ n ∈ p1, 0 ≤ n ∧ n ≤ 1000 := by
  have := lkRun_bnd (gs := gs) hl x
  rw [← hr] at this
  exact this

set_option maxHeartbeats 8000000 in
theorem lack_con (w : World) (news : List (Addr × Obj)) (lg : Addr) (vg : List Value) (ng : Nat) (gs : List Int) (hg : (lg, listOf vg.toArray ng) ∈ news) (ig : IntsAre vg gs)
    (x le : Str) (ts tl : Tok) (hx : x.length ≤ 1000) (hl : le.length ≤ 999) (hl1 : 1 ≤ le.length) :
    Con w 240 news [.str x ts, .str le tl, .ref lg] 2 200 (fun v news' => OptStr (lackF le gs x.cps.toList) v ∧ news' = news) := by
  unfold Con PRG
  k_with_none
  w_top off
  k_fill
  intro p loose mean mg mb dp un gd cn cs a ccd cl outer A₀ base h₀ L m s Q E B F X N T hk hd hu hret
  k_with "pyIter str" => (
    (rename Fr _ _ _ _ => lF'); (rename News _ _ _ _ => lN');
    (with_unfolding_all refine' loop_text (σ := Addr × List Value × List Int × Nat × Str × Tok) (fun c => (c.1, listOf c.2.1.toArray c.2.2.2.1) :: news) (fun c => [(Str.ofString "places", .ref c.1), (Str.ofString "state", .str c.2.2.2.2.1 c.2.2.2.2.2)]) (fun i c => IntsAre c.2.1 c.2.2.1 ∧ (c.2.2.1, c.2.2.2.2.1) = lkRun le gs (x.cps.toList.take i)) [] (?a, [.int 0 ?b], [0], 0, sOpen, ?c) (by rfl) lF' ?kn ?kf ?kk ?_ ?_);
    (case kk => exact List.forall_mem_cons.mpr ⟨by with_unfolding_all rfl, List.forall_mem_cons.mpr ⟨by with_unfolding_all rfl, List.forall_mem_nil _⟩⟩);
    (case kn => with_unfolding_all exact kst_newsOf lN' (by kst_inAny));
    (case kf => exact ⟨.cons _ _ .nil, rfl⟩);
    (all_goals clear lF' lN');
    (rotate_left; intro c u h tk hf F₁ N₁; obtain ⟨l1, v1, p1, n1, s1, t1⟩ := c; dsimp only at hf N₁; dsimp only [kstB] at F₁; obtain ⟨hi1, hr1⟩ := hf; rotate_right; intro i n t I c u h tk oI hn hf hne F₁ N₁; obtain ⟨l1, v1, p1, n1, s1, t1⟩ := c; dsimp only at hf N₁ hne; dsimp only [kstB] at F₁; obtain ⟨hi1, hr1⟩ := hf);
    (all_goals try k_fold))
  k_with "LEnd" => (
    (refine JS.fin (_, _, _, _, _, _) (by assumption) (by assumption) (by kst_all) (by kst_in) (by k_memK) ?_ ⟨by assumption, ?_⟩ (by kst_same));
    (first | exact hne | exact ne_new (by assumption) (ne_tail hne));
    (first | exact lk_w1 hn hr1 (by assumption) (by assumption) | exact lk_w2 hn hr1 (by assumption) (by assumption) | exact lk_w3 hn hr1 (by assumption) (by assumption) (by assumption) | exact lk_w4 hn hr1 (by assumption) (by assumption) (by assumption) | exact lk_w5 hn hr1 (by assumption) (by assumption)))
  refine wpAny_call ?_
  k_dflt cell_enter
  k_with "compareOp In int ref" => (k_here; (with_reducible show wpAny _ _ (compareOp CmpOp.In (Value.int _ _) (Value.ref _)) _ _ _); k_dflt (refine' in_list_ints ?k1y0 ?k2y0 ?_; (case k1y0 => exact News.isList (by k_asm) (by k_mem)); (case k2y0 => assumption)))
  k_with "compareOp Eq ref ref" => (k_here; (with_reducible show wpAny _ _ (compareOp CmpOp.Eq (Value.ref _) (Value.ref _)) _ _ _); k_dflt (refine' eq_intsK ?k1y1 ?k2y1 ?k3y1 ?k4y1 ?k5y1 ?_; (case k1y1 => exact News.isList (by k_asm) (by k_mem)); (case k2y1 => assumption); (case k3y1 => exact News.isList (by k_asm) (by k_mem)); (case k4y1 => first | assumption | exact .nil); (case k5y1 => ktr_units)))
  k_with "subscriptTail Name UnaryOp ref int" => (k_here; k_dflt (refine' item_last ?k1y2 ?k2y2 ?k3y2 ?k4y2 ?_; (case k1y2 => exact News.isList (by k_asm) (by k_mem)); (case k2y2 => assumption); (case k3y2 => assumption); (case k4y2 => first | exact onF_bnd (by omega) | exact lkRun_bnd' (by omega) (by assumption))); intro n9 t9 hn9 h0n h1n; (try dsimp only); (try k_fold))
  k_with "execs cons" => (k_here; refine execs_cons_T ?h1y3 ?_; (case h1y3 => first | assumption | (dsimp only; omega)); intro tkT hTok)
  k_with "execs nil" => (k_here; refine wpAny_execs_nil ?_)
  k_with "eval Call Attribute" => (k_here; (with_reducible show wpAny _ _ (eval (Expr.Call (Expr.Attribute _ (PySem.Str.ofString "replace") _) _ _ _) _) _ _ _); refine eval_replace ?h1y5 ?h2y5 ?h3y5 ?_; (case h1y5 => first | assumption | (dsimp only; omega)); (case h2y5 => decide +kernel); (case h3y5 => decide +kernel))
  k_with "ReplPost" => (dsimp only [ReplPost]; refine ⟨by omega, ?_⟩; intro tR kR hTok hRl)
  k_with "LPost" => (dsimp only [LPost])
  k_with "call ref" => (k_here; (with_reducible show wpAny _ _ (call (Value.ref 233) _) _ _ _);  k_dflt (refine' Con.use (on_con _ _ _ _ _ _ _ _ _ _ ?h1y8 ?h2y8 ?h3y8 ?h4y8 _ _ _ _ ?h5y8 ?h6y8) ?k1y8 ?k2y8 ?k3y8 ?k4y8 ?k5y8 ?kKy8 ?kdy8 ?kuy8 ?_;   (case k1y8 => k_asm); (case k2y8 => k_asm); (case k3y8 => k_asm); (case k4y8 => k_asm); (case k5y8 => k_asm); (case h1y8 => k_mem); (case h2y8 => k_mem); (case h3y8 => assumption); (case h4y8 => assumption); (case h5y8 => omega); (case h6y8 => assumption);   (case kKy8 => first | exact rfl | assumption); (case kdy8 => ktr_room); (case kuy8 => ktr_units));  intro v9 n9 h9 t9 hp9 F9 N9; obtain ⟨l9, vs9, k9, e9, e9', hlt9, hi9⟩ := hp9; subst e9 e9'; (try dsimp only); (try k_fold))
  k_steps
  all_goals first
    | (exfalso; exact lack_e2 (by assumption) (by assumption))
    | refine hret _ news _ _ ⟨?_, rfl⟩ (by k_asm) (kst_newsOf (by k_asm) (by intro p hp; kst_mem))
  all_goals first
    | exact lack_e1 hr1 (by assumption)
    | exact lack_e3 hr1 (by assumption) (by assumption) (by assumption)
    | exact lack_e4 hr1 (by assumption) (by assumption) (by assumption)
    | exact lack_e5 hr1 (by assumption) (by assumption) (by assumption)
    | exact lack_e6 hr1 (by assumption) (by assumption) (by assumption) (by assumption)
    | exact lack_e7 hr1 (by assumption) (by assumption) (by assumption) (by assumption)
end Mine
end

-- part C6
section
open PySem PySem.W PyProof.Rows PySem.Calls
set_option Elab.async false
set_option maxRecDepth 100000
namespace Mine
local macro_rules | `(tactic| walk_at $s:str) => `(tactic| k_extra $s)
local macro_rules | `(tactic| k_mem) => `(tactic| first | assumption | exact List.mem_append_left _ (by with_reducible assumption) | exact List.mem_append_right _ (by with_reducible assumption))
local macro_rules | `(tactic| k_all) => `(tactic| first | exact ne_below1 (by assumption) | exact ne_below2 (by assumption))
set_option maxHeartbeats 8000000 in
theorem ans_con (w : World) (news : List (Addr × Obj)) (x wanted p0 p1 : Str) (lo : Option Str) (vl : Value) (hlo : OptStr lo vl) (tx tw t0 t1 : Tok) (lp lb : Addr) (np nb : Nat) (bs : List (Str × Tok)) (f1 f2 : Str → Bool) (db : Bool)
    (hx : x.length ≤ 5) (hdot : (Txt.item wanted 0 == Str.ofString ".") = db) (hw : 1 ≤ wanted.length) (hw' : wanted.length ≤ 20) (hp0 : p0.length ≤ 2) (hp1 : p1.length ≤ 2) (hbs : ∀ q ∈ bs, q.1.length ≤ 20) (hbl : bs.length ≤ 10) (E1 : EmOK w wanted f1) (E2 : EmOK w (wanted ++ Str.ofString "...") f2)
    (hG1 : ∀ q ∈ bs, (told (q257 ++ x ++ q.1) != plain (x ++ q.1)) = false)
    (hG2 : ∀ q ∈ bs, (f2 (told (q257 ++ x ++ q.1)) != !decide (List.filter (hit p0 p1 (plain (x ++ q.1))) (spotKs db (((plain (x ++ q.1)).length : Int) + 1)) = [])) = false)
    (hG3 : ∀ q ∈ bs, (lo == some q.1) = false ∨ ((lo == some q.1) = true ∧ (q.1 != Str.ofString "") = false) ∨ ((lo == some q.1) = true ∧ (q.1 != Str.ofString "") = true ∧ (f1 (told (q257 ++ x ++ q.1)) != true) = false ∧ (f1 (told (q257 ++ x ++ q.1) ++ Str.ofString "z") != false) = false ∧ (f1 (told (q257 ++ x ++ Txt.slice q.1 none (some (-1)))) != false) = false ∧ (f2 (told (q257 ++ x ++ Txt.slice q.1 none (some (-1)))) != false) = false)) :
    Con w 245 ((lp, listOf #[.str p0 t0, .str p1 t1] np) :: (lb, listOf (strsOf bs).toArray nb) :: news) [.str x tx, .ref lb, vl, .str wanted tw, .ref lp] 2 1000
      (fun v news' => (∃ t, v = .str (rowF (fun r => f2 (told (q257 ++ x ++ r))) (bs.map Prod.fst)) t) ∧ news' = ((lp, listOf #[.str p0 t0, .str p1 t1] np) :: (lb, listOf (strsOf bs).toArray nb) :: news)) := by
  unfold Con PRG
  k_with_none
  w_top off
  k_fill
  intro p loose mean mg mb dp un gd cn cs a ccd cl outer A₀ base h₀ L m s Q E B F X N T hk hd hu hret
  k_with "pyIter ref" => (
    (rename Fr _ _ _ _ => lF'); (rename News _ _ _ _ => lN');
    (with_unfolding_all refine' loop_strs (σ := (Str × Tok) × Obj) bs (fun c => (_, c.2) :: _) (fun c => [(Str.ofString "row", .str c.1.1 c.1.2)]) (fun i c => c.1.1 = rowF (fun r => f2 (told (q257 ++ x ++ r))) ((bs.take i).map Prod.fst) ∧ ∃ v, c.2.data = .cell v) [Str.ofString "told", Str.ofString "spots", Str.ofString "due", Str.ofString "cut"] ((Str.ofString "", ?w9), _) (by rfl) ?kl lF' lN' ?kf ?kk ?_ ?_);
    (case kl => intro c; refine List.mem_cons_of_mem _ (List.mem_cons_of_mem _ (List.mem_cons_of_mem _ (List.mem_cons.mpr (Or.inl ?_)))); with_unfolding_all rfl);
    (case kk => exact List.forall_mem_cons.mpr ⟨by with_unfolding_all rfl, List.forall_mem_nil _⟩);
    (case kf => exact ⟨rfl, _, by assumption⟩);
    (all_goals clear lF' lN');
    (rotate_left; intro c u h tk hf F₁ N₁; obtain ⟨⟨c1, c2⟩, c3⟩ := c; dsimp only at hf N₁; obtain ⟨hf1, cv, hcv⟩ := hf; dsimp only [kstB] at F₁; rotate_right; intro i rest rt I c u h tk oI hn hf hne F₁ N₁; obtain ⟨⟨c1, c2⟩, c3⟩ := c; dsimp only at hf N₁ hne; obtain ⟨hf1, cv, hcv⟩ := hf; have hI1 := Nat.lt_or_gt_of_ne (hne _ (List.Mem.head _)); dsimp only at hI1; dsimp only [kstB] at F₁; have hrl := hbs _ (List.mem_of_getElem? hn); dsimp only at hrl; have hMk : TestIs (hit p0 p1 (plain (x ++ rest))) := True.intro; have hSp : SpotsAre db (((plain (x ++ rest)).length : Int) + 1) := True.intro; have htl := told_len x rest; have hpl := plain_len x rest; have hB1 := hG1 _ (List.mem_of_getElem? hn); have hB2 := hG2 _ (List.mem_of_getElem? hn); dsimp only at hB1 hB2; have hcl := row_len hf1 hbl; have hB3 := hG3 _ (List.mem_of_getElem? hn); dsimp only at hB3; rcases hB3 with z1 | ⟨z1, z2⟩ | ⟨z1, z2, z3, z4, z5, z6⟩);
    (all_goals try k_fold))
  refine wpAny_call ?_
  k_dflt ((refine' code_defC ?k1 ?k2 ?k3 ?k4 ?k5 ?kA ?kF ?kK ?k6 ?k7 ?k8 ?k9 ?kB ?kD ?_ ?c2 ?c3 ?c4; (case kA => exact rfl); (case kF => exact rfl); (case kK => first | exact rfl | assumption); (case k1 => k_asm); (case k2 => k_asm); (case k3 => k_asm); (case k4 => k_asm); (case k5 => k_asm); (case k6 => k_is); (case k7 => k_is); (case k8 => ktr_room); (case k9 => exact BindsTo.of_eq rfl); (case kB => exact rfl); (case kD => decide +kernel); (case c2 => exact rfl); (case c3 => exact rfl); (case c4 => exact rfl); k_whole; intro g' L' h' tk' cells' FG' F' N' Y' B' X' T' l1; (have lN0 := l1); (try k_lt l1); k_cells Y'; (try simp only [List.cons_append, List.nil_append] at N'); (try dsimp only); (try k_lift B'); (try k_fold)))
  have lNw := below_tail (news := news) (below_tail (by assumption))
  k_with "call ref" => (k_here; (rename Fr _ _ _ _ => oFy0); (rename News _ _ _ _ => oNy0); (first | ((with_reducible show wpAny _ _ (call (Value.ref 70) _) _ _ _);  k_dflt (refine' Con.useT (parse_con _ _ _ _ ?h1y0 ?h2y0 (q_slice3 _ _) (q_slice5 _ _)) ?k1y0 ?k2y0 ?k3y0 ?k4y0 ?k5y0 ?kKy0 ?kdy0 ?kuy0 ?kTy0 ?_;   (case k1y0 => k_asm); (case k2y0 => k_asm); (case k3y0 => k_asm); (case k4y0 => k_asm); (case k5y0 => k_asm); (case h1y0 => (simp only [Str.length_append]; rw [show Str.length q257 = 5 from len_q257]; omega)); (case h2y0 => (simp only [Str.length_append]; rw [show Str.length q257 = 5 from len_q257]; omega));   (case kKy0 => first | exact rfl | assumption); (case kdy0 => ktr_room); (case kuy0 => ktr_units); (case kTy0 => first | assumption | (dsimp only; omega)));  intro v9 n9 h9 t9 hTok hp9 F9 N9; obtain ⟨⟨t8, e8⟩, e9⟩ := hp9; subst e9; subst e8; (try dsimp only); (try k_fold)) | ((with_reducible show wpAny _ _ (call (Value.ref 70) _) _ _ _);  k_dflt (refine' Con.use (parse_con _ _ _ _ ?h1y0 ?h2y0 (q_slice3 _ _) (q_slice5 _ _)) ?k1y0 ?k2y0 ?k3y0 ?k4y0 ?k5y0 ?kKy0 ?kdy0 ?kuy0 ?_;   (case k1y0 => k_asm); (case k2y0 => k_asm); (case k3y0 => k_asm); (case k4y0 => k_asm); (case k5y0 => k_asm); (case h1y0 => (simp only [Str.length_append]; rw [show Str.length q257 = 5 from len_q257]; omega)); (case h2y0 => (simp only [Str.length_append]; rw [show Str.length q257 = 5 from len_q257]; omega));   (case kKy0 => first | exact rfl | assumption); (case kdy0 => ktr_room); (case kuy0 => ktr_units); skip);  intro v9 n9 h9 t9 hp9 F9 N9; obtain ⟨⟨t8, e8⟩, e9⟩ := hp9; subst e9; subst e8; (try dsimp only); (try k_fold)) | ((with_reducible show wpAny _ _ (call (Value.ref 77) _) _ _ _);  (k_dflt (refine' Con.useT (EmOK.use ?hEy0 ?h1y0) ?k1y0 ?k2y0 ?k3y0 ?k4y0 ?k5y0 ?kKy0 ?kdy0 ?kuy0 ?kTy0 ?_;   (case k1y0 => k_asm); (case k2y0 => k_asm); (case k3y0 => k_asm); (case k4y0 => k_asm); (case k5y0 => k_asm); (case hEy0 => assumption); (case h1y0 => first | exact Nat.le_trans (told_len _ _) (by omega) | (rw [Str.length_append]; exact Nat.le_trans (Nat.add_le_add_right (told_len _ _) _) (by (try rw [show Str.length (Str.ofString "z") = 1 from by decide +kernel]); omega)));   (case kKy0 => first | exact rfl | assumption); (case kdy0 => ktr_room); (case kuy0 => ktr_units); (case kTy0 => first | assumption | (dsimp only; omega)));  intro v9 n9 h9 t9 hTok hp9 F9 N9; obtain ⟨e8, e9⟩ := hp9; subst e9; subst e8; (try dsimp only); (try k_fold)))); (try clear oFy0 oNy0))
  k_with "execs cons" => (k_here; refine execs_cons_T ?h1y1 ?_; (case h1y1 => first | assumption | (dsimp only; omega)); intro tkT hTok)
  k_with "binaryOp Add str str" => (k_here; (with_reducible show wpAny _ _ (binaryOp Operator.Add (Value.str _ _) (Value.str _ _)) _ _ _); refine addT ?h1y2 ?h2y2 ?_; (case h1y2 => first | assumption | (dsimp only; omega)); (case h2y2 => first | omega | (have l257 := len_q257; have l3 := len_dots; have lz := len_z; have ly := len_y; have ln := len_n; (try simp only [Str.length_append]); omega)); intro tA kA hTok hA)
  k_with "execs nil" => (k_here; refine wpAny_execs_nil ?_)
  k_with "eval Call Attribute" => (k_here; (with_reducible show wpAny _ _ (eval (Expr.Call (Expr.Attribute _ (PySem.Str.ofString "replace") _) _ _ _) _) _ _ _); (with_unfolding_all refine eval_replace ?h1y4 ?h2y4 ?h3y4 ?_; (case h1y4 => first | assumption | (dsimp only; omega)); (case h2y4 => decide +kernel); (case h3y4 => decide +kernel)))
  k_with "ReplPost" => (dsimp only [ReplPost]; refine ⟨by omega, ?_⟩; intro tR kR hTok hRl)
  k_with "LPost" => (dsimp only [LPost])
  k_with "call builtin:str.split" => (k_here; (with_reducible show wpAny _ _ (call (Value.builtin "str.split") [Value.str _ _, Value.str _ _]) _ _ _); (refine KSpl.split1 (by k_asm) (by k_asm) (by decide +kernel) ?_ (by (simp only [PySem.sizeLine_eq]; omega))); (intro D' l' h' k' e' a' F' N' l1); (try k_lt l1); (have e2 := split_open e'); (obtain ⟨tS, rS, eS, hSl⟩ := e2); (subst eS); (clear e' a'); (simp only [strValues, List.map_cons] at N'))
  k_with "subscriptTail Call Constant ref int" => (k_here; k_dflt (refine' item_first ?k1y8 ?_; (case k1y8 => exact News.isList (by k_asm) (by k_mem))); (try dsimp only); (try k_fold))
  k_with "call type:range" => (k_here; (rename Fr _ _ _ _ => lFy9); (rename News _ _ _ _ => lNy9); refine call_rangeN lFy9 lNy9 ?hTy9 ?_; (case hTy9 => first | assumption | (dsimp only; omega)); clear lFy9 lNy9; intro R' h' tkR t1' u1' v1' hTok F' N' l1; (try k_lt l1); (try dsimp only))
  k_with "KCiEl" => (refine kci_el (keepIf_yes ?kcy10) (by with_unfolding_all rfl) (by with_unfolding_all rfl); (case kcy10 => exact hit_yes (by assumption) (by assumption)))
  k_with "KCiNo" => (refine kci_no (keepIf_no ?kcy11) (by with_unfolding_all rfl); (case kcy11 => first | exact hit_no1 (by assumption) | exact hit_no2 (by assumption)))
  k_with "exec If" => (k_here; (with_reducible show wpAny _ _ (exec (Stmt.If (Expr.Compare (Expr.Subscript (Expr.Name (PySem.Str.ofString "wanted") _) _ _) _ _ _) _ _ _) _) _ _ _); (fail_if_success (rename JoinOn => joy12)); (rename Fr _ _ _ _ => lFy12); (rename News _ _ _ _ => lNy12); (rename SpotsAre _ _ => hJy12); (refine spots_join lFy12 lNy12 hJy12 (fun joy12 => ?_) (fun S' oS' h' tk' hTok ho' F' N' => ?_)); rotate_left; (try clear lFy12 lNy12); (try dsimp only); (try k_fold); rotate_right)
  k_with "JoinP" => (refine JoinP.fin (by first | assumption | (dsimp only; omega)) (by assumption) (by assumption) (by with_unfolding_all rfl) (by k_memK) ?hoy13 (by intro p hp; kst_mem) (by intro z hz; first | rfl | exact if_neg hz); (case hoy13 => first | exact spot_range (by assumption) (by assumption) | exact spot_list (by assumption) (by assumption)))
  k_with "CompSrcT" => (k_here; (rename News _ _ _ _ => lNy14); (rename TestIs _ => hMy14); (rename SpotO _ _ _ => hOy14); k_dflt (refine comp_spots hMy14 (by with_unfolding_all rfl) (by k_asm) lNy14 (by k_mem) hOy14 (by omega) (by omega) (fun g' Sx' hSx' k' t' I' oI' C' oC' D' m' ys' l' h' tk' E' hlo' hhi' hI' hC' hx' F' N' off' ne' mk' => ?_) (fun g' ysD hysD => ?_)); rotate_left; (try clear lNy14); rotate_right)
  k_with "CompEnd" => (refine comp_end (by assumption) (by assumption) (by assumption) ?_ (by assumption) ?_; (intro p hp; kst_mem))
  k_with "compareOp Eq" => (k_here; (rename OptStr _ _ => hOy16); refine eq_opt hOy16 ?_)
  k_with "compareOp Eq str" => (k_here; (rename OptStr _ _ => hOy17); refine eq_opt hOy17 ?_)
  k_steps
  all_goals (try (refine JS.fin ((_, _), _) (by assumption) (by rename News _ _ _ _ => lNz; exact lNz) (by kst_all) (by (try dsimp only); refine List.forall_mem_cons.mpr ⟨?_, ?_⟩; k_memK; (intro p hp; kst_mem)) (by k_memK) (ne_swap hne) ⟨?_, by exact ⟨_, by with_reducible assumption⟩⟩ (by kst_same)))
  all_goals (try first | exact row_y hn hf1 hB2 (by assumption) | exact row_n hn hf1 hB2 (by assumption))
  all_goals (try (refine hret _ _ _ _ ⟨⟨_, congrArg (Value.str · _) (row_all hf1)⟩, rfl⟩ (by k_asm) (kst_newsOf (by k_asm) (by intro p hp; kst_mem))))
end Mine
end

-- part K1a
section
open PySem PySem.W PyProof.Rows PySem.Calls
set_option Elab.async false
set_option maxRecDepth 100000
namespace Mine
def behStep (b : List Str) (o : Option Str) : List Str := match o with
  | none => b
  | some r => if b.contains r then b else b ++ [r]
def behindF (lo : List (Option Str)) : List Str := lo.foldl behStep []
theorem beh_snoc {lo : List (Option Str)} {i : Nat} {o : Option Str} (h : lo[i]? = some o) : behindF (lo.take (i + 1)) = behStep (behindF (lo.take i)) o := by
  rw [List.take_add_one, h]
  unfold behindF
  rw [List.foldl_append]
  rfl
theorem optStr_cases {o : Option Str} {v : Value} (h : OptStr o v) : (o = none ∧ v = .none) ∨ ∃ r t, o = some r ∧ v = .str r t := by
  cases o with
  | none => exact .inl ⟨rfl, h⟩
  | some r => obtain ⟨t, rfl⟩ := h; exact .inr ⟨r, t, rfl, rfl⟩
theorem OptsAre.at' {vs : List Value} {lo : List (Option Str)} (h : OptsAre vs lo) (hl : lo.length = 6) {i : Nat} (hi : i < 6) : ∃ v, vs[i]? = some v ∧ OptStr (lo.getD i none) v := by
  obtain ⟨v, e, ho⟩ := h.at (i := i) (by omega)
  refine ⟨v, e, ?_⟩
  have e2 : lo.getD i none = lo[i] := by
    rw [List.getD_eq_getElem?_getD, List.getElem?_eq_getElem (by omega)]; rfl
  rw [e2]; exact ho
theorem xk_len (x : Str) (k : Nat) (hx : x.length = 5) (h : k < 6) : (Txt.slice x none (some (k : Int))).length ≤ 5 := by
  have h1 := StrLaws.sliceText_to (x := x) (j := (k : Int)) ⟨by omega, by unfold Str.length at hx; rw [Array.length_toList]; omega⟩
  rw [show Txt.slice x none (some (k : Int)) = StrLaws.sliceText x none (some (k : Int)) from rfl, h1]
  simp [Str.length]; omega
theorem hap_S {lH I lf : Addr} {oH oI of : Obj} {r R : List (Addr × Obj)} (hne : ∀ p ∈ (lH, oH) :: r, p.1 ≠ I) (h6 : @LT.lt Nat _ lH lf) (h3 : ∀ p ∈ R, p.1 ≠ lH) : ∀ p ∈ (I, oI) :: (lf, of) :: R, p.1 ≠ lH := by
  intro p hp
  rcases List.mem_cons.mp hp with rfl | hp
  · exact fun e => hne _ (List.Mem.head _) e.symm
  rcases List.mem_cons.mp hp with rfl | hp
  · exact Nat.ne_of_gt h6
  · exact h3 p hp
theorem news_drop2 {h₀ h : Heap} {L : Addr} {a b : Addr × Obj} {r : List (Addr × Obj)} (N : News h₀ L h (a :: b :: r)) : News h₀ L h r := fun p hp => N p (List.mem_cons_of_mem _ (List.mem_cons_of_mem _ hp))
theorem news_add2 {h₀ h : Heap} {L : Addr} {a b : Addr × Obj} {r : List (Addr × Obj)} (N : News h₀ L h r) (ha : a ∈ r) (hb : b ∈ r) : News h₀ L h (a :: b :: r) := fun p hp => by
  rcases List.mem_cons.mp hp with rfl | hp
  · exact N _ ha
  rcases List.mem_cons.mp hp with rfl | hp
  · exact N _ hb
  · exact N _ hp
theorem PairsIn.mono {news news' : List (Addr × Obj)} {rs : List Addr} {hs : List (Str × Str)} (h : PairsIn news rs hs) (hn : ∀ p ∈ news, p ∈ news') : PairsIn news' rs hs := DatAll.mono hn h
def idxK (lo : List (Option Str)) (k : Nat) : Nat := lo.idxOf (lo.getD k none)
theorem getD_mem' {lo : List (Option Str)} (hl : lo.length = 6) {i : Nat} (hi : i < 6) : lo.getD i none ∈ lo := by
  rw [List.getD_eq_getElem?_getD, List.getElem?_eq_getElem (by omega)]
  exact List.getElem_mem _
theorem index_j {prog : Program} {w : World} {A : Around} {E : Value → Shared → Prop} {s : Shared} {l : Addr} {vs : List Value} {lo : List (Option Str)} {i j : Nat} {x : Value} {Q : Value → Shared → Prop} (hl : s.heap.IsList l vs.toArray) (hv : OptsAre vs lo) (hx : OptStr (lo.getD i none) x) (hj : j = idxK lo i) (h6 : lo.length = 6) (hi : i < 6)
    (h : ∀ t k, Q (.int (j : Int) t) { s with toks := k }) : wpAny (model prog w) A (call (.builtin "list.index") [.ref l, x]) Q E s :=
  index_opts hl hv hx (getD_mem' h6 hi) (by omega) (by rw [hj] at h; exact h)
theorem idxK_lt {lo : List (Option Str)} (h6 : lo.length = 6) {i : Nat} (hi : i < 6) : idxK lo i < 6 := by
  have := List.idxOf_lt_length_iff.mpr (getD_mem' h6 hi)
  unfold idxK; omega
theorem beh_start (lo : List (Option Str)) : ([] : List (Str × Tok)).map Prod.fst = behindF (lo.take 0) := by rw [List.take_zero]; rfl
theorem beh_len : ∀ (lo : List (Option Str)) (b : List Str), (lo.foldl behStep b).length ≤ b.length + lo.length
  | [], b => Nat.le_refl _
  | o :: lo, b => by
    rw [List.foldl_cons]
    refine Nat.le_trans (beh_len lo _) ?_
    have : (behStep b o).length ≤ b.length + 1 := by
      unfold behStep
      split
      · omega
      · split
        · omega
        · rw [List.length_append]; exact Nat.le_refl _
    rw [List.length_cons]; omega
section
variable {lo : List (Option Str)} {bs : List (Str × Tok)} {i : Nat} {r : Str} {t : Tok}
theorem beh_w1 (ho : lo[i]? = some none) (hf : bs.map Prod.fst = behindF (lo.take i)) : bs.map Prod.fst = behindF (lo.take (i + 1)) := by rw [beh_snoc ho, hf]; rfl
theorem beh_w2 (ho : lo[i]? = some (some r)) (hf : bs.map Prod.fst = behindF (lo.take i)) (hc : (bs.map Prod.fst).contains r = true) : bs.map Prod.fst = behindF (lo.take (i + 1)) := by
  rw [beh_snoc ho, ← hf]
  exact (if_pos hc).symm
theorem beh_w3 (ho : lo[i]? = some (some r)) (hf : bs.map Prod.fst = behindF (lo.take i)) (hc : (bs.map Prod.fst).contains r = false) : (bs ++ [(r, t)]).map Prod.fst = behindF (lo.take (i + 1)) := by
  rw [beh_snoc ho, ← hf, List.map_append]
  exact (if_neg (by rw [hc]; decide)).symm
theorem push_strs : (strsOf bs).toArray.push (.str r t) = (strsOf (bs ++ [(r, t)])).toArray := by simp [strsOf]
theorem strs_size (h : bs.map Prod.fst = behindF (lo.take i)) (hlo : lo.length = 6) : (strsOf bs).toArray.size ≤ sizeLine := by
  have h1 := beh_len (lo.take i) []
  have h2 := congrArg List.length h
  rw [List.length_map] at h2
  unfold behindF at h2
  have h3 : (lo.take i).length ≤ 6 := by rw [List.length_take]; omega
  rw [List.size_toArray, PySem.sizeLine_eq]
  unfold strsOf
  rw [List.length_map]
  simp only [List.length_nil] at h1
  omega
end
theorem allLt_two {D a b : Addr} {oa ob : Obj} {news : List (Addr × Obj)} (h : @LT.lt Nat _ a D ∧ @LT.lt Nat _ b D ∧ AllLt D news) : ∀ p ∈ (a, oa) :: (b, ob) :: news, @LT.lt Nat _ p.1 D := by
  intro p hp
  rcases List.mem_cons.mp hp with rfl | hp
  · exact h.1
  rcases List.mem_cons.mp hp with rfl | hp
  · exact h.2.1
  · exact allLt_mem h.2.2 p hp
theorem ne_of_lts {D : Addr} {news : List (Addr × Obj)} (h : ∀ p ∈ news, @LT.lt Nat _ p.1 D) : ∀ p ∈ news, p.1 ≠ D := fun p hp => Nat.ne_of_lt (h p hp)
/-- the places of the lacks, the rows, the names -/
abbrev xk (x : Str) (k : Nat) : Str := Txt.slice x none (some (k : Int))
def rowK (x : Str) (lo : List (Option Str)) (f2 : Str → Bool) (k : Nat) : Str := rowF (fun r => f2 (told (q257 ++ xk x k ++ r))) (behindF lo)
def nameK (x : Str) (lo : List (Option Str)) (f2 : Str → Bool) (k : Nat) : Str := if (k : Int).fmod 2 = 0 then rowK x lo f2 k else Txt.upper (rowK x lo f2 k)
def strK (k : Nat) : Str := Str.ofString (toString (k : Int))
def firstsF (x : Str) (lo : List (Option Str)) (f2 : Str → Bool) (n : Nat) : List (Str × Str) := ((List.range n).filter fun k => idxK lo k == k).map fun k => (nameK x lo f2 k, strK k)
theorem firsts_yes {x : Str} {lo : List (Option Str)} {f2 : Str → Bool} {i : Nat} (h : (idxK lo i == i) = true) : firstsF x lo f2 (i + 1) = firstsF x lo f2 i ++ [(nameK x lo f2 i, strK i)] := by
  unfold firstsF
  rw [List.range_succ, List.filter_append, List.map_append]
  simp [h]
theorem firsts_no {x : Str} {lo : List (Option Str)} {f2 : Str → Bool} {i : Nat} (h : (idxK lo i == i) = false) : firstsF x lo f2 (i + 1) = firstsF x lo f2 i := by
  unfold firstsF
  rw [List.range_succ, List.filter_append, List.map_append]
  simp [h]
theorem perm1 {α : Type} {p a b c d e : α} {r : List α} (h : p ∈ c :: d :: e :: b :: r) : p ∈ a :: b :: c :: d :: e :: r := by
  simp only [List.mem_cons] at h ⊢
  rcases h with h | h | h | h | h
  · exact .inr (.inr (.inl h))
  · exact .inr (.inr (.inr (.inl h)))
  · exact .inr (.inr (.inr (.inr (.inl h))))
  · exact .inr (.inl h)
  · exact .inr (.inr (.inr (.inr (.inr h))))
theorem news_perm1 {h₀ h : Heap} {L : Addr} {a b c d e : Addr × Obj} {r : List (Addr × Obj)} (N : News h₀ L h (a :: b :: c :: d :: e :: r)) : News h₀ L h (c :: d :: e :: b :: r) := fun p hp => N p (perm1 hp)
theorem perm3 {α : Type} {p a b c d e : α} {r : List α} (h : p ∈ c :: d :: e :: b :: r) : p ∈ a :: b :: c :: d :: e :: r := perm1 h
theorem news_perm3 {h₀ h : Heap} {L : Addr} {a b c d e : Addr × Obj} {r : List (Addr × Obj)} (N : News h₀ L h (a :: b :: c :: d :: e :: r)) : News h₀ L h (c :: d :: e :: b :: r) := fun p hp => N p (perm3 hp)
theorem firsts_len (x : Str) (lo : List (Option Str)) (f2 : Str → Bool) (n : Nat) : (firstsF x lo f2 n).length ≤ n := by
  unfold firstsF
  rw [List.length_map]
  exact Nat.le_trans (List.length_filter_le _ _) (by rw [List.length_range]; exact Nat.le_refl _)
def KFacts (x : Str) (lo : List (Option Str)) (f2 : Str → Bool) (lH : Addr) (fx : List (Addr × Obj)) (i : Nat) (lf : Addr) (rs fr : List Addr) (R : List (Addr × Obj)) : Prop :=
  PairsIn R rs (firstsF x lo f2 i) ∧ PairsIn R fr (firstsF x lo f2 i) ∧ (∀ p ∈ R, p.1 ≠ lH) ∧ (∀ p ∈ R, p.1 ≠ lf) ∧ (∀ p ∈ fx, p ∈ R) ∧ @LT.lt Nat _ lH lf
theorem kfacts_start {x : Str} {lo : List (Option Str)} {f2 : Str → Bool} {lH xH dH lf : Addr} {fx : List (Addr × Obj)} (h1 : ∀ p ∈ fx, p.1 < dH) (h2 : dH < xH) (h3 : xH < lH) (h4 : @LT.lt Nat _ lH lf) : KFacts x lo f2 lH fx 0 lf [] [] fx :=
  ⟨.nil, .nil, fun p hp => Nat.ne_of_lt (Nat.lt_trans (h1 p hp) (Nat.lt_trans h2 h3)), fun p hp => Nat.ne_of_lt (Nat.lt_trans (h1 p hp) (Nat.lt_trans h2 (Nat.lt_trans h3 h4))), fun p hp => hp, h4⟩
theorem pairs_len {R : List (Addr × Obj)} {rs : List Addr} {hs : List (Str × Str)} (h : PairsIn R rs hs) : rs.length = hs.length := by
  have := h.length
  rwa [List.length_map, List.length_map] at this
/-- the plain law, as the walk wants it -/
structure KHyp (x wanted p0 p1 : Str) (lo : List (Option Str)) (f1 f2 : Str → Bool) (db : Bool) : Prop where
  l : ∀ r ∈ behindF lo, r.length ≤ 20
  g1 : ∀ k, k < 6 → ∀ r ∈ behindF lo, (told (q257 ++ xk x k ++ r) != plain (xk x k ++ r)) = false
  g2 : ∀ k, k < 6 → ∀ r ∈ behindF lo, (f2 (told (q257 ++ xk x k ++ r)) != !decide (List.filter (hit p0 p1 (plain (xk x k ++ r))) (spotKs db (((plain (xk x k ++ r)).length : Int) + 1)) = [])) = false
  g3 : ∀ k, k < 6 → ∀ r ∈ behindF lo, (lo.getD k none == some r) = false ∨ ((lo.getD k none == some r) = true ∧ (r != Str.ofString "") = false) ∨ ((lo.getD k none == some r) = true ∧ (r != Str.ofString "") = true ∧ (f1 (told (q257 ++ xk x k ++ r)) != true) = false ∧ (f1 (told (q257 ++ xk x k ++ r) ++ Str.ofString "z") != false) = false ∧ (f1 (told (q257 ++ xk x k ++ Txt.slice r none (some (-1)))) != false) = false ∧ (f2 (told (q257 ++ xk x k ++ Txt.slice r none (some (-1)))) != false) = false)
  g4 : ∀ k, k < 6 → (∃ r, sdF (firstsF x lo f2 k) (Txt.lower (nameK x lo f2 k)) = some r ∧ r = strK (idxK lo k) ∧ (idxK lo k == k) = false) ∨ (sdF (firstsF x lo f2 k) (Txt.lower (nameK x lo f2 k)) = none ∧ (idxK lo k == k) = true)
  n1 : ∀ k, k < 6 → NameT (nameK x lo f2 k) ∧ NameT (Txt.lower (nameK x lo f2 k)) ∧ (nameK x lo f2 k).length ≤ 20 ∧ (rowK x lo f2 k).length ≤ 6
  n2 : ∀ k, k < 6 → ValT (strK k) ∧ (strK k).length ≤ 20
theorem beh_all {lo : List (Option Str)} {vs : List Value} {bs : List (Str × Tok)} (h : bs.map Prod.fst = behindF (lo.take vs.length)) (hv : OptsAre vs lo) : bs.map Prod.fst = behindF lo := by
  rw [h, List.take_of_length_le (by rw [hv.length]; exact Nat.le_refl _)]
theorem beh_mem {lo : List (Option Str)} {bs : List (Str × Tok)} (h : bs.map Prod.fst = behindF lo) {q : Str × Tok} (hq : q ∈ bs) : q.1 ∈ behindF lo := by
  rw [← h]; exact List.mem_map.mpr ⟨q, hq, rfl⟩
theorem beh_bl {lo : List (Option Str)} {bs : List (Str × Tok)} (h : bs.map Prod.fst = behindF lo) (hlo : lo.length = 6) : bs.length ≤ 10 := by
  have h1 := beh_len lo []
  have h2 := congrArg List.length h
  rw [List.length_map] at h2
  unfold behindF at h2
  simp only [List.length_nil] at h1
  omega
theorem firsts_bnd {x wanted p0 p1 : Str} {lo : List (Option Str)} {f1 f2 : Str → Bool} {db : Bool} (hK : KHyp x wanted p0 p1 lo f1 f2 db) {i : Nat} (hi : i ≤ 6) : ∀ q ∈ firstsF x lo f2 i, q.1.length ≤ 20 ∧ q.2.length ≤ 20 := by
  intro q hq
  unfold firstsF at hq
  obtain ⟨k, hk, rfl⟩ := List.mem_map.mp hq
  have hk' := List.mem_range.mp (List.mem_filter.mp hk).1
  exact ⟨(hK.n1 k (by omega)).2.2.1, (hK.n2 k (by omega)).2⟩
theorem sd_found {x wanted p0 p1 : Str} {lo : List (Option Str)} {f1 f2 : Str → Bool} {db : Bool} (hK : KHyp x wanted p0 p1 lo f1 f2 db) {i : Nat} (hi : i < 6) {r : Str} (h : sdF (firstsF x lo f2 i) (Txt.lower (nameK x lo f2 i)) = some r) : r = strK (idxK lo i) ∧ (idxK lo i == i) = false := by
  rcases hK.g4 i hi with ⟨r', h1, h2, h3⟩ | ⟨h1, _⟩
  · rw [h] at h1; cases h1; exact ⟨h2, h3⟩
  · rw [h] at h1; cases h1
theorem sd_new {x wanted p0 p1 : Str} {lo : List (Option Str)} {f1 f2 : Str → Bool} {db : Bool} (hK : KHyp x wanted p0 p1 lo f1 f2 db) {i : Nat} (hi : i < 6) (h : sdF (firstsF x lo f2 i) (Txt.lower (nameK x lo f2 i)) = none) : (idxK lo i == i) = true := by
  rcases hK.g4 i hi with ⟨r', h1, _⟩ | ⟨_, h1⟩
  · rw [h] at h1; cases h1
  · exact h1
theorem sd_found' {x wanted p0 p1 : Str} {lo : List (Option Str)} {f1 f2 : Str → Bool} {db : Bool} (hK : KHyp x wanted p0 p1 lo f1 f2 db) {i j : Nat} (hi : i < 6) (hj : j = idxK lo i) {r : Str} (h : sdF (firstsF x lo f2 i) (Txt.lower (nameK x lo f2 i)) = some r) : r = Str.ofString (toString (j : Int)) ∧ j ≠ i ∧ (idxK lo i == i) = false := by
  obtain ⟨h1, h2⟩ := sd_found hK hi h
  exact ⟨by rw [hj]; exact h1, by rw [hj]; simpa using h2, h2⟩
theorem sd_new' {x wanted p0 p1 : Str} {lo : List (Option Str)} {f1 f2 : Str → Bool} {db : Bool} (hK : KHyp x wanted p0 p1 lo f1 f2 db) {i j : Nat} (hi : i < 6) (hj : j = idxK lo i) (h : sdF (firstsF x lo f2 i) (Txt.lower (nameK x lo f2 i)) = none) : i = j ∧ (idxK lo i == i) = true := by
  have h2 := sd_new hK hi h
  exact ⟨by rw [hj]; exact (eq_of_beq h2).symm, h2⟩
theorem cmp_self (x : Str) : (x != x) = false := by simp
theorem len_six {prog : Program} {w : World} {A : Around} {E : Value → Shared → Prop} {s : Shared} {l : Addr} {vs : List Value} {lo : List (Option Str)} {Q : Value → Shared → Prop} (hl : s.heap.IsList l vs.toArray) (hv : OptsAre vs lo) (h6 : lo.length = 6) (h : ∀ t k, Q (.int 6 t) { s with toks := k }) :
    wpAny (model prog w) A (call (.builtin "len") [.ref l]) Q E s := by
  have e : vs.toArray.size = 6 := by rw [List.size_toArray, hv.length, h6]
  refine len_list hl (by rw [e]; decide) ?_
  rw [e]
  exact h _ _
theorem item_name {prog : Program} {w : World} {A : Around} {E : Value → Shared → Prop} {s : Shared} {value slice : PySem.Expr} {l : Addr} {x : Str} {lo : List (Option Str)} {f2 : Str → Bool} {i : Nat} {ta tb : Tok} {u : Tok} {Q : Value → Shared → Prop} (hl : s.heap.IsList l [Value.str (rowK x lo f2 i) ta, Value.str (Txt.upper (rowK x lo f2 i)) tb].toArray) (h : ∀ t, Q (.str (nameK x lo f2 i) t) s)
    (hs' : subscripted slice false (.ref l) (.int ((i : Int).fmod 2) u) = operate [.ref l, .int ((i : Int).fmod 2) u] (getItem (.ref l) (.int ((i : Int).fmod 2) u)) := by with_unfolding_all rfl) :
    wpAny (model prog w) A (subscriptTail value slice (.ref l) (.int ((i : Int).fmod 2) u)) Q E s := item_two hl h hs'
open Classical in
theorem eq_pairs {prog : Program} {w : World} {A : Around} {E : Value → Shared → Prop} {s : Shared} {h₀ : Heap} {L a b : Addr} {na nb : Nat} {news R : List (Addr × Obj)} {rs fr : List Addr} {hs : List (Str × Str)} {Q : Value → Shared → Prop} (N : News h₀ L s.heap news) (ma : (a, listOf (rs.map Value.ref).toArray na) ∈ news) (mb : (b, listOf (fr.map Value.ref).toArray nb) ∈ news)
    (Pa : PairsIn R rs hs) (Pb : PairsIn R fr hs) (hR : ∀ p ∈ R, p ∈ news) (ok : ∀ q ∈ hs, PyData.strOk q.1 = true ∧ PyData.strOk q.2 = true) (hu : A.units + 64 < cLine) (h : Q (.bool true) s) : wpAny (model prog w) A (compareOp .Eq (.ref a) (.ref b)) Q E s := by
  have ok2 : ∀ d ∈ hs.map pairD, kqdOk 8 d = true := by
    intro d hd
    obtain ⟨q, hq, rfl⟩ := List.mem_map.mp hd
    obtain ⟨h1, h2⟩ := ok q hq
    simp [pairD, kqdOk, h1, h2]
  refine kqd_eq N ma rfl rfl Pa hR mb rfl rfl Pb hR ok2 ok2 hu ?_
  rw [decide_eq_true rfl]
  exact h
theorem strOk_name {x : Str} (h : NameT x) : PyData.strOk x = true := by
  unfold PyData.strOk
  rw [Array.all_eq_true']
  intro c hc
  have := h c (by simpa using hc)
  simp; omega
theorem strOk_val {x : Str} (h : ValT x) : PyData.strOk x = true := by
  unfold PyData.strOk
  rw [Array.all_eq_true']
  intro c hc
  have := h c (by simpa using hc)
  simp; omega
theorem firsts_ok {x wanted p0 p1 : Str} {lo : List (Option Str)} {f1 f2 : Str → Bool} {db : Bool} (hK : KHyp x wanted p0 p1 lo f1 f2 db) {i : Nat} (hi : i ≤ 6) : ∀ q ∈ firstsF x lo f2 i, PyData.strOk q.1 = true ∧ PyData.strOk q.2 = true := by
  intro q hq
  unfold firstsF at hq
  obtain ⟨k, hk, rfl⟩ := List.mem_map.mp hq
  have hk' := List.mem_range.mp (List.mem_filter.mp hk).1
  exact ⟨strOk_name (hK.n1 k (by omega)).1, strOk_val (hK.n2 k (by omega)).1⟩
theorem sub_five {α : Type} {a b c d e : α} {r : List α} : ∀ p ∈ r, p ∈ a :: b :: c :: d :: e :: r := fun _ hp => List.mem_cons_of_mem _ (List.mem_cons_of_mem _ (List.mem_cons_of_mem _ (List.mem_cons_of_mem _ (List.mem_cons_of_mem _ hp))))
theorem kfacts_no {x : Str} {lo : List (Option Str)} {f2 : Str → Bool} {lH lf : Addr} {fx R : List (Addr × Obj)} {rs fr : List Addr} {i : Nat} (h : (idxK lo i == i) = false) (k1 : PairsIn R rs (firstsF x lo f2 i)) (k2 : PairsIn R fr (firstsF x lo f2 i)) (k3 : ∀ p ∈ R, p.1 ≠ lH) (k4 : ∀ p ∈ R, p.1 ≠ lf) (k5 : ∀ p ∈ fx, p ∈ R) (k6 : @LT.lt Nat _ lH lf) :
    KFacts x lo f2 lH fx (i + 1) lf rs fr R := ⟨by rw [firsts_no h]; exact k1, by rw [firsts_no h]; exact k2, k3, k4, k5, k6⟩
theorem PairsIn.snoc {R : List (Addr × Obj)} {rs : List Addr} {hs : List (Str × Str)} {T : Addr} {a b : Str} {ta tb : Tok} {n : Nat} (h : PairsIn R rs hs) (hT : (T, tupObj [.str a ta, .str b tb] n) ∈ R) : PairsIn R (rs ++ [T]) (hs ++ [(a, b)]) := by
  unfold PairsIn
  rw [List.map_append, List.map_append]
  exact DatAll.append h (.one (.tuple hT (.cons (.str _ _) (.cons (.str _ _) .nil))))
theorem kfacts_yes {x : Str} {lo : List (Option Str)} {f2 : Str → Bool} {lH lf D T : Addr} {fx R : List (Addr × Obj)} {rs fr : List Addr} {i : Nat} {ta tb tc td : Tok} {n m : Nat} (h : (idxK lo i == i) = true) (k1 : PairsIn R rs (firstsF x lo f2 i)) (k2 : PairsIn R fr (firstsF x lo f2 i)) (k3 : ∀ p ∈ R, p.1 ≠ lH) (k4 : ∀ p ∈ R, p.1 ≠ lf) (k5 : ∀ p ∈ fx, p ∈ R) (k6 : @LT.lt Nat _ lH lf)
    (d1 : @LT.lt Nat _ lf D) (d2 : @LT.lt Nat _ lf T) :
    KFacts x lo f2 lH fx (i + 1) lf (rs ++ [T]) (fr ++ [D]) ((D, tupObj [.str (nameK x lo f2 i) ta, .str (strK i) tb] n) :: (T, tupObj [.str (nameK x lo f2 i) tc, .str (strK i) td] m) :: R) := by
  have e : ∀ p ∈ R, p ∈ (D, tupObj [.str (nameK x lo f2 i) ta, .str (strK i) tb] n) :: (T, tupObj [.str (nameK x lo f2 i) tc, .str (strK i) td] m) :: R := fun p hp => List.mem_cons_of_mem _ (List.mem_cons_of_mem _ hp)
  have ne : ∀ {q : Addr}, @LT.lt Nat _ q D → @LT.lt Nat _ q T → (∀ p ∈ R, p.1 ≠ q) → ∀ p ∈ (D, tupObj [.str (nameK x lo f2 i) ta, .str (strK i) tb] n) :: (T, tupObj [.str (nameK x lo f2 i) tc, .str (strK i) td] m) :: R, p.1 ≠ q := by
    intro q h1 h2 h3 p hp
    rcases List.mem_cons.mp hp with rfl | hp
    · exact Nat.ne_of_gt h1
    rcases List.mem_cons.mp hp with rfl | hp
    · exact Nat.ne_of_gt h2
    · exact h3 p hp
  refine ⟨?_, ?_, ne (Nat.lt_trans k6 d1) (Nat.lt_trans k6 d2) k3, ne d1 d2 k4, fun p hp => e p (k5 p hp), k6⟩
  · rw [firsts_yes h]
    exact (k1.mono e).snoc (List.mem_cons_of_mem _ (List.Mem.head _))
  · rw [firsts_yes h]
    exact (k2.mono e).snoc (List.Mem.head _)
theorem upd_six {D TS I lH xH dH lf : Addr} {o1 o2 o3 o4 o5 o6 o o' : Obj} {R : List (Addr × Obj)} (h1 : @LT.lt Nat _ lf D) (h2 : @LT.lt Nat _ lH lf) (h3 : @LT.lt Nat _ xH lH) (h4 : @LT.lt Nat _ dH xH) (h5 : @LT.lt Nat _ lf TS) (h6 : @LT.lt Nat _ lf I ∨ @LT.lt Nat _ I lf) (h7 : ∀ p ∈ R, p.1 ≠ lf) :
    Upd lf o o' ((D, o1) :: (lH, o2) :: (xH, o3) :: (dH, o4) :: (TS, o5) :: (I, o6) :: (lf, o) :: R) ((D, o1) :: (lH, o2) :: (xH, o3) :: (dH, o4) :: (TS, o5) :: (I, o6) :: (lf, o') :: R) :=
  .tail (Nat.ne_of_gt h1) (.tail (Nat.ne_of_lt h2) (.tail (Nat.ne_of_lt (Nat.lt_trans h3 h2)) (.tail (Nat.ne_of_lt (Nat.lt_trans h4 (Nat.lt_trans h3 h2))) (.tail (Nat.ne_of_gt h5) (.tail (show I ≠ lf from h6.elim Nat.ne_of_gt Nat.ne_of_lt) (.head h7))))))
theorem led_ne {I D T lH xH dH lf : Addr} {a a' b c d d' e f : Obj} {R : List (Addr × Obj)} (hne : ∀ p ∈ (lH, a) :: (xH, b) :: (dH, c) :: (lf, d) :: R, p.1 ≠ I) (h1 : @LT.lt Nat _ I D) (h2 : @LT.lt Nat _ I T) : ∀ p ∈ (lH, a') :: (xH, b) :: (dH, c) :: (lf, d') :: (D, e) :: (T, f) :: R, p.1 ≠ I := by
  intro p hp
  simp only [List.mem_cons] at hp
  rcases hp with rfl | rfl | rfl | rfl | rfl | rfl | hp
  · exact hne (lH, a) (by simp)
  · exact hne (xH, b) (by simp)
  · exact hne (dH, c) (by simp)
  · exact hne (lf, d) (by simp)
  · exact Nat.ne_of_gt h1
  · exact Nat.ne_of_gt h2
  · exact hne p (by simp [hp])
end Mine
end

-- part K1
section
open PySem PySem.W PyProof.Rows PySem.Calls
set_option Elab.async false
set_option maxRecDepth 100000
namespace Mine
local macro_rules | `(tactic| walk_at $s:str) => `(tactic| k_extra $s)
local macro_rules | `(tactic| k_mem) => `(tactic| first | assumption | exact List.mem_append_left _ (by with_reducible assumption) | exact List.mem_append_right _ (by with_reducible assumption))
local macro_rules | `(tactic| k_all) => `(tactic| assumption)
set_option maxHeartbeats 8000000 in
theorem kinds_con (w : World) (news : List (Addr × Obj)) (x wanted p0 p1 : Str) (lo : List (Option Str)) (vlo : List Value) (tx tw t0 t1 : Tok) (lk lp : Addr) (nk np : Nat) (f1 f2 : Str → Bool) (db : Bool)
    (hv : OptsAre vlo lo) (hlo : lo.length = 6) (hx : x.length = 5)
    (hdot : (Txt.item wanted 0 == Str.ofString ".") = db) (hw : 1 ≤ wanted.length) (hw' : wanted.length ≤ 20) (hp0 : p0.length ≤ 2) (hp1 : p1.length ≤ 2) (E1 : EmOK w wanted f1) (E2 : EmOK w (wanted ++ Str.ofString "...") f2) (hK : KHyp x wanted p0 p1 lo f1 f2 db) :
    Con w 252 ((lp, listOf #[.str p0 t0, .str p1 t1] np) :: (lk, listOf vlo.toArray nk) :: news) [.str x tx, .ref lk, .str wanted tw, .ref lp] 8 2000
      (fun v news' => v = .bool true ∧ news' = ((lp, listOf #[.str p0 t0, .str p1 t1] np) :: (lk, listOf vlo.toArray nk) :: news)) := by
  unfold Con PRG
  k_with_none
  w_top off
  k_fill
  intro p loose mean mg mb dp un gd cn cs a ccd cl outer A₀ base h₀ L m s Q E B F X N T hk hd hu hret
  k_with "pyIter ref" => (
    (rename Fr _ _ _ _ => lF'); (rename News _ _ _ _ => lN'); (rename _ ∧ _ ∧ AllLt _ _ => l9);
    (with_unfolding_all refine' loop_list (vs := vlo) (σ := Addr × List (Str × Tok) × Nat) (fun c => (c.1, listOf (strsOf c.2.1).toArray c.2.2) :: (lp, listOf #[.str p0 t0, .str p1 t1] np) :: (lk, listOf vlo.toArray nk) :: news) (fun c => [(Str.ofString "behind", .ref c.1)]) (fun i c => c.2.1.map Prod.fst = behindF (lo.take i) ∧ ∀ p ∈ (lp, listOf #[.str p0 t0, .str p1 t1] np) :: (lk, listOf vlo.toArray nk) :: news, @LT.lt Nat _ p.1 c.1) [] (?qa1, [], 0) (by rfl) ?qkl lF' ?qkn ?qkf ?qkk ?_ ?_);
    (case qkl => intro c; exact List.mem_cons_of_mem _ (List.mem_cons_of_mem _ (List.Mem.head _)));
    (case qkk => exact List.forall_mem_cons.mpr ⟨by with_unfolding_all rfl, List.forall_mem_nil _⟩);
    (case qkn => with_unfolding_all exact kst_newsOf lN' (by kst_inAny));
    (case qkf => exact ⟨beh_start lo, allLt_two l9⟩);
    (all_goals clear lF' lN' l9);
    (rotate_left; intro c u h tk hf F₁ N₁; obtain ⟨lb, bs, nb⟩ := c; dsimp only at hf N₁; dsimp only [kstB] at F₁; obtain ⟨hf1, hlb⟩ := hf; rotate_right; intro i v I c u h tk oI hn hf hne F₁ N₁; obtain ⟨lb, bs, nb⟩ := c; dsimp only at hf N₁ hne; obtain ⟨hf1, hlb⟩ := hf; have hap := ne_of_lts hlb; have hzz := strs_size hf1 hlo; dsimp only [kstB] at F₁; obtain ⟨o, ho, hov⟩ := hv.get hn; have hI1 := Nat.lt_or_gt_of_ne (hne _ (List.Mem.head _)); dsimp only at hI1; rcases optStr_cases hov with ⟨rfl, rfl⟩ | ⟨r, tr, rfl, rfl⟩);
    (all_goals try k_fold))
  k_with "LEnd" => (
    (refine JS.fin (_, _, _) (by assumption) (by assumption) (by kst_all) (by first | kst_in | (rw [push_strs]; kst_in)) (by k_memK) (ne_swap hne) ⟨?_, by assumption⟩ (by kst_same));
    (first | exact beh_w1 ho hf1 | exact beh_w2 ho hf1 (by assumption) | exact beh_w3 ho hf1 (by assumption)))
  k_with "call ref" => (
    k_here; (with_reducible show wpAny _ _ (call (Value.ref 210) _) _ _ _);
    k_dflt (refine' Con.use (new_con _ _) ?qk1 ?qk2 ?qk3 ?qk4 ?qk5 ?qkK ?qkd ?qku ?_; (case qk1 => k_asm); (case qk2 => k_asm); (case qk3 => k_asm); (case qk4 => k_asm); (case qk5 => k_asm); (case qkK => first | exact rfl | assumption); (case qkd => ktr_room); (case qku => ktr_units));
    intro vH nH hH tkH hpH FH NH; obtain ⟨tH, xH, dH, lH, nnH, eH, eH', hltH, hdxH, hxlH⟩ := hpH; subst eH; subst eH'; (dsimp only [hdrs, List.cons_append, List.nil_append] at NH); (try dsimp only); (try k_fold))
  k_with "pyIter ref" => (
    (rename Fr _ _ _ _ => lF'); (rename News _ _ _ _ => lN'); (rename IsRange _ _ _ _ _ _ _ _ => lR');
    (with_unfolding_all refine' loop_range (n := 6) (σ := Addr × List Addr × Nat × List Addr × Nat × List (Addr × Obj)) (fun c => hLed w tH xH dH lH c.2.1 c.2.2.1 ((c.1, listOf (c.2.2.2.1.map Value.ref).toArray c.2.2.2.2.1) :: c.2.2.2.2.2)) (fun c => [(Str.ofString "firsts", .ref c.1)]) (fun i c => KFacts x lo f2 lH ((lb, listOf (strsOf bs).toArray nb) :: (lp, listOf #[.str p0 t0, .str p1 t1] np) :: (lk, listOf vlo.toArray nk) :: news) i c.1 c.2.1 c.2.2.2.1 c.2.2.2.2.2) [Str.ofString "row", Str.ofString "name"] (?qb1, [], nnH, [], 0, (lb, listOf (strsOf bs).toArray nb) :: (lp, listOf #[.str p0 t0, .str p1 t1] np) :: (lk, listOf vlo.toArray nk) :: news) (by rfl) lR' (by rfl) (by decide) lF' ?qkn ?qkf ?qkk ?_ ?_);
    (case qkk => exact List.forall_mem_cons.mpr ⟨by with_unfolding_all rfl, List.forall_mem_nil _⟩);
    (case qkn => with_unfolding_all exact news_perm1 lN');
    (case qkf => exact kfacts_start hltH hdxH hxlH (by omega));
    (all_goals clear lF' lN' lR');
    (rotate_left; intro c u h tk hf F₁ N₁; obtain ⟨lf, rs, nr, fr, nf, R⟩ := c; dsimp only at hf N₁; dsimp only [kstB] at F₁; unfold KFacts at hf; obtain ⟨kf1, kf2, kf3, kf4, kf5, kf6⟩ := hf; have klr := pairs_len kf1; have klf := pairs_len kf2; have kln := firsts_len x lo f2 6; rotate_right; intro i ti I c u h tk oI hi6 hf hne F₁ N₁; obtain ⟨lf, rs, nr, fr, nf, R⟩ := c; dsimp only at hf N₁ hne; dsimp only [kstB] at F₁; unfold KFacts at hf; obtain ⟨kf1, kf2, kf3, kf4, kf5, kf6⟩ := hf; have hIl := Nat.lt_or_gt_of_ne (hne _ (List.Mem.head _)); have hIx := Nat.lt_or_gt_of_ne (hne _ (List.mem_cons_of_mem _ (List.Mem.head _))); have hId := Nat.lt_or_gt_of_ne (hne _ (List.mem_cons_of_mem _ (List.mem_cons_of_mem _ (List.Mem.head _)))); have hIf := Nat.lt_or_gt_of_ne (hne _ (List.mem_cons_of_mem _ (List.mem_cons_of_mem _ (List.mem_cons_of_mem _ (List.Mem.head _))))); dsimp only at hIl hIx hId hIf; have klr := pairs_len kf1; have klf := pairs_len kf2; have kln := firsts_len x lo f2 i; obtain ⟨v, hvi, hov⟩ := hv.at' hlo hi6; have hzr := refs_size (rs := rs) (by omega); have hzf := refs_size (rs := fr) (by omega); have hxl := xk_len x i hx hi6; have hbs := beh_all hf1 hv; have hrow : rowF (fun r => f2 (told (q257 ++ xk x i ++ r))) (bs.map Prod.fst) = rowK x lo f2 i := congrArg _ hbs; have hRk := kf5 _ (List.mem_cons_of_mem _ (List.mem_cons_of_mem _ (List.Mem.head _))); have hRp := kf5 _ (List.mem_cons_of_mem _ (List.Mem.head _)); have hRb := kf5 _ (List.Mem.head _); have hA := fun tx => ans_con w ((I, oI) :: hLed w tH xH dH lH rs nr ((lf, listOf (fr.map Value.ref).toArray nf) :: R)) (xk x i) wanted p0 p1 (lo.getD i none) v hov tx tw t0 t1 lp lb np nb bs f1 f2 db hxl hdot hw hw' hp0 hp1 (fun q hq => hK.l _ (beh_mem hbs hq)) (beh_bl hbs hlo) E1 E2 (fun q hq => hK.g1 i hi6 _ (beh_mem hbs hq)) (fun q hq => hK.g2 i hi6 _ (beh_mem hbs hq)) (fun q hq => hK.g3 i hi6 _ (beh_mem hbs hq)); obtain ⟨j, hj⟩ : ∃ j, j = idxK lo i := ⟨_, rfl⟩; have hj6 : j < 6 := hj ▸ idxK_lt hlo hi6; have hn1 := hK.n1 i hi6; have hn2 := hK.n2 i hi6; obtain ⟨hna, hnb, hnc, hnd⟩ := hn1; obtain ⟨hva, hvb⟩ := hn2;
     have hS := fun tn tv => sd_con w ((I, oI) :: (lf, listOf (fr.map Value.ref).toArray nf) :: R) tH tn tv xH dH lH nr rs (firstsF x lo f2 i) (kf1.mono (fun p hp => List.mem_cons_of_mem _ (List.mem_cons_of_mem _ hp))) (by omega) (firsts_bnd hK (by omega)) (nameK x lo f2 i) (strK i) hnc hvb hna hnb hva hxlH (Nat.lt_trans hdxH hxlH) (hap_S hne kf6 kf3));
    (all_goals try k_fold))
  k_with "call ref" => (
    k_here; (try dsimp only [List.cons_append, List.nil_append]); (with_reducible show wpAny _ _ (call (Value.ref 245) _) _ _ _);
    k_dflt (refine' Con.use (hA _) ?qk1 ?qk2 ?qk3 ?qk4 ?qk5 ?qkK ?qkd ?qku ?_; (case qk1 => k_asm); (case qk2 => k_asm); (case qk3 => k_asm); (case qk4 => exact news_add2 (by k_asm) (by k_mem) (by k_mem)); (case qk5 => k_asm); (case qkK => first | exact rfl | assumption); (case qkd => ktr_room); (case qku => ktr_units));
    intro vA nA hhA tkA hpA FA NA; obtain ⟨⟨tA, eA⟩, eA'⟩ := hpA; subst eA'; rw [hrow] at eA; subst eA; (replace NA := news_drop2 NA); (try dsimp only); (try k_fold))
  k_with "call ref" => (
    k_here; (try dsimp only [List.cons_append, List.nil_append]); (with_reducible show wpAny _ _ (call (Value.ref 200) _) _ _ _); (rename News _ _ _ _ => lN');
    k_dflt (refine' Con.use (hS _ _) ?qk1 ?qk2 ?qk3 ?qk4 ?qk5 ?qkK ?qkd ?qku ?_; (case qk1 => k_asm); (case qk2 => k_asm); (case qk3 => k_asm); (case qk4 => exact news_perm3 lN'); (case qk5 => k_asm); (case qkK => first | exact rfl | assumption); (case qkd => ktr_room); (case qku => ktr_units));
    clear lN'; intro vS nS hhS tkS hpS FS NS; rcases hpS with ⟨rS, uS, heS, eS, eS'⟩ | ⟨heS, uS, TS, nnS, taS, tbS, ncS, eS, hltS, eS'⟩;
    (all_goals subst eS; subst eS');
    (rotate_left; obtain ⟨hr1, hr2⟩ := sd_new' hK hi6 hj heS; subst hr1; have hcm := cmp_self (Str.ofString (toString (i : Int))); have hcm3 : (strK i != Str.ofString (toString (i : Int))) = false := cmp_self _; have hT0 : @LT.lt Nat _ lH TS := hltS _ (List.Mem.head _); have hT3 : @LT.lt Nat _ I TS := hltS _ (List.mem_cons_of_mem _ (List.mem_cons_of_mem _ (List.mem_cons_of_mem _ (List.Mem.head _)))); have hT4 : @LT.lt Nat _ lf TS := hltS _ (List.mem_cons_of_mem _ (List.mem_cons_of_mem _ (List.mem_cons_of_mem _ (List.mem_cons_of_mem _ (List.Mem.head _))))); rotate_right; obtain ⟨hr1, hr2, hr3⟩ := sd_found' hK hi6 hj heS; subst hr1; have hcm := cmp_self (Str.ofString (toString (j : Int))));
    (all_goals ((try dsimp only); (try k_fold))))
  k_with "call ref" => (
    k_here; (try dsimp only [List.cons_append, List.nil_append]); (with_reducible show wpAny _ _ (call (Value.ref 174) _) _ _ _);
    k_dflt (refine' Con.use (items_con w ((lf, listOf (fr.map Value.ref).toArray nf) :: R) tH xH dH lH nr rs (by omega)) ?qk1 ?qk2 ?qk3 ?qk4 ?qk5 ?qkK ?qkd ?qku ?_; (case qk1 => k_asm); (case qk2 => k_asm); (case qk3 => k_asm); (case qk4 => k_asm); (case qk5 => k_asm); (case qkK => first | exact rfl | assumption); (case qkd => ktr_room); (case qku => ktr_units));
    intro vI nI hhI tkI hpI FI NI; obtain ⟨DI, nnI, eI, eI'⟩ := hpI; subst eI; subst eI'; (try dsimp only); (try k_fold))
  k_with "call builtin:list.index" => (
    k_here; k_dflt (refine' index_j ?qi1 hv hov hj hlo hi6 ?_; (case qi1 => exact News.isList (by k_asm) (by k_mem))); intro tX kX; (try dsimp only))
  k_with "subscriptTail Name BinOp ref int" => (
    k_here; (rename News _ _ _ _ => lN'); k_dflt (refine item_name (x := x) (lo := lo) (f2 := f2) (News.isList lN' (List.Mem.head _)) ?_); intro tN; (try dsimp only))
  k_with "subscriptTail Name Name ref int" => (
    k_here; (with_reducible show wpAny _ _ (subscriptTail _ _ (Value.ref lk) (Value.int _ _)) _ _ _);
    k_dflt (refine' item_any ?qi1 hvi ?qi2 ?_; (case qi1 => exact News.isList (by k_asm) (by k_mem)); (case qi2 => omega)))
  refine wpAny_call ?_
  k_dflt cell_enter
  k_with "LPost" => (dsimp only [LPost])
  k_with "execs nil" => (k_here; refine wpAny_execs_nil ?_)
  k_with "compareOp NotIn str ref" => (k_here; (with_reducible show wpAny _ _ (compareOp CmpOp.NotIn (Value.str _ _) (Value.ref _)) _ _ _); k_dflt (refine' notIn_strs ?k1y2 ?_; (case k1y2 => exact News.isList (by k_asm) (by k_mem))))
  k_with "call builtin:list.append" => (k_here; (with_reducible show wpAny _ _ (call (Value.builtin _) [Value.ref _, _]) _ _ _); k_dflt (refine' append_K ?k1y3 ?k2y3 ?k3y3 ?_ ?zy3; (case k1y3 => k_asm); (case k2y3 => k_asm); (case k3y3 => first | k_upd | (refine upd_six ?zay3 ?zby3 ?zcy3 ?zdy3 ?zey3 ?zfy3 ?zgy3; (case zay3 => omega); (case zby3 => omega); (case zcy3 => omega); (case zdy3 => omega); (case zey3 => omega); (case zfy3 => omega); (case zgy3 => assumption))); (case zy3 => assumption); k_whole); intro h' F' N'; (try k_sweep))
  k_with "call builtin:len" => (k_here; (with_reducible show wpAny _ _ (call (Value.builtin _) [Value.ref _]) _ _ _); k_dflt (refine' len_six ?k1y4 ?k2y4 ?k3y4 ?_; (case k1y4 => exact News.isList (by k_asm) (by k_mem)); (case k2y4 => assumption); (case k3y4 => assumption)); intro tl' kl'; (try dsimp only))
  k_with "exec For Name Call cons nil" => (k_here; (rename Fr _ _ _ _ => lFy5); (with_unfolding_all refine' For_invVF lFy5 ?qk1y5 ?qk2y5 ?_; (case qk1y5 => exact rfl); (case qk2y5 => exact rfl); k_whole))
  k_with "compareOp Eq ref ref" => (k_here; (with_reducible show wpAny _ _ (compareOp _ (Value.ref _) (Value.ref _)) _ _ _); (rename News _ _ _ _ => lNy6); (refine eq_pairs lNy6 (List.Mem.head _) (List.mem_cons_of_mem _ (List.mem_cons_of_mem _ (List.mem_cons_of_mem _ (List.mem_cons_of_mem _ (List.Mem.head _))))) (by assumption) (by assumption) sub_five (firsts_ok (by assumption) (Nat.le_refl _)) ?quy6 ?_); (case quy6 => ktr_units))
  k_steps
  all_goals first
    | (exfalso; omega)
    | (refine JS.fin (lf, rs, nr, fr, nf, R) (by assumption) (by assumption) (by kst_all) (by first | ((try dsimp only); (iterate 4 (refine List.forall_mem_cons.mpr ⟨by k_memK, ?_⟩)); (intro p hp; kst_mem)) | kst_in) (by k_memK) hne (kfacts_no hr3 kf1 kf2 kf3 kf4 kf5 kf6) (by kst_same))
    | (refine hret _ _ _ _ ⟨rfl, rfl⟩ (by k_asm) (kst_newsOf (by k_asm) (by intro p hp; exact List.mem_cons_of_mem _ (List.mem_cons_of_mem _ (List.mem_cons_of_mem _ (List.mem_cons_of_mem _ (List.mem_cons_of_mem _ (kf5 p (List.mem_cons_of_mem _ hp)))))))))
    | (rw [push_refs] at *; rename News _ _ _ _ => lN'; refine JS.fin (lf, rs ++ [TS], nnS, fr ++ [_], nf + 1, _ :: (TS, _) :: R) (by assumption) lN' (by kst_all) (by first | ((try dsimp only); (iterate 7 (refine List.forall_mem_cons.mpr ⟨by k_memK, ?_⟩)); (intro p hp; kst_mem)) | kst_in) (by k_memK) (led_ne hne (by omega) hT3) (kfacts_yes hr2 kf1 kf2 kf3 kf4 kf5 kf6 (by omega) hT4) (by kst_same))
end Mine
end

-- part C9
section
open PySem PySem.W PyProof.Rows PySem.Calls
set_option Elab.async false
set_option maxRecDepth 100000
namespace Mine
local macro_rules | `(tactic| walk_at $s:str) => `(tactic| k_extra $s)
/-- as Con, and a word of the heap below -/
def ConH (w : World) (f : Addr) (news : List (Addr × Obj)) (vs : List Value) (dd uu : Nat) (H : Heap → Prop) (post : Value → List (Addr × Obj) → Prop) : Prop :=
  ∀ (p : Program) (loose : List Str) (mean : ExcName → Option Value) (mg mb : Str → Option Value) (dp un : Nat) (gd : Option (List Code)) (cn : Str) (cs : Scope) (a : Addr) (ccd : Value) (cl : List (Str × Addr)) (outer : List Env) (A₀ : Around) (base h₀ : Heap) (L : Addr) (m : Str → Option Value) (s : Shared) (Q E : Value → Shared → Prop),
    Below A₀ base outer h₀ → Fr h₀ L s.heap m → (hd.heap_39 w.params).In h₀ → News h₀ L s.heap news → Top p loose mean mg mb h₀ → H base → cs.kind = .function → dp + dd < recursionLimit → un + uu < cLine →
    (∀ v news' h' tk', post v news' → Fr h₀ L h' m → News h₀ L h' news' → Q v { s with heap := h', toks := tk' }) →
    wpAny (model PRG w) (ktrTop dp un gd cn cs L a ccd cl outer) (call (.ref f) vs) Q E s
theorem ConH.use {w : World} {f : Addr} {news : List (Addr × Obj)} {vs : List Value} {dd uu : Nat} {H : Heap → Prop} {post : Value → List (Addr × Obj) → Prop} (C : ConH w f news vs dd uu H post)
    {p : Program} {loose : List Str} {mean : ExcName → Option Value} {mg mb : Str → Option Value} {dp un : Nat} {gd : Option (List Code)} {cn : Str} {cs : Scope} {a : Addr} {ccd : Value} {cl : List (Str × Addr)} {outer : List Env} {A₀ : Around} {base h₀ : Heap} {L : Addr} {m : Str → Option Value} {s : Shared} {Q E : Value → Shared → Prop}
    (B : Below A₀ base outer h₀) (F : Fr h₀ L s.heap m) (X : (hd.heap_39 w.params).In h₀) (N : News h₀ L s.heap news) (T : Top p loose mean mg mb h₀) (hH : H base) (hk : cs.kind = .function) (hd : dp + dd < recursionLimit) (hu : un + uu < cLine)
    (ret : ∀ v news' h' tk', post v news' → Fr h₀ L h' m → News h₀ L h' news' → Q v { s with heap := h', toks := tk' }) :
    wpAny (model PRG w) (ktrTop dp un gd cn cs L a ccd cl outer) (call (.ref f) vs) Q E s :=
  C _ _ _ _ _ _ _ _ _ _ _ _ _ _ _ _ _ _ _ _ _ _ B F X N T hH hk hd hu ret
/-- what _law_numbers gives -/
def numsF (ns : List Int) : List Int := ((ns.take 6).map fun k => k.fmod 1000000) ++ [72, 0, 0, 2, 1, 3].drop (min 6 ns.length)
theorem lits6 {a b c d e f : Tok} : IntsAre [.int 72 a, .int 0 b, .int 0 c, .int 2 d, .int 1 e, .int 3 f] [72, 0, 0, 2, 1, 3] := .cons _ _ (.cons _ _ (.cons _ _ (.cons _ _ (.cons _ _ (.cons _ _ .nil)))))
theorem nums_eq (ns : List Int) : List.map (fun a : Int => a.fmod (10 ^ Int.toNat 6)) (List.filter (fun _ => true) (List.take 6 ns)) ++ List.drop (((List.take 6 ns).length : Int)).toNat ([72, 0, 0, 2, 1, 3] : List Int) = numsF ns := by
  unfold numsF
  rw [show List.filter (fun _ : Int => true) (List.take 6 ns) = List.take 6 ns from List.filter_eq_self.mpr (fun _ _ => rfl), Int.toNat_natCast, List.length_take]; rfl
theorem sum_small {f : Int → Int} {p : Int → Bool} {ns : List Int} {d : Nat} : (List.map f (List.filter p (List.take 6 ns))).length + (List.drop d ([72, 0, 0, 2, 1, 3] : List Int)).length ≤ sizeLine := by
  have h1 := List.length_filter_le p (ns.take 6)
  rw [List.length_take] at h1
  rw [List.length_map, List.length_drop, sizeLine_eq]
  simp only [List.length_cons, List.length_nil]
  omega
set_option maxHeartbeats 8000000 in
theorem numbers_con (w : World) (news : List (Addr × Obj)) (la : Addr) (va : List Value) (ns : List Int) (hi : IntsAre va ns) (hn : ns.length ≤ 63) :
    ConH w 219 news [.ref la] 2 100 (fun h₀ => h₀.IsList la va.toArray) (fun v news' => ∃ l vs nn, v = .ref l ∧ news' = (l, listOf vs.toArray nn) :: news ∧ (∀ p ∈ news, @LT.lt Nat _ p.1 l) ∧ IntsAre vs (numsF ns)) := by
  unfold ConH PRG
  k_with_none
  w_top off
  k_fill
  intro p loose mean mg mb dp un gd cn cs a ccd cl outer A₀ base h₀ L m s Q E B F X N T hl hk hd hu hret
  refine wpAny_call ?_
  k_dflt cell_enter
  k_with "subscriptTail List cons Slice ref ref" => (k_here; (rename News _ _ _ _ => lNy0); (with_reducible show wpAny _ _ (subscriptTail _ (PySem.Expr.Slice _ _ none _) (Value.ref _) (Value.ref _)) _ _ _); k_dflt (refine kba_turn (value' := PySem.Expr.Name (PySem.Str.ofString "_") ⟨0, 0, 0, 0⟩) (fun _ => rfl) ?_; refine' kmk_slice_ints ?Fy0 ?Ny0 ?ly0 ?py0 ?qy0 ?iy0 ?my0 ?cy0 ?_ ?sy0 ?ty0 ?zy0; (case Fy0 => k_asm); (case Ny0 => k_asm); (case ly0 => exact News.isList lNy0 (List.Mem.head _)); (case py0 => exact IsPart.int _ _); (case qy0 => exact IsPart.none); (case iy0 => exact lits6); (case my0 => exact kmk_from lits6 (Int.natCast_nonneg _)); (case cy0 => exact List.length_drop ..); (case sy0 => with_unfolding_all rfl); (case ty0 => kmk_pure); (case zy0 => exact Nat.le_of_ble_eq_true rfl)); clear lNy0; intro D' ws' h' F' N' l1 hI' hC' hL'; (try k_lt l1); (try k_sweep))
  k_with "binaryOp Add ref ref" => (k_here; (rename News _ _ _ _ => lNy1); (with_reducible show wpAny _ _ (binaryOp _ (Value.ref _) (Value.ref _)) _ _ _); k_dflt (refine' kmk_add_ints ?Fy1 ?Ny1 ?ay1 ?by1 ?iy1 ?jy1 ?_ ?zy1; (case Fy1 => k_asm); (case Ny1 => k_asm); (case ay1 => exact News.isList lNy1 (List.mem_cons_of_mem _ (List.mem_cons_of_mem _ (List.Mem.head _)))); (case by1 => exact News.isList lNy1 (List.Mem.head _)); (case iy1 => assumption); (case jy1 => assumption); (case zy1 => exact sum_small)); clear lNy1; intro D' ws' h' F' N' l1 hI'; (try k_lt l1); (try k_sweep))
  k_steps
  rename IntsAre _ (List.map _ _ ++ _) => iR
  rw [nums_eq] at iR
  refine hret _ _ _ _ ⟨_, _, 0, rfl, rfl, ?_, iR⟩ (by k_asm) (kst_newsOf (by k_asm) (fun p hp => (List.mem_cons.mp hp).elim (fun e => by rw [e]; exact List.Mem.head _) (fun hp => List.mem_cons_of_mem _ (List.mem_cons_of_mem _ (List.mem_cons_of_mem _ (List.mem_cons_of_mem _ (List.mem_cons_of_mem _ hp)))))))
  rename _ ∧ _ ∧ _ ∧ _ ∧ AllLt _ _ => q
  exact allLt_mem q.2.2.2.2
/-- the six numbers -/
theorem nums_six {vs : List Value} {ns : List Int} (h : IntsAre vs (numsF ns)) : ∃ a b c d e f ta tb tc td te tf, vs = [.int a ta, .int b tb, .int c tc, .int d td, .int e te, .int f tf] ∧ (0 ≤ a ∧ a < 1000000) ∧ (0 ≤ b ∧ b < 1000000) ∧ (0 ≤ c ∧ c < 1000000) ∧ (0 ≤ d ∧ d < 1000000) ∧ (0 ≤ e ∧ e < 1000000) ∧ (0 ≤ f ∧ f < 1000000) := by
  have hlen : (numsF ns).length = 6 := by
    unfold numsF
    rw [List.length_append, List.length_map, List.length_take, List.length_drop]
    simp only [List.length_cons, List.length_nil]
    omega
  have hb : ∀ k ∈ numsF ns, 0 ≤ k ∧ k < 1000000 := by
    intro k hk
    unfold numsF at hk
    rcases List.mem_append.mp hk with hk | hk
    · obtain ⟨j, _, rfl⟩ := List.mem_map.mp hk
      exact ⟨Int.fmod_nonneg_of_pos _ (by decide), Int.fmod_lt_of_pos _ (by decide)⟩
    · have := List.mem_of_mem_drop hk
      simp only [List.mem_cons, List.not_mem_nil, or_false] at this
      rcases this with rfl | rfl | rfl | rfl | rfl | rfl <;> decide
  generalize numsF ns = l at h hlen hb
  match l, hlen with
  | [a, b, c, d, e, f], _ =>
    cases h with
    | cons _ _ h => cases h with
      | cons _ _ h => cases h with
        | cons _ _ h => cases h with
          | cons _ _ h => cases h with
            | cons _ _ h => cases h with
              | cons _ _ h =>
                cases h
                exact ⟨a, b, c, d, e, f, _, _, _, _, _, _, rfl, hb a (by simp), hb b (by simp), hb c (by simp), hb d (by simp), hb e (by simp), hb f (by simp)⟩
end Mine
end

-- part L6
section
open PySem PySem.W PyProof.Rows PySem.Calls PyProof.V PySem.Spec
set_option Elab.async false
set_option maxRecDepth 100000
namespace Mine
inductive All2 (T : Int → Value → Prop) : List Int → List Value → Prop
  | nil : All2 T [] []
  | cons {k : Int} {v : Value} {ks : List Int} {vs : List Value} : T k v → All2 T ks vs → All2 T (k :: ks) (v :: vs)
theorem All2.snoc {T : Int → Value → Prop} {ks : List Int} {vs : List Value} (h : All2 T ks vs) {k : Int} {v : Value} (hk : T k v) : All2 T (ks ++ [k]) (vs ++ [v]) := by
  induction h with
  | nil => exact .cons hk .nil
  | cons a _ ih => exact .cons a ih
theorem All2.length {T : Int → Value → Prop} {ks : List Int} {vs : List Value} (h : All2 T ks vs) : vs.length = ks.length := by
  induction h with
  | nil => rfl
  | cons _ _ ih => rw [List.length_cons, List.length_cons, ih]
/-- a comprehension's element -/
def CEl (news : List (Addr × Obj)) (T : Value → Prop) (y : Value) (news' : List (Addr × Obj)) : Prop := news' = news ∧ T y
section
variable {prog : Program} {w : World} {A : Around} {h₀ : Heap} {L : Addr} {m : Str → Option Value} {env : Env} {ct elt : PySem.Expr} {x : Str} {scope : Scope} {cl : List (Str × Addr)} {s : Shared} {S : List (Addr × Obj) → Prop} {P : Nat → Value → Prop} {Fin : List Value → List (Addr × Obj) → Prop} {news : List (Addr × Obj)}
theorem cx_rest {n : Nat} {ks : List Int} (T : Int → Value → Prop) (hks : ks.length = n) (hP : ∀ i v, i < n → P i v → ∃ k t, ks[i]? = some k ∧ v = .int k t)
    (turn : ∀ k t I oI C oC D m₂ ys h tk (E' : Value → Shared → Prop), k ∈ ks → LCg.NsObj oC m₂ → m₂ x = some (.int k t) → Fr h₀ L h m → News h₀ L h ((I, oI) :: (C, oC) :: (D, LCg.lst ys) :: news) → LCg.Off3 I C D news → ((@Ne Nat I C) ∧ (@Ne Nat I D) ∧ (@Ne Nat C D)) →
      wpAny (model prog w) A (eval elt (compEnvC scope cl C env)) (LCg.CompEnd h₀ L m { s with heap := h, toks := tk } I oI C oC D (LCg.lst ys) S (fun y news' => CEl news (T k) y news')) E' { s with heap := h, toks := tk })
    (fin : ∀ ys, All2 T ks ys → Fin ys news) : LCg.CompRest prog w A h₀ L m env elt x scope cl s S P Fin n 0 [] news := by
  have key : ∀ (j i : Nat) (ys : List Value), i + j = n → All2 T (ks.take i) ys → LCg.CompRest prog w A h₀ L m env elt x scope cl s S P Fin j i ys news := by
    intro j
    induction j with
    | zero =>
      intro i ys hi hy
      have e : i = ks.length := by omega
      subst e
      rw [List.take_length] at hy
      exact LCg.CompRest.zero (fin ys hy)
    | succ j ih =>
      intro i ys hi hy
      refine LCg.CompRest.succ ?_
      intro v I oI C oC D m₂ h tk E' hv hC hx F N off ne
      obtain ⟨k, t, hk, hv'⟩ := hP i v (by omega) hv
      rw [hv'] at hx
      refine wpAny_mono (turn k t I oI C oC D m₂ ys h tk E' (List.mem_of_getElem? hk) hC hx F N off ne) (fun y s₂ hq => ?_) fun _ _ e => e
      obtain ⟨h', tk', nw, e, F', N', off', hS, hn, hT⟩ := hq
      rw [hn] at N' off' hS
      refine ⟨h', tk', news, e, F', N', off', hS, ?_⟩
      refine ih (i + 1) _ (by omega) ?_
      rw [List.take_add_one, hk]
      exact hy.snoc hT
  exact key n 0 [] (by omega) (by simp only [List.take_zero]; exact .nil)
theorem cx_range {n : Nat} {a : Int} (T : Int → Value → Prop)
    (turn : ∀ k t I oI C oC D m₂ ys h tk (E' : Value → Shared → Prop), k ∈ rangeKs a n → LCg.NsObj oC m₂ → m₂ x = some (.int k t) → Fr h₀ L h m → News h₀ L h ((I, oI) :: (C, oC) :: (D, LCg.lst ys) :: news) → LCg.Off3 I C D news → ((@Ne Nat I C) ∧ (@Ne Nat I D) ∧ (@Ne Nat C D)) →
      wpAny (model prog w) A (eval elt (compEnvC scope cl C env)) (LCg.CompEnd h₀ L m { s with heap := h, toks := tk } I oI C oC D (LCg.lst ys) S (fun y news' => CEl news (T k) y news')) E' { s with heap := h, toks := tk })
    (fin : ∀ ys, All2 T (rangeKs a n) ys → Fin ys news) : LCg.CompRest prog w A h₀ L m env elt x scope cl s S (fun i v => ∃ t, v = .int (a + (i : Int)) t) Fin n 0 [] news :=
  cx_rest (ks := rangeKs a n) T (rangeKs_length a n) (fun i v hi hv => by
    obtain ⟨t, e⟩ := hv
    exact ⟨a + (i : Int), t, by simp [rangeKs, hi], e⟩) turn fin
theorem cx_list {vs : List Value} {ns : List Int} (hi : IntsAre vs ns) (T : Int → Value → Prop)
    (turn : ∀ k t I oI C oC D m₂ ys h tk (E' : Value → Shared → Prop), k ∈ ns → LCg.NsObj oC m₂ → m₂ x = some (.int k t) → Fr h₀ L h m → News h₀ L h ((I, oI) :: (C, oC) :: (D, LCg.lst ys) :: news) → LCg.Off3 I C D news → ((@Ne Nat I C) ∧ (@Ne Nat I D) ∧ (@Ne Nat C D)) →
      wpAny (model prog w) A (eval elt (compEnvC scope cl C env)) (LCg.CompEnd h₀ L m { s with heap := h, toks := tk } I oI C oC D (LCg.lst ys) S (fun y news' => CEl news (T k) y news')) E' { s with heap := h, toks := tk })
    (fin : ∀ ys, All2 T ns ys → Fin ys news) : LCg.CompRest prog w A h₀ L m env elt x scope cl s S (fun i v => vs.toArray[i]? = some v) Fin vs.toArray.size 0 [] news :=
  cx_rest (ks := ns) T (by rw [List.size_toArray]; exact hi.length.symm) (fun i v _ hv => by
    obtain ⟨k, t, e, hk⟩ := IntsAre.at hi i v (by simpa using hv)
    exact ⟨k, t, hk, e⟩) turn fin
/-- a comprehension whose test takes no item -/
theorem ct_none {n : Nat} (Z : Value → Prop) (hP : ∀ i v, i < n → P i v → Z v)
    (turn : ∀ v I oI C oC D m₂ h tk (E' : Value → Shared → Prop), Z v → LCg.NsObj oC m₂ → m₂ x = some v → Fr h₀ L h m → News h₀ L h ((I, oI) :: (C, oC) :: (D, LCg.lst []) :: news) → LCg.Off3 I C D news → ((@Ne Nat I C) ∧ (@Ne Nat I D) ∧ (@Ne Nat C D)) →
      wpAny (model prog w) A (isTrue ct (compEnvC scope cl C env) (eval ct (compEnvC scope cl C env))) (fun b s' => if b = true then False else LCg.CompEnd h₀ L m { s with heap := h, toks := tk } I oI C oC D (LCg.lst []) S (fun _ news' => CEl news (fun _ => True) Value.none news') Value.none s') E' { s with heap := h, toks := tk })
    (fin : Fin [] news) : LCt.CompRestT prog w A h₀ L m env ct elt x scope cl s S P Fin n 0 [] news := by
  have key : ∀ (j i : Nat), i + j = n → LCt.CompRestT prog w A h₀ L m env ct elt x scope cl s S P Fin j i [] news := by
    intro j
    induction j with
    | zero =>
      intro i _
      exact LCt.CompRestT.zero fin
    | succ j ih =>
      intro i hi
      refine LCt.CompRestT.succ ?_
      intro v I oI C oC D m₂ h tk E' hv hC hx F N off ne
      refine wpAny_mono (turn v I oI C oC D m₂ h tk E' (hP i v (by omega) hv) hC hx F N off ne) (fun b s₂ hq => ?_) fun _ _ e => e
      cases b with
      | true =>
        simp only [if_true] at hq
      | false =>
        simp only [Bool.false_eq_true, if_false] at hq ⊢
        obtain ⟨h', tk', nw, e, F', N', off', hS, hn, _⟩ := hq
        rw [hn] at N' off' hS
        exact ⟨h', tk', news, e, F', N', off', hS, ih (i + 1) (by omega)⟩
  exact key n 0 (by omega)
theorem src_ints {ax : Addr} {vs : List Value} {ns : List Int} {nn : Nat} {s₁ : Shared} {Fin : Shared → List Value → List (Addr × Obj) → Prop} (hi : IntsAre vs ns) (T : Int → Value → Prop) (hh : A.handled = none) (F : Fr h₀ L s₁.heap m) (N : News h₀ L s₁.heap news) (hm : (ax, listOf vs.toArray nn) ∈ news) (hsz : ns.length ≤ 1000)
    (turn : ∀ (_ : Heap) (Sx : List (Addr × Obj) → Prop), Sx news → ∀ k t I oI C oC D m₂ ys h tk (E' : Value → Shared → Prop), k ∈ ns → LCg.NsObj oC m₂ → m₂ x = some (.int k t) → Fr h₀ L h m → News h₀ L h ((I, oI) :: (C, oC) :: (D, LCg.lst ys) :: news) → LCg.Off3 I C D news → ((@Ne Nat I C) ∧ (@Ne Nat I D) ∧ (@Ne Nat C D)) →
      wpAny (model prog w) A (eval elt (compEnvC scope cl C env)) (LCg.CompEnd h₀ L m { s₁ with heap := h, toks := tk } I oI C oC D (LCg.lst ys) Sx (fun y news' => CEl news (T k) y news')) E' { s₁ with heap := h, toks := tk })
    (fin : ∀ (g : Heap) ys, All2 T ns ys → Fin { s₁ with heap := g } ys news) : LCg.CompSrc prog w A h₀ L m env elt x scope cl Fin (.ref ax) s₁ := by
  refine LCg.CompSrc.ledger hh F N hm (by rw [List.size_toArray, hi.length, PySem.sizeLine_eq]; omega) fun g => ?_
  exact cx_list hi T (turn g (LCg.SrcAt h₀ ax _) (Or.inr ⟨_, hm, rfl, _, rfl⟩)) (fin g)
theorem src_range {r : Addr} {a b : Int} {t u v : Tok} {n : Nat} {s₁ : Shared} {Fin : Shared → List Value → List (Addr × Obj) → Prop} (T : Int → Value → Prop) (hh : A.handled = none) (F : Fr h₀ L s₁.heap m) (N : News h₀ L s₁.heap news) (hr : IsRange s₁.heap r a b 1 t u v) (hsm : Builtin.Range.small a b 1 = true) (hn : Builtin.Range.rangeSize a b 1 = ((n : Nat) : Int)) (hsz : n ≤ 1000)
    (turn : ∀ (_ : Heap) (Sx : List (Addr × Obj) → Prop), Sx news → ∀ k t I oI C oC D m₂ ys h tk (E' : Value → Shared → Prop), k ∈ rangeKs a n → LCg.NsObj oC m₂ → m₂ x = some (.int k t) → Fr h₀ L h m → News h₀ L h ((I, oI) :: (C, oC) :: (D, LCg.lst ys) :: news) → LCg.Off3 I C D news → ((@Ne Nat I C) ∧ (@Ne Nat I D) ∧ (@Ne Nat C D)) →
      wpAny (model prog w) A (eval elt (compEnvC scope cl C env)) (LCg.CompEnd h₀ L m { s₁ with heap := h, toks := tk } I oI C oC D (LCg.lst ys) Sx (fun y news' => CEl news (T k) y news')) E' { s₁ with heap := h, toks := tk })
    (fin : ∀ (g : Heap) ys, All2 T (rangeKs a n) ys → Fin { s₁ with heap := g } ys news) : LCg.CompSrc prog w A h₀ L m env elt x scope cl Fin (.ref r) s₁ := by
  refine LCg.CompSrc.range hh F N hr hsm hn (by rw [PySem.sizeLine_eq]; omega) fun g => ?_
  exact cx_range T (turn g (fun _ => True) True.intro) (fin g)
theorem srcT_none {ax : Addr} {vs : List Value} {nn : Nat} {s₁ : Shared} {Fin : Shared → List Value → List (Addr × Obj) → Prop} (Z : Value → Prop) (hZ : ∀ v ∈ vs, Z v) (hh : A.handled = none) (F : Fr h₀ L s₁.heap m) (N : News h₀ L s₁.heap news) (hm : (ax, listOf vs.toArray nn) ∈ news) (hsz : vs.length ≤ 1000)
    (turn : ∀ (_ : Heap) (Sx : List (Addr × Obj) → Prop), Sx news → ∀ v I oI C oC D m₂ h tk (E' : Value → Shared → Prop), Z v → LCg.NsObj oC m₂ → m₂ x = some v → Fr h₀ L h m → News h₀ L h ((I, oI) :: (C, oC) :: (D, LCg.lst []) :: news) → LCg.Off3 I C D news → ((@Ne Nat I C) ∧ (@Ne Nat I D) ∧ (@Ne Nat C D)) →
      wpAny (model prog w) A (isTrue ct (compEnvC scope cl C env) (eval ct (compEnvC scope cl C env))) (fun b s' => if b = true then False else LCg.CompEnd h₀ L m { s₁ with heap := h, toks := tk } I oI C oC D (LCg.lst []) Sx (fun _ news' => CEl news (fun _ => True) Value.none news') Value.none s') E' { s₁ with heap := h, toks := tk })
    (fin : ∀ (g : Heap), Fin { s₁ with heap := g } [] news) : LCt.CompSrcT prog w A h₀ L m env ct elt x scope cl Fin (.ref ax) s₁ := by
  refine LCt.CompSrcT.ledger hh F N hm (by rw [List.size_toArray, PySem.sizeLine_eq]; omega) fun g => ?_
  exact ct_none Z (fun i v _ hv => hZ v (List.mem_of_getElem? (by simpa using hv))) (turn g (LCg.SrcAt h₀ ax _) (Or.inr ⟨_, hm, rfl, _, rfl⟩)) (fin g)
end
end Mine
end

-- part X1
section
open PySem PySem.W PyProof.Rows PySem.Calls PySem.Builtin PySem.Builtin.Str PySem.Builtin.BaseException PySem.Builtin.Exceptions
set_option Elab.async false
set_option maxRecDepth 100000
namespace Mine
section
variable {prog : Program} {w : World} {A : Around} {E : Value → Shared → Prop} {s : Shared} {K : Frag} {C e t0 : Addr} {m : Str} {tk : Tok}
/-- an own exception with one text -/
structure OwnExc (K : Frag) (h : Heap) (e t0 C : Addr) (m : Str) (tk : Tok) : Prop where
  isin : K.In h
  at_ : ∃ oe ws, h.get? e = some oe ∧ oe.cls = .ref C ∧ oe.data = .fields ws ∧ ws[0]? = some (.ref t0)
  tup : h.TupAt t0 [.str m tk]
  look : findIn K (.ref C) "__str__" = some (some (.builtin "BaseException.__str__"))
  sub : mroIn K C (.type "BaseException") = some true
theorem bexcStr_own {Q : Fin → Shared → Prop} (X : OwnExc K s.heap e t0 C m tk) (hq : Q (.done (.ret (.str m tk))) s) :
    wpAny (model prog w) A (Builtin.«BaseException.__str__» ⟨[.ref e], []⟩) Q E s := by
  obtain ⟨oe, ws, ho, hc, hd, h0⟩ := X.at_
  obtain ⟨ot, k, hto, _, htd⟩ := X.tup
  have hb : ∀ {Q : Value × List Value → Shared → Prop}, Q (.ref t0, [.str m tk]) s → wpAny (model prog w) A (bexcArgs (.ref e)) Q E s := by
    intro Q hq
    unfold bexcArgs
    refine wpAny_bind (wpAny_field ho hd h0 (wpAny_bind (wpAny_seqItems hto htd ?_)))
    exact wpAny_pure hq
  unfold Builtin.«BaseException.__str__»
  repeat (first | with_reducible refine hb ?_ | wp_step)
  exact hq
theorem call_bexcStr_own {Q : Value → Shared → Prop} (X : OwnExc K s.heap e t0 C m tk) (hq : Q (.str m tk) s) :
    wpAny (model prog w) A (call (.builtin "BaseException.__str__") [.ref e]) Q E s := by
  obtain ⟨oe, ws, ho, hc, hd, h0⟩ := X.at_
  refine wpAny_call (codeAny_call_builtin F.excStr_Exception.str.plain F.entry_bexc_str ?_)
  have hk : builtinKind "BaseException.__str__" = some .slot := by decide +kernel
  have hs : splitId "BaseException.__str__" = some ("BaseException", "__str__") := by decide +kernel
  simp only [checkBuiltinCall, hk, hs]
  refine wpAny_bind ?_
  unfold isInstance
  refine wpAny_bind ?_
  unfold typeOf
  refine wpAny_bind (wpAny_load ho (wpAny_pure ?_))
  rw [hc]
  refine looks_mroIn X.isin X.sub _ _ _ s (fun _ _ e => e) ?_
  simp only [Bool.not_true, Bool.false_eq_true, if_false]
  have fin : wpAny (model prog w) A.in1 (Builtin.«BaseException.__str__» ⟨[.ref e], []⟩) (fun fin s' => match fin with | .done f => (match (Except.ok f : Result) with | .ok (.ret v) => Q v s' | .ok _ => False | .error e => E e s') | .again c' => c'.quiet = true ∧ codeAny (model prog w) A c' (fun r s' => match r with | .ok (.ret v) => Q v s' | .ok _ => False | .error e => E e s') s') E s := bexcStr_own X hq
  cases hsig : Manifest.signature? "BaseException.__str__" with
  | none => exact wpAny_pure fin
  | some sig =>
    have ha := F.args_bexc_str (.ref e)
    simp only [argsOk, hsig] at ha
    have h2 : Bind.checkArgs "BaseException.__str__" sig ⟨[.ref e], []⟩ = pure () := ha
    show wpAny _ _ (Bind.checkArgs "BaseException.__str__" sig ⟨[.ref e], []⟩) _ _ s
    rw [h2]
    exact wpAny_pure fin
theorem strOf_own (hu : A.units < cLine) {Q : Value → Shared → Prop} (X : OwnExc K s.heap e t0 C m tk) (hq : Q (.str m tk) s) : wpAny (model prog w) A (Str.strOf (.ref e)) Q E s := by
  have hcs : ∀ {Q : Option Value → Shared → Prop}, Q (some (.str m tk)) s → wpAny (model prog w) A (callSpecial? (.ref e) "__str__" [] []) Q E s := by
    intro Q hq
    obtain ⟨oe, ws, ho, hc, hd, h0⟩ := X.at_
    simp only [callSpecial?]
    refine wpAny_bind ?_
    unfold specialOf typeOf
    refine wpAny_bind (wpAny_bind (wpAny_load ho (wpAny_pure ?_)))
    rw [hc]
    refine looks_findIn X.isin X.look _ _ _ s (fun _ _ e => e) ?_
    simp only [F.excStr_Exception.str.bind]
    exact wpAny_holding (wpAny_bind (wpAny_pure (wpAny_bind (call_bexcStr_own X (wpAny_pure hq)))))
  unfold Str.strOf
  repeat (first | with_reducible refine wpAny_cRoomFor hu ?_ | with_reducible refine hcs ?_ | wp_step)
  exact hq
theorem str_own (hu : A.units + 2 < cLine) {Q : Value → Shared → Prop} (X : OwnExc K s.heap e t0 C m tk) (h : Q (.str m tk) s) :
    wpAny (model prog w) A (call (.type "str") [.ref e]) Q E s :=
  callType_new F.called_str (by decide) (F.typeCall_str_1 _) (F.newCall_str_1 _) (fun obj => F.args_object_init_2 obj _) F.entry_str_new
    (meets_str_new (S := fun A' R s' => A'.units + 1 < cLine ∧ OwnExc K s'.heap e t0 C m tk ∧ R (.ok (.ret (.str m tk))) s')
      fun _ _ A' _ _ hq => strOf_own (A := A'.in1) hq.1 hq.2.1 hq.2.2)
    ⟨(show A.units + 1 + 1 < cLine from hu), X, typeIs_str _ _ _, h⟩
end
end Mine
end

-- part X2
section
open PySem PySem.W PyProof.Rows PySem.Calls
set_option Elab.async false
set_option maxRecDepth 100000
namespace Mine
local macro_rules | `(tactic| walk_at $s:str) => `(tactic| k_extra $s)
theorem own_of_got {K : Frag} {g h : Heap} {L e t C : Addr} {m : Str → Option Value} {news : List (Addr × Obj)} {x : Str} {tk : Tok} (X : K.In g) (F : Fr g L h m) (N : News g L h news) (G : Got news e t (.ref C) [.str x tk])
    (look : findIn K (.ref C) "__str__" = some (some (.builtin "BaseException.__str__"))) (sub : mroIn K C (.type "BaseException") = some true) : OwnExc K h e t C x tk := by
  obtain ⟨oe, ot, ws, nt, h1, h2, hc, hd, h0, htc, htd⟩ := G
  exact ⟨X.keeps F.keep, ⟨oe, ws, (N _ h1).1, hc, hd, h0⟩, ⟨ot, nt, (N _ h2).1, htc, htd⟩, look, sub⟩
section
variable {prog : Program} {w : World} {A₀ A : Around} {s : Shared} {base h₀ : Heap} {L : Addr} {m : Str → Option Value} {env : Env} {news : List (Addr × Obj)} {K : Frag} {p : Program} {loose : List Str} {mean : ExcName → Option Value} {mg mb : Str → Option Value}
  {R : Result → Shared → Prop} {name qual : Str} {params : Arguments} {body : List Stmt} {scope : Scope} {dV kV doc pm cdv ct oc : Value} {an od : Option Addr} {osl : Array (Option Value)} {f : Addr} {args : Args} {binds : List (Str × Value)}
/-- a def with a try, called from a frame that may hold cells -/
theorem code_defSX (B : Below A₀ base [] h₀) (F : Fr h₀ L s.heap m) (X₀ : K.In h₀) (N : News h₀ L s.heap news) (T : Top p loose mean mg mb h₀) (hA : A.frames = some [env]) (hf : env.frame = some L) (hke : env.scope.kind = .function)
    (ho : K.lookup f = some ⟨oc, od, .func (fnOf name qual params body scope dV kV doc pm an cdv ct), osl⟩) (hcd : codeIn K cdv qual = true) (hroom : A.depth < recursionLimit)
    (hbind : BindsTo s (fnOf name qual params body scope dV kV doc pm an cdv ct) args binds) (hloc : ∀ y ∈ binds, scope.names.lookup y.1 = some .local)
    (h : ∀ g L' h₁, Fr h₀ L g m → Fr g L' h₁ (fun y => binds.reverse.lookup y) → News g L' h₁ news → Below A base [env] g → K.In g → Top p loose mean mg mb g → KtsDicts ([env].filterMap (·.frame)) g →
      wpAny (model prog w) (A.deeper (envOf qual scope L' f cdv)) (execs body (envOf qual scope L' f cdv))
        (fun fl s' => LeaveS0 ([env].filterMap (·.frame)) h₀ L m g R (match fl with | .ret v => v | _ => .none) s')
        (fun e s' => wpAny (model prog w) (A.deeper (envOf qual scope L' f cdv)) (leaving (envOf qual scope L' f cdv) e) (fun _ s'' => R (.error e) s'') (fun e' s'' => R (.error e') s'') s')
        { s with heap := h₁, toks := s.toks + binds.length })
    (hco : scope.isCoroutine = false) (hgen : scope.isGenerator = false) (hk : scope.kind = .function)
    (hcell : ∀ x ∈ scope.names, x.2 ≠ .cell) : codeAny (model prog w) A (.call (.ref f) args) R s := by
  have XS := X₀.keeps F.keep
  obtain ⟨FG, BG, st, _⟩ := groundX (R := R) B F N hA hf hke
  have hfs : [env].filterMap (·.frame) = [L] := by simp [hf]
  obtain ⟨oL, es, ep, hLg, hLd, hLk, hLf⟩ := id FG.ns
  have gnone : h₀.get? L = none := kts_self F
  refine codeAny_call_def (fd := fnOf name qual params body scope dV kV doc pm an cdv ct) (body := body) (binds := binds) hroom (XS _ _ ho) rfl (T.nolimit.keeps F.keep) (codeRec_of XS hcd) rfl hbind hcell hloc (fun h₁ hns hk₁ => ?_) hco hgen hk
  have F1 : Fr (hideAll s.heap (news.map (·.1))) s.heap.objs.size h₁ (fun y => binds.reverse.lookup y) := ⟨hns, fun b o e => hk₁ b o (of_hideAll _ e), Nat.le_of_eq (hideAll_size _ _)⟩
  have N1 : News (hideAll s.heap (news.map (·.1))) s.heap.objs.size h₁ news := fun q hq => ⟨hk₁ _ _ (N q hq).1, Nat.ne_of_lt (Heap.lt_size (N q hq).1), hideAll_none _ (List.mem_map_of_mem hq)⟩
  refine wpAny_mono (h _ _ h₁ FG F1 N1 BG (X₀.keeps st) (T.keeps st) ?_) (fun fl s' hl => ?_) fun _ _ y => y
  · rw [hfs]
    intro b hb
    rw [List.mem_singleton.mp hb]
    exact ⟨oL, es, ep, hLg, hLd⟩
  · obtain ⟨g', L', m', news', T', F', N', k⟩ := hl
    obtain ⟨sl, hs⟩ := T'.up hLg
    refine k ⟨⟨_, es, ep, F'.keep _ _ hs, hLd, hLk, hLf⟩, fun b o e => F'.keep b o (T'.other b o (st b o e) ?_), F.above⟩ fun q hq => ⟨(N' q hq).1, ?_, ?_⟩
    · rw [hfs]
      intro hb
      rw [List.mem_singleton.mp hb, gnone] at e
      cases e
    · intro hq'
      have h2 := (N' q hq).2.2
      rw [hq', hs] at h2
      cases h2
    · cases h3 : h₀.get? q.1 with
      | none => rfl
      | some o =>
        obtain ⟨sl', hs'⟩ := T'.up (st _ _ h3)
        have h2 := (N' q hq).2.2
        rw [hs'] at h2
        cases h2
end
/-- as Con, called from the law's own frame alone -/
def ConT (w : World) (f : Addr) (news : List (Addr × Obj)) (vs : List Value) (dd uu : Nat) (post : Value → List (Addr × Obj) → Prop) : Prop :=
  ∀ (p : Program) (loose : List Str) (mean : ExcName → Option Value) (mg mb : Str → Option Value) (dp un : Nat) (gd : Option (List Code)) (cn : Str) (cs : Scope) (a : Addr) (ccd : Value) (cl : List (Str × Addr)) (A₀ : Around) (base h₀ : Heap) (L : Addr) (m : Str → Option Value) (s : Shared) (Q E : Value → Shared → Prop),
    Below A₀ base [] h₀ → Fr h₀ L s.heap m → (hd.heap_39 w.params).In h₀ → News h₀ L s.heap news → Top p loose mean mg mb h₀ → (hd.heap_39 w.params).In base → Top p loose mean mg mb base → cs.kind = .function → dp + dd < recursionLimit → un + uu < cLine →
    (∀ v news' h' tk', post v news' → Fr h₀ L h' m → News h₀ L h' news' → Q v { s with heap := h', toks := tk' }) →
    wpAny (model PRG w) (ktrTop dp un gd cn cs L a ccd cl []) (call (.ref f) vs) Q E s
set_option maxHeartbeats 8000000 in
theorem refused_con (w : World) (news : List (Addr × Obj)) (r : Str) (tr : Tok) (hr : r.length ≤ 1000) (h3 : (Txt.slice r none (some 3) != Str.ofString "257") = true) :
    ConT w 259 news [.str r tr] 3 1000 (fun v news' => v = .bool true ∧ news' = news) := by
  unfold ConT PRG
  k_with_none
  w_top off
  k_fill
  intro p loose mean mg mb dp un gd cn cs a ccd cl A₀ base h₀ L m s Q E B F X N T XB TB hk hd hu hret
  refine wpAny_call ?_
  k_dflt (refine' code_defSX ?k1 ?k2 ?k3 ?k4 ?k5 ?kA ?kf ?kK ?k6 ?k7 ?k8 ?k9 ?kB ?_ ?c2 ?c3 ?c4 ?c5; (case kA => exact rfl); (case kf => exact rfl); (case kK => first | exact rfl | assumption); (case k1 => k_asm); (case k2 => k_asm); (case k3 => k_asm); (case k4 => k_asm); (case k5 => k_asm); (case k6 => k_is); (case k7 => k_is); (case k8 => ktr_room); (case k9 => exact BindsTo.of_eq rfl); (case kB => exact locs rfl); (case c2 => exact rfl); (case c3 => exact rfl); (case c4 => exact rfl); (case c5 => decide); k_whole; intro g' L' h' FG' F' N' B' X' T' D'; (try dsimp only); (try k_lift B'); (try k_fold))
  k_with "call type:str" => (k_here; (with_reducible show wpAny _ _ (call (Value.type "str") [Value.ref _]) _ _ _); (rename Got _ _ _ _ _ => gXy0); k_dflt (refine str_own ?huy0 (own_of_got (by k_asm) (by k_asm) (by assumption) gXy0 (by k_is) (by k_is)) ?_; (case huy0 => ktr_units)))
  k_with "call ref" => (k_here; (with_reducible show wpAny _ _ (call (Value.ref 70) _) _ _ _); k_dflt (refine wpAny_call ?_; (first | (refine' code_def ?k1 ?k2 ?k3 ?k4 ?k5 ?kA ?kF ?kK ?k6 ?k7 ?k8 ?k9 ?kB ?_ ?c2 ?c3 ?c4 ?c5; (case kA => exact rfl); (case kF => exact rfl); (case kK => first | exact rfl | assumption); (case k1 => k_asm); (case k2 => k_asm); (case k3 => k_asm); (case k4 => k_asm); (case k5 => k_asm); (case k6 => k_is); (case k7 => k_is); (case k8 => ktr_room); (case k9 => first | exact BindsTo.of_eq rfl | exact binds_K (by k_in) rfl (by k_is) rfl rfl rfl); (case c5 => decide); (case kB => exact locs rfl); (case c2 => exact rfl); (case c3 => exact rfl); (case c4 => exact rfl); k_whole; intro g' L' h' FG' F' N' B' X' T'; (try dsimp only); (try k_lift B'); (try k_fold)) | (refine' code_def ?k1 ?k2 ?k3 ?k4 ?k5 ?kA ?kF ?kK ?k6 ?k7 ?k8 ?k9 ?kB ?_ ?c2 ?c3 ?c4 ?c5; (case kA => exact rfl); (case kF => exact rfl); (case kK => first | exact rfl | assumption); (case k1 => k_asm); (case k2 => k_asm); (case k3 => k_asm); (case k4 => k_asm); (case k5 => k_asm); (case k6 => k_is); (case k7 => k_is); (case k8 => ktr_room); (case k9 => (refine' kp_binds ?kx ?ke; (case kx => k_in); (case ke => exact fun _ => rfl))); (case c5 => decide); (case kB => exact locs rfl); (case c2 => exact rfl); (case c3 => exact rfl); (case c4 => exact rfl); k_whole; intro g' L' h' FG' F' N' B' X' T'; (try dsimp only); (try k_lift B'); (try k_fold)))))
  k_steps
  refine hret _ _ _ _ ⟨congrArg Value.bool (beq_self_eq_true r), rfl⟩ (by k_asm) (by k_asm)
theorem ConT.use {w : World} {f : Addr} {news : List (Addr × Obj)} {vs : List Value} {dd uu : Nat} {post : Value → List (Addr × Obj) → Prop} (C : ConT w f news vs dd uu post)
    {p : Program} {loose : List Str} {mean : ExcName → Option Value} {mg mb : Str → Option Value} {dp un : Nat} {gd : Option (List Code)} {cn : Str} {cs : Scope} {a : Addr} {ccd : Value} {cl : List (Str × Addr)} {A₀ : Around} {base h₀ : Heap} {L : Addr} {m : Str → Option Value} {s : Shared} {Q E : Value → Shared → Prop}
    (B : Below A₀ base [] h₀) (F : Fr h₀ L s.heap m) (X : (hd.heap_39 w.params).In h₀) (N : News h₀ L s.heap news) (T : Top p loose mean mg mb h₀) (XB : (hd.heap_39 w.params).In base) (TB : Top p loose mean mg mb base) (hk : cs.kind = .function) (hd : dp + dd < recursionLimit) (hu : un + uu < cLine)
    (ret : ∀ v news' h' tk', post v news' → Fr h₀ L h' m → News h₀ L h' news' → Q v { s with heap := h', toks := tk' }) :
    wpAny (model PRG w) (ktrTop dp un gd cn cs L a ccd cl []) (call (.ref f) vs) Q E s :=
  C _ _ _ _ _ _ _ _ _ _ _ _ _ _ _ _ _ _ _ _ _ B F X N T XB TB hk hd hu ret
end Mine
end

-- part PL1
section
open PySem PySem.W PyProof.Rows PySem.Calls
set_option Elab.async false
set_option maxRecDepth 100000
namespace Mine
open StrLaws (dbl)
/-! names as lists of codes: the pieces p0, p1; fr: dots ahead -/
section
variable (p0 p1 : List Nat) (fr : Bool)
def Lang (t : List Nat) : Prop := ∃ u v, (fr = true ∨ u = []) ∧ t = u ++ (p0 ++ v) ∧ p1 <:+: v
/-- from place k this text leads to the end -/
def gapP (k : Nat) : Prop := k = p0.length ∨ k = (p0 ++ p1).length ∨ (fr = true ∧ k = 0)
def AccP : Nat → List Nat → Prop
  | k, [] => k = (p0 ++ p1).length
  | k, c :: t => (gapP p0 p1 fr k ∧ AccP k t) ∨ ((p0 ++ p1)[k]? = some c ∧ AccP (k + 1) t)
end
section
variable {p0 p1 : List Nat} {fr : Bool}
theorem acc_end : ∀ t, AccP p0 p1 fr (p0 ++ p1).length t
  | [] => rfl
  | _ :: t => .inl ⟨.inr (.inl rfl), acc_end t⟩
theorem drop_cons_of {l : List Nat} {j : Nat} (h : j < l.length) : l.drop j = l[j] :: l.drop (j + 1) := List.drop_eq_getElem_cons h
theorem acc_tail (h0 : p0 ≠ []) (h1 : p1 ≠ []) : ∀ (t : List Nat) (j : Nat), 1 ≤ j → j ≤ p1.length → (AccP p0 p1 fr (p0.length + j) t ↔ p1.drop j <+: t)
  | [], j, hj, hl => by
    show p0.length + j = (p0 ++ p1).length ↔ _
    rw [List.length_append, List.prefix_nil, List.drop_eq_nil_iff]
    omega
  | c :: t, j, hj, hl => by
    rcases Nat.lt_or_eq_of_le hl with hlt | rfl
    · have e : (p0 ++ p1)[p0.length + j]? = some p1[j] := by
        rw [List.getElem?_append_right (by omega), Nat.add_sub_cancel_left, List.getElem?_eq_getElem hlt]
      show (gapP p0 p1 fr _ ∧ _) ∨ _ ↔ _
      have hg : ¬ gapP p0 p1 fr (p0.length + j) := by
        unfold gapP
        rw [List.length_append]
        have := List.length_pos_iff.mpr h0
        omega
      rw [e, drop_cons_of hlt, List.cons_prefix_cons, Nat.add_assoc, acc_tail h0 h1 t (j + 1) (by omega) (by omega)]
      constructor
      · rintro (⟨h, _⟩ | ⟨h, h'⟩)
        · exact absurd h hg
        · exact ⟨Option.some.inj h, h'⟩
      · rintro ⟨h, h'⟩
        exact .inr ⟨congrArg some h, h'⟩
    · have e : p0.length + p1.length = (p0 ++ p1).length := (List.length_append).symm
      rw [e]
      have : p1.drop p1.length = [] := List.drop_eq_nil_of_le (Nat.le_refl _)
      rw [this]
      exact ⟨fun _ => List.nil_prefix, fun _ => acc_end _⟩
theorem acc_mid (h0 : p0 ≠ []) (h1 : p1 ≠ []) : ∀ (t : List Nat), (AccP p0 p1 fr p0.length t ↔ p1 <:+: t)
  | [] => by
    show p0.length = (p0 ++ p1).length ↔ _
    rw [List.length_append, List.infix_nil]
    have := List.length_pos_iff.mpr h1
    constructor
    · intro h; omega
    · intro h; exact absurd h h1
  | c :: t => by
    have hp := List.length_pos_iff.mpr h1
    have e : (p0 ++ p1)[p0.length]? = some p1[0] := by
      rw [List.getElem?_append_right (Nat.le_refl _), Nat.sub_self, List.getElem?_eq_getElem hp]
    show (gapP p0 p1 fr _ ∧ _) ∨ _ ↔ _
    rw [e, List.infix_cons_iff, acc_mid h0 h1 t, acc_tail h0 h1 t 1 (Nat.le_refl _) hp]
    have ep : p1 = p1[0] :: p1.drop 1 := by
      have := drop_cons_of hp
      rwa [List.drop_zero] at this
    constructor
    · rintro (⟨_, h⟩ | ⟨h, h'⟩)
      · exact .inr h
      · refine .inl ?_
        rw [ep, List.cons_prefix_cons]
        exact ⟨Option.some.inj h, h'⟩
    · rintro (h | h)
      · rw [ep, List.cons_prefix_cons] at h
        exact .inr ⟨congrArg some h.1, h.2⟩
      · exact .inl ⟨.inl rfl, h⟩
/-- from a place within the first piece, no gap -/
theorem acc_head (h0 : p0 ≠ []) (h1 : p1 ≠ []) : ∀ (d j : Nat), j + d = p0.length → (fr = true → 1 ≤ j) → ∀ (t : List Nat), (AccP p0 p1 fr j t ↔ p0.drop j <+: t ∧ p1 <:+: t.drop d)
  | 0, j, hj, _, t => by
    have : j = p0.length := by omega
    subst this
    rw [acc_mid h0 h1, List.drop_eq_nil_of_le (Nat.le_refl _), List.drop_zero]
    exact ⟨fun h => ⟨List.nil_prefix, h⟩, fun h => h.2⟩
  | d + 1, j, hj, hf, [] => by
    show j = (p0 ++ p1).length ↔ _
    rw [List.length_append, List.prefix_nil, List.drop_eq_nil_iff]
    constructor
    · intro h; omega
    · rintro ⟨h, _⟩; omega
  | d + 1, j, hj, hf, c :: t => by
    have hlt : j < p0.length := by omega
    have e : (p0 ++ p1)[j]? = some p0[j] := by
      rw [List.getElem?_append_left hlt, List.getElem?_eq_getElem hlt]
    have hg : ¬ gapP p0 p1 fr j := by
      unfold gapP
      rw [List.length_append]
      rintro (h | h | ⟨h, h'⟩)
      · omega
      · omega
      · have := hf h; omega
    show (gapP p0 p1 fr _ ∧ _) ∨ _ ↔ _
    rw [e, acc_head h0 h1 d (j + 1) (by omega) (by intro h; omega) t, drop_cons_of hlt, List.cons_prefix_cons, List.drop_succ_cons]
    constructor
    · rintro (⟨h, _⟩ | ⟨h, h', h''⟩)
      · exact absurd h hg
      · exact ⟨⟨Option.some.inj h, h'⟩, h''⟩
    · rintro ⟨⟨h, h'⟩, h''⟩
      exact .inr ⟨congrArg some h, h', h''⟩
theorem pre_split {l v t : List Nat} : (l <+: t ∧ v <:+: t.drop l.length) ↔ ∃ r, t = l ++ r ∧ v <:+: r := by
  constructor
  · rintro ⟨⟨r, rfl⟩, h⟩
    rw [List.drop_append_of_le_length (Nat.le_refl _), List.drop_eq_nil_of_le (Nat.le_refl _), List.nil_append] at h
    exact ⟨r, rfl, h⟩
  · rintro ⟨r, rfl, h⟩
    refine ⟨⟨r, rfl⟩, ?_⟩
    rw [List.drop_append_of_le_length (Nat.le_refl _), List.drop_eq_nil_of_le (Nat.le_refl _), List.nil_append]
    exact h
theorem acc_lang (h0 : p0 ≠ []) (h1 : p1 ≠ []) (t : List Nat) : AccP p0 p1 fr 0 t ↔ Lang p0 p1 fr t := by
  cases fr with
  | false =>
    rw [acc_head h0 h1 p0.length 0 (by omega) (by intro h; cases h), List.drop_zero, pre_split]
    unfold Lang
    constructor
    · rintro ⟨r, e, h⟩; exact ⟨[], r, .inr rfl, by rw [List.nil_append]; exact e, h⟩
    · rintro ⟨u, v, h | rfl, e, h'⟩
      · cases h
      · exact ⟨v, by rw [List.nil_append] at e; exact e, h'⟩
  | true =>
    have hp := List.length_pos_iff.mpr h0
    induction t with
    | nil =>
      show 0 = (p0 ++ p1).length ↔ _
      rw [List.length_append]
      constructor
      · intro h; omega
      · rintro ⟨u, v, _, e, _⟩
        have := congrArg List.length e
        simp only [List.length_nil, List.length_append] at this
        omega
    | cons c t ih =>
      have e : (p0 ++ p1)[0]? = some p0[0] := by
        rw [List.getElem?_append_left hp, List.getElem?_eq_getElem hp]
      have ep : p0 = p0[0] :: p0.drop 1 := by
        have := drop_cons_of hp
        rwa [List.drop_zero] at this
      show (gapP p0 p1 true _ ∧ _) ∨ _ ↔ _
      have ih' : AccP p0 p1 true 0 t ↔ Lang p0 p1 true t := ih
      have ah : AccP p0 p1 true (0 + 1) t ↔ _ := acc_head h0 h1 (p0.length - 1) 1 (by omega) (fun _ => Nat.le_refl _) t
      rw [e]
      refine Iff.trans (or_congr (and_congr Iff.rfl ih') (and_congr Iff.rfl ah)) ?_
      constructor
      · rintro (⟨_, u, v, _, e, h⟩ | ⟨hc, h, h'⟩)
        · exact ⟨c :: u, v, .inl rfl, by rw [e]; rfl, h⟩
        · have hc' := Option.some.inj hc
          obtain ⟨r, rfl⟩ := h
          refine ⟨[], r, .inl rfl, ?_, ?_⟩
          · rw [← hc', List.nil_append, ← List.cons_append, ← ep]
          · rw [List.drop_append_of_le_length (by rw [List.length_drop]; omega), List.drop_eq_nil_of_le (by rw [List.length_drop]; omega), List.nil_append] at h'
            exact h'
      · rintro ⟨u, v, _, e, h⟩
        cases u with
        | nil =>
          rw [List.nil_append, ep, List.cons_append, List.cons.injEq] at e
          refine .inr ⟨congrArg some e.1.symm, ⟨v, e.2.symm⟩, ?_⟩
          rw [e.2, List.drop_append_of_le_length (by rw [List.length_drop]; omega), List.drop_eq_nil_of_le (by rw [List.length_drop]; omega), List.nil_append]
          exact h
        | cons a u =>
          rw [List.cons_append, List.cons.injEq] at e
          exact .inl ⟨.inr (.inr ⟨rfl, rfl⟩), u, v, .inl rfl, e.2, h⟩
/-- whatever a place within the first piece takes, the place behind it takes -/
theorem acc_le_mid (h0 : p0 ≠ []) (h1 : p1 ≠ []) {k : Nat} (hk : k ≤ p0.length) {t : List Nat} (h : AccP p0 p1 fr k t) : AccP p0 p1 fr p0.length t := by
  rw [acc_mid h0 h1]
  by_cases hf : fr = true ∧ k = 0
  · obtain ⟨_, rfl⟩ := hf
    obtain ⟨u, v, _, rfl, a, b, rfl⟩ := (acc_lang h0 h1 t).mp h
    exact ⟨u ++ (p0 ++ a), b, by simp⟩
  · have h2 := (acc_head h0 h1 (p0.length - k) k (by omega) (by intro h; by_cases e : k = 0; exact absurd ⟨h, e⟩ hf; omega) t).mp h
    exact h2.2.trans (List.drop_suffix _ _).isInfix
/-- what leads to the end holds what lacks -/
theorem acc_sub : ∀ (t : List Nat) (k : Nat), AccP p0 p1 fr k t → List.Sublist ((p0 ++ p1).drop k) t
  | [], k, h => by
    have h : k = (p0 ++ p1).length := h
    rw [List.drop_eq_nil_of_le (by omega)]
    exact List.Sublist.refl _
  | c :: t, k, h => by
    rcases h with ⟨_, h⟩ | ⟨h, h'⟩
    · exact (acc_sub t k h).cons c
    · obtain ⟨hlt, e⟩ := List.getElem?_eq_some_iff.mp h
      rw [drop_cons_of hlt, e]
      exact (acc_sub t (k + 1) h').cons_cons c
/-- the straight way -/
theorem acc_straight : ∀ (d k : Nat), k + d = (p0 ++ p1).length → AccP p0 p1 fr k ((p0 ++ p1).drop k)
  | 0, k, h => by
    have : k = (p0 ++ p1).length := by omega
    rw [this]; exact acc_end _
  | d + 1, k, h => by
    have hlt : k < (p0 ++ p1).length := by omega
    rw [drop_cons_of hlt]
    exact .inr ⟨List.getElem?_eq_getElem hlt, acc_straight d (k + 1) (by omega)⟩
end
end Mine
end

-- part PL2
section
open PySem PySem.W PyProof.Rows PySem.Calls
set_option Elab.async false
set_option maxRecDepth 100000
namespace Mine
open StrLaws (dbl)
inductive St | op | half | shut
def stStep (s : St) (c : Nat) : St := match s with
  | .op => if c = 34 then .half else .op
  | .half => if c = 34 then .op else .shut
  | .shut => .shut
def stOf (x : List Nat) : St := x.foldl stStep .op
def hcont : List Nat → List Nat
  | 34 :: r => 34 :: scan r
  | _ => []
/-- what comes in is told, behind a state -/
def cont (s : St) (r : List Nat) : List Nat := match s with
  | .op => scan r
  | .half => hcont r
  | .shut => []
theorem cont_half_q (r : List Nat) : cont .half (34 :: r) = 34 :: scan r := rfl
theorem cont_half_n {c : Nat} (r : List Nat) (h : c ≠ 34) : cont .half (c :: r) = [] := by
  show hcont (c :: r) = []
  unfold hcont
  split
  · rename_i e; cases e; exact absurd rfl h
  · rfl
theorem cont_nil (s : St) : cont s [] = [] := by cases s <;> rfl
theorem stOf_snoc (x : List Nat) (c : Nat) : stOf (x ++ [c]) = stStep (stOf x) c := by
  unfold stOf; rw [List.foldl_append]; rfl
theorem cont_step (s : St) (c : Nat) (r : List Nat) : cont s (c :: r) = cont s [c] ++ cont (stStep s c) r := by
  cases s with
  | op =>
    by_cases h : c = 34
    · subst h
      show scan (34 :: r) = scan [34] ++ cont .half r
      rw [scan_stop1, List.nil_append]
      cases r with
      | nil => rfl
      | cons d r =>
        by_cases h : d = 34
        · subst h; rfl
        · rw [scan_stop _ h, cont_half_n _ h]
    · show scan (c :: r) = scan [c] ++ cont (if c = 34 then .half else .op) r
      rw [if_neg h, scan_on _ h, scan_on _ h]; rfl
  | half =>
    by_cases h : c = 34
    · subst h; rfl
    · show _ = _ ++ cont (if c = 34 then .op else .shut) r
      rw [if_neg h, cont_half_n _ h, cont_half_n _ h]; rfl
  | shut => rfl
theorem scan_cat_aux (n : Nat) : ∀ (x : List Nat), x.length = n → ∀ r, scan (x ++ r) = scan x ++ cont (stOf x) r := by
  induction n with
  | zero =>
    intro x hx r
    rw [List.length_eq_zero_iff.mp hx]; rfl
  | succ n ih =>
    intro x hx r
    have hne : x ≠ [] := by rintro rfl; cases hx
    have e := (List.dropLast_concat_getLast hne).symm
    have hl : x.dropLast.length = n := by rw [List.length_dropLast, hx]; rfl
    rw [e, List.append_assoc, ih _ hl, stOf_snoc, ih _ hl [x.getLast hne], List.append_assoc, List.singleton_append, cont_step]
theorem scan_cat (x r : List Nat) : scan (x ++ r) = scan x ++ cont (stOf x) r := scan_cat_aux _ x rfl r
theorem scan_snoc (x : List Nat) (c : Nat) : scan (x ++ [c]) = scan x ++ cont (stOf x) [c] := scan_cat x [c]

/-! doubling -/
theorem dbl_q (l : List Nat) : dbl 34 (34 :: l) = 34 :: 34 :: dbl 34 l := rfl
theorem dbl_n {c : Nat} (l : List Nat) (h : c ≠ 34) : dbl 34 (c :: l) = c :: dbl 34 l := if_neg h
theorem scan_dbl : ∀ l, scan (dbl 34 l) = l
  | [] => rfl
  | c :: l => by
    by_cases h : c = 34
    · subst h; rw [dbl_q, scan_two, scan_dbl l]
    · rw [dbl_n _ h, scan_on _ h, scan_dbl l]
theorem scan_dbl_cut : ∀ l, scan (dbl 34 l).dropLast = l.dropLast
  | [] => rfl
  | [c] => by
    by_cases h : c = 34
    · subst h; rfl
    · rw [dbl_n _ h]; rfl
  | c :: d :: l => by
    have ih := scan_dbl_cut (d :: l)
    have hne : dbl 34 (d :: l) ≠ [] := by
      by_cases h : d = 34
      · subst h; rw [dbl_q]; exact List.cons_ne_nil _ _
      · rw [dbl_n _ h]; exact List.cons_ne_nil _ _
    by_cases h : c = 34
    · subst h
      rw [dbl_q, List.dropLast_cons_of_ne_nil (List.cons_ne_nil _ _), List.dropLast_cons_of_ne_nil hne, scan_two, ih]; rfl
    · rw [dbl_n _ h, List.dropLast_cons_of_ne_nil hne, scan_on _ h, ih]; rfl
theorem dbl_ne {l : List Nat} (h : l ≠ []) : dbl 34 l ≠ [] := by
  intro e
  have := scan_dbl l
  rw [e] at this
  exact h this.symm
theorem dbl_sub {a b : List Nat} (h : List.Sublist a b) : (dbl 34 a).length ≤ (dbl 34 b).length ∧ ((dbl 34 a).length = (dbl 34 b).length → a = b) := by
  induction h with
  | slnil => exact ⟨Nat.le_refl _, fun _ => rfl⟩
  | @cons a b c _ ih =>
    by_cases h : c = 34
    · subst h
      rw [dbl_q, List.length_cons, List.length_cons]
      exact ⟨by omega, by omega⟩
    · rw [dbl_n _ h, List.length_cons]
      exact ⟨by omega, by omega⟩
  | @cons_cons a b c _ ih =>
    by_cases h : c = 34
    · subst h
      rw [dbl_q, dbl_q]
      simp only [List.length_cons]
      exact ⟨by omega, fun e => by rw [ih.2 (by omega)]⟩
    · rw [dbl_n _ h, dbl_n _ h]
      simp only [List.length_cons]
      exact ⟨by omega, fun e => by rw [ih.2 (by omega)]⟩
theorem dbl_scan_le : ∀ (n : Nat) (s : List Nat), s.length ≤ n → (dbl 34 (scan s)).length ≤ s.length ∧ ((dbl 34 (scan s)).length = s.length → dbl 34 (scan s) = s)
  | _, [], _ => ⟨Nat.le_refl _, fun _ => rfl⟩
  | 0, c :: s, h => by rw [List.length_cons] at h; omega
  | n + 1, c :: s, h => by
    rw [List.length_cons] at h
    by_cases hc : c = 34
    · subst hc
      cases s with
      | nil => exact ⟨Nat.zero_le _, fun e => by cases e⟩
      | cons d s =>
        by_cases hd : d = 34
        · subst hd
          have ih := dbl_scan_le n s (by rw [List.length_cons] at h; omega)
          rw [scan_two, dbl_q]
          simp only [List.length_cons]
          exact ⟨by omega, fun e => by rw [ih.2 (by omega)]⟩
        · rw [scan_stop _ hd]
          exact ⟨Nat.zero_le _, fun e => by cases e⟩
    · have ih := dbl_scan_le n s (by omega)
      rw [scan_on _ hc, dbl_n _ hc]
      simp only [List.length_cons]
      exact ⟨by omega, fun e => by rw [ih.2 (by omega)]⟩
/-- marks ahead: is their number odd -/
def odd34 : List Nat → Bool
  | 34 :: r => !odd34 r
  | _ => false
theorem odd_n {c : Nat} (r : List Nat) (h : c ≠ 34) : odd34 (c :: r) = false := by
  unfold odd34
  split
  · rename_i e; cases e; exact absurd rfl h
  · rfl
theorem odd_dbl : ∀ l, odd34 (dbl 34 l) = false
  | [] => rfl
  | c :: l => by
    by_cases h : c = 34
    · subst h
      rw [dbl_q]
      show (!(!odd34 (dbl 34 l))) = false
      rw [odd_dbl l]; rfl
    · rw [dbl_n _ h, odd_n _ h]
theorem half_ne_open (a b : List Nat) : dbl 34 a ≠ 34 :: dbl 34 b := by
  intro e
  have h := odd_dbl a
  rw [e] at h
  have : odd34 (34 :: dbl 34 b) = !odd34 (dbl 34 b) := rfl
  rw [this, odd_dbl] at h
  cases h
theorem dbl_inj {a b : List Nat} (h : dbl 34 a = dbl 34 b) : a = b := by
  have := scan_dbl a
  rw [h, scan_dbl] at this
  exact this.symm
/-- the lack's last sign left out -/
theorem cut_half : ∀ l : List Nat, cont .half (34 :: dbl 34 l).dropLast = (34 :: l).dropLast
  | [] => rfl
  | c :: l => by
    have hne : dbl 34 (c :: l) ≠ [] := dbl_ne (List.cons_ne_nil _ _)
    rw [List.dropLast_cons_of_ne_nil hne, cont_half_q, scan_dbl_cut]; rfl
end Mine
end

-- part PL3
section
open PySem PySem.W PyProof.Rows PySem.Calls
set_option Elab.async false
set_option maxRecDepth 100000
namespace Mine
open StrLaws (dbl)
/-- le: the pieces' letters; gs: the gaps -/
structure Set2 (le : Str) (gs : List Int) (p0 p1 : List Nat) (fr : Bool) : Prop where
  h0 : p0 ≠ []
  h1 : p1 ≠ []
  l0 : p0.length ≤ 2
  l1 : p1.length ≤ 2
  hle : le.cps.toList = p0 ++ p1
  hgs : ∀ k : Nat, (k : Int) ∈ gs ↔ gapP p0 p1 fr k
section
variable {le : Str} {gs : List Int} {p0 p1 : List Nat} {fr : Bool}
theorem Set2.len (S : Set2 le gs p0 p1 fr) : le.length = (p0 ++ p1).length := by
  rw [← S.hle]; simp [Str.length]
def InR (le : Str) (ps : List Int) : Prop := ∀ k ∈ ps, 0 ≤ k ∧ k ≤ (le.length : Int)
theorem any_mem {ps : List Int} {k : Int} : (ps.any fun x => x == k) = true ↔ k ∈ ps := by
  rw [List.any_eq_true]
  constructor
  · rintro ⟨x, hx, e⟩; rw [← eq_of_beq e]; exact hx
  · intro h; exact ⟨k, h, beq_self_eq_true k⟩
theorem mk1_beq (a c : Nat) : ((⟨#[a]⟩ : Str) == ⟨#[c]⟩) = true ↔ a = c := by
  constructor
  · intro h; have e := eq_of_beq h; injection e with e1; simpa using e1
  · rintro rfl; exact beq_self_eq_true _
theorem mem_on (S : Set2 le gs p0 p1 fr) {ps : List Int} (hps : InR le ps) {c k : Nat} :
    (k : Int) ∈ onL le gs ps ⟨#[c]⟩ ↔ ((k : Int) ∈ ps ∧ gapP p0 p1 fr k) ∨ ∃ j, k = j + 1 ∧ (j : Int) ∈ ps ∧ (p0 ++ p1)[j]? = some c := by
  have hl := S.len
  have item : ∀ j : Nat, j < le.length → (Txt.item le (j : Int) == (⟨#[c]⟩ : Str)) = true → (p0 ++ p1)[j]? = some c := by
    intro j hj h
    obtain ⟨d, e1, e2⟩ := item_at (x := le) (i := (j : Int)) (by omega) (by omega)
    rw [e2, mk1_beq] at h
    subst h
    rw [← S.hle]
    have := congrArg List.head? e1
    rw [List.head?_drop, Int.toNat_natCast] at this
    exact this
  have item' : ∀ j : Nat, (p0 ++ p1)[j]? = some c → (Txt.item le (j : Int) == (⟨#[c]⟩ : Str)) = true := by
    intro j h
    have hj : j < le.length := by rw [hl]; exact (List.getElem?_eq_some_iff.mp h).1
    obtain ⟨d, e1, e2⟩ := item_at (x := le) (i := (j : Int)) (by omega) (by omega)
    have := congrArg List.head? e1
    rw [List.head?_drop, Int.toNat_natCast, S.hle, h] at this
    rw [e2, mk1_beq]
    exact (Option.some.inj this).symm
  unfold onL onF
  rw [List.mem_filter]
  unfold onB
  rw [Bool.or_eq_true, Bool.and_eq_true, Bool.and_eq_true, any_mem, any_mem, any_mem, S.hgs]
  constructor
  · rintro ⟨hk0, h | ⟨h, h'⟩⟩
    · exact .inl h
    · have := hps _ h
      refine .inr ⟨k - 1, by omega, ?_, item (k - 1) ?_ ?_⟩
      · rw [show ((k - 1 : Nat) : Int) = (k : Int) - 1 by omega]; exact h
      · have := mem_rangeKs hk0
        omega
      · rw [show ((k - 1 : Nat) : Int) = (k : Int) - 1 by omega]; exact h'
  · rintro (⟨h, h'⟩ | ⟨j, rfl, h, h'⟩)
    · have := hps _ h
      refine ⟨List.mem_map.mpr ⟨k, List.mem_range.mpr (by omega), by omega⟩, .inl ⟨h, h'⟩⟩
    · have hj : j < le.length := by rw [hl]; exact (List.getElem?_eq_some_iff.mp h').1
      have e : ((j + 1 : Nat) : Int) - 1 = (j : Int) := by omega
      refine ⟨List.mem_map.mpr ⟨j + 1, List.mem_range.mpr (by omega), by omega⟩, .inr ?_⟩
      rw [e]
      exact ⟨h, item' j h'⟩
theorem on_inR {sg : Str} {ps : List Int} : InR le (onL le gs ps sg) := by
  intro k hk
  have := mem_rangeKs (List.mem_filter.mp hk).1
  omega
theorem on_sorted {sg : Str} {ps : List Int} : (onL le gs ps sg).Pairwise (· < ·) := by
  unfold onL onF rangeKs
  refine List.Pairwise.filter _ ?_
  rw [List.pairwise_map]
  exact List.pairwise_lt_range.imp (by intro a b h; omega)
/-- the places lead there -/
def PAcc (p0 p1 : List Nat) (fr : Bool) (ps : List Int) (t : List Nat) : Prop := ∃ k : Nat, (k : Int) ∈ ps ∧ AccP p0 p1 fr k t
theorem on_acc (S : Set2 le gs p0 p1 fr) {ps : List Int} (hps : InR le ps) {c : Nat} {t : List Nat} : PAcc p0 p1 fr (onL le gs ps ⟨#[c]⟩) t ↔ PAcc p0 p1 fr ps (c :: t) := by
  constructor
  · rintro ⟨k, hk, h⟩
    rcases (mem_on S hps).mp hk with ⟨h1, h2⟩ | ⟨j, rfl, h1, h2⟩
    · exact ⟨k, h1, .inl ⟨h2, h⟩⟩
    · exact ⟨j, h1, .inr ⟨h2, h⟩⟩
  · rintro ⟨k, hk, h⟩
    rcases h with ⟨h1, h2⟩ | ⟨h1, h2⟩
    · exact ⟨k, (mem_on S hps).mpr (.inl ⟨hk, h1⟩), h2⟩
    · exact ⟨k + 1, (mem_on S hps).mpr (.inr ⟨k, rfl, hk, h1⟩), h2⟩
/-- what is so of all sets of places that are come to -/
structure Inv (le : Str) (p0 : List Nat) (fr : Bool) (ps : List Int) : Prop where
  r : InR le ps
  s : ps.Pairwise (· < ·)
  i1 : ∀ k : Nat, (k : Int) ∈ ps → p0.length ≤ k → (p0.length : Int) ∈ ps
  i2 : fr = true → (0 : Int) ∈ ps
  i3 : fr = false → ∀ k : Nat, (k : Int) ∈ ps → k < p0.length → ∀ k' : Nat, (k' : Int) ∈ ps → k' = k
theorem inv_start (S : Set2 le gs p0 p1 fr) : Inv le p0 fr [0] := by
  have hp := List.length_pos_iff.mpr S.h0
  refine ⟨?_, List.pairwise_singleton _ _, ?_, fun _ => List.Mem.head _, ?_⟩
  · intro k hk; rw [List.mem_singleton.mp hk]; omega
  · intro k hk h; have := List.mem_singleton.mp hk; omega
  · intro _ k hk _ k' hk'; have := List.mem_singleton.mp hk; have := List.mem_singleton.mp hk'; omega
theorem inv_on (S : Set2 le gs p0 p1 fr) {ps : List Int} (I : Inv le p0 fr ps) (c : Nat) : Inv le p0 fr (onL le gs ps ⟨#[c]⟩) := by
  have hp1 := List.length_pos_iff.mpr S.h1
  have hN : (p0 ++ p1).length = p0.length + p1.length := List.length_append
  refine ⟨on_inR, on_sorted, ?_, ?_, ?_⟩
  · intro k hk h
    by_cases e : k = p0.length
    · rw [← e]; exact hk
    · refine (mem_on S I.r).mpr (.inl ⟨?_, .inl rfl⟩)
      rcases (mem_on S I.r).mp hk with ⟨h1, _⟩ | ⟨j, rfl, h1, _⟩
      · exact I.i1 k h1 h
      · exact I.i1 j h1 (by omega)
  · intro hf
    exact (mem_on S I.r (k := 0)).mpr (.inl ⟨I.i2 hf, .inr (.inr ⟨hf, rfl⟩)⟩)
  · intro hf k hk hlt k' hk'
    have ng : ∀ q : Nat, q < p0.length → ¬ gapP p0 p1 fr q := by
      intro q hq h
      unfold gapP at h
      rcases h with h | h | ⟨h, _⟩
      · omega
      · omega
      · rw [hf] at h; cases h
    rcases (mem_on S I.r).mp hk with ⟨_, h2⟩ | ⟨j, rfl, h1, _⟩
    · exact absurd h2 (ng k hlt)
    · have all := I.i3 hf j h1 (by omega)
      rcases (mem_on S I.r).mp hk' with ⟨h3, h4⟩ | ⟨j', rfl, h3, _⟩
      · rw [all k' h3] at h4; exact absurd h4 (ng j (by omega))
      · rw [all j' h3]
def stStr : St → Str
  | .op => sOpen
  | .half => sHalf
  | .shut => sShut
theorem open_ne_half : (sHalf == sOpen) = false := by decide +kernel
theorem shut_ne_open : (sShut == sOpen) = false := by decide +kernel
theorem shut_ne_half : (sShut == sHalf) = false := by decide +kernel
theorem half_ne_shut : (sHalf == sShut) = false := by decide +kernel
theorem open_ne_shut : (sOpen == sShut) = false := by decide +kernel
theorem open_ne_half' : (sOpen == sHalf) = false := by decide +kernel
theorem q_beq {c : Nat} : ((⟨#[c]⟩ : Str) == sQ) = true ↔ c = 34 := by rw [show sQ = ⟨#[34]⟩ from qm]; exact mk1_beq c 34
/-- the walk's places and state -/
structure RunIs (le : Str) (gs : List Int) (p0 p1 : List Nat) (fr : Bool) (x : List Nat) : Prop where
  st : (lkRun le gs x).2 = stStr (stOf x)
  inv : Inv le p0 fr (lkRun le gs x).1
  acc : ∀ t, PAcc p0 p1 fr (lkRun le gs x).1 t ↔ AccP p0 p1 fr 0 (scan x ++ t)
theorem lkRun_snoc' (x : List Nat) (c : Nat) : lkRun le gs (x ++ [c]) = lkStep le gs (lkRun le gs x) c := by
  unfold lkRun; rw [List.foldl_append]; rfl
theorem run_nil (S : Set2 le gs p0 p1 fr) : RunIs le gs p0 p1 fr [] := by
  refine ⟨rfl, inv_start S, fun t => ?_⟩
  show PAcc p0 p1 fr [0] t ↔ AccP p0 p1 fr 0 t
  constructor
  · rintro ⟨k, hk, h⟩
    have : k = 0 := by have := List.mem_singleton.mp hk; omega
    rw [this] at h; exact h
  · intro h; exact ⟨0, List.Mem.head _, h⟩
theorem run_snoc (S : Set2 le gs p0 p1 fr) {x : List Nat} (R : RunIs le gs p0 p1 fr x) (c : Nat) : RunIs le gs p0 p1 fr (x ++ [c]) := by
  obtain ⟨h1, h2, h3⟩ := R
  have go : ∀ {ps : List Int} {s : Str} {st : St}, lkStep le gs (lkRun le gs x) c = (ps, s) → s = stStr st → st = stStep (stOf x) c → Inv le p0 fr ps → (∀ t, PAcc p0 p1 fr ps t ↔ AccP p0 p1 fr 0 (scan x ++ (cont (stOf x) [c] ++ t))) → RunIs le gs p0 p1 fr (x ++ [c]) := by
    intro ps s st e1 e2 e3 i a
    refine ⟨?_, ?_, ?_⟩
    · rw [lkRun_snoc', e1, stOf_snoc, ← e3]; exact e2
    · rw [lkRun_snoc', e1]; exact i
    · intro t; rw [lkRun_snoc', e1, scan_snoc, List.append_assoc]; exact a t
  have same : ∀ t, PAcc p0 p1 fr (lkRun le gs x).1 t ↔ AccP p0 p1 fr 0 (scan x ++ ([] ++ t)) := h3
  have took : ∀ t, PAcc p0 p1 fr (onL le gs (lkRun le gs x).1 ⟨#[c]⟩) t ↔ AccP p0 p1 fr 0 (scan x ++ ([c] ++ t)) := fun t => (on_acc S h2.r).trans (h3 (c :: t))
  generalize hst : stOf x = st at go h1
  unfold lkStep at go
  rw [h1] at go
  cases st with
  | op =>
    rw [show (stStr St.op == sOpen) = true from by decide +kernel, if_pos rfl] at go
    by_cases hc : c = 34
    · subst hc
      refine go (st := .half) (if_neg (by rw [show ((⟨#[34]⟩ : Str) != sQ) = false from by decide +kernel]; decide)) rfl rfl h2 ?_
      exact same
    · have : ((⟨#[c]⟩ : Str) != sQ) = true := by
        rw [bne_iff_ne]; intro e; exact hc (q_beq.mp (by rw [e]; exact beq_self_eq_true _))
      refine go (st := .op) (if_pos this) rfl (by show _ = if c = 34 then _ else _; rw [if_neg hc]) (inv_on S h2 c) ?_
      have e : cont .op [c] = [c] := by show scan [c] = _; rw [scan_on _ hc]; rfl
      rw [e]; exact took
  | half =>
    rw [show (stStr St.half == sOpen) = false from by decide +kernel, if_neg (by decide), show (stStr St.half == sHalf) = true from by decide +kernel, if_pos rfl] at go
    by_cases hc : c = 34
    · subst hc
      refine go (st := .op) (if_pos (by decide +kernel)) rfl rfl (inv_on S h2 34) ?_
      exact took
    · have : ¬ ((⟨#[c]⟩ : Str) == sQ) = true := fun h => hc (q_beq.mp h)
      refine go (st := .shut) (if_neg this) rfl (by show _ = if c = 34 then _ else _; rw [if_neg hc]) h2 ?_
      rw [cont_half_n _ hc]; exact same
  | shut =>
    rw [show (stStr St.shut == sOpen) = false from by decide +kernel, if_neg (by decide), show (stStr St.shut == sHalf) = false from by decide +kernel, if_neg (by decide)] at go
    exact go (st := .shut) rfl rfl rfl h2 same
theorem run_aux (S : Set2 le gs p0 p1 fr) (n : Nat) : ∀ x : List Nat, x.length = n → RunIs le gs p0 p1 fr x := by
  induction n with
  | zero => intro x hx; rw [List.length_eq_zero_iff.mp hx]; exact run_nil S
  | succ n ih =>
    intro x hx
    have hne : x ≠ [] := by rintro rfl; cases hx
    rw [← List.dropLast_concat_getLast hne]
    exact run_snoc S (ih _ (by rw [List.length_dropLast, hx]; rfl)) _
theorem run_is (S : Set2 le gs p0 p1 fr) (x : List Nat) : RunIs le gs p0 p1 fr x := run_aux S _ x rfl
end
end Mine
end

-- part PL4
section
open PySem PySem.W PyProof.Rows PySem.Calls
set_option Elab.async false
set_option maxRecDepth 100000
namespace Mine
open StrLaws (dbl)
def IsMax (ps : List Int) (p : Nat) : Prop := (p : Int) ∈ ps ∧ ∀ k : Nat, (k : Int) ∈ ps → k ≤ p
section
variable {le : Str} {gs : List Int} {p0 p1 : List Nat} {fr : Bool}
theorem last_max {ps : List Int} (hr : InR le ps) (hs : ps.Pairwise (· < ·)) {n : Int} (h : ps.getLast? = some n) : ∃ p : Nat, n = (p : Int) ∧ IsMax ps p := by
  obtain ⟨ys, rfl⟩ := List.getLast?_eq_some_iff.mp h
  have h0 := (hr n (List.mem_append_right _ (List.Mem.head _))).1
  refine ⟨n.toNat, by omega, ?_, fun k hk => ?_⟩
  · rw [Int.toNat_of_nonneg h0]; exact List.mem_append_right _ (List.Mem.head _)
  · rcases List.mem_append.mp hk with hk | hk
    · have := (List.pairwise_append.mp hs).2.2 _ hk n (List.Mem.head _)
      omega
    · have := List.mem_singleton.mp hk
      omega
/-- what place p, the greatest of a set, says of all that the set takes -/
def Dp (p0 p1 : List Nat) (fr : Bool) (p : Nat) (t : List Nat) : Prop := AccP p0 p1 fr p t ∨ (if p0.length ≤ p then AccP p0 p1 fr p0.length t else fr = true ∧ AccP p0 p1 fr 0 t)
theorem pacc_max (S : Set2 le gs p0 p1 fr) {ps : List Int} (I : Inv le p0 fr ps) {p : Nat} (hm : IsMax ps p) {t : List Nat} : PAcc p0 p1 fr ps t ↔ Dp p0 p1 fr p t := by
  have hN : (p0 ++ p1).length = p0.length + p1.length := List.length_append
  have hl := S.len
  have hl0 := S.l0
  have hl1 := S.l1
  unfold Dp
  constructor
  · rintro ⟨k, hk, h⟩
    have hkp := hm.2 k hk
    have hpN := (I.r _ hm.1).2
    by_cases hp : p0.length ≤ p
    · rw [if_pos hp]
      by_cases h1 : k ≤ p0.length
      · exact .inr (acc_le_mid S.h0 S.h1 h1 h)
      · by_cases h2 : k = p
        · rw [← h2]; exact .inl h
        · have : p = (p0 ++ p1).length := by omega
          rw [this]; exact .inl (acc_end _)
    · rw [if_neg hp]
      by_cases h2 : k = p
      · rw [← h2]; exact .inl h
      · cases hf : fr with
        | false =>
          have := I.i3 hf p hm.1 (by omega) k hk
          exact absurd this h2
        | true =>
          have : k = 0 := by omega
          rw [this, hf] at h
          exact .inr ⟨rfl, h⟩
  · rintro (h | h)
    · exact ⟨p, hm.1, h⟩
    · by_cases hp : p0.length ≤ p
      · rw [if_pos hp] at h
        exact ⟨p0.length, I.i1 p hm.1 hp, h⟩
      · rw [if_neg hp] at h
        exact ⟨0, I.i2 h.1, h.2⟩
abbrev plc (le : Str) (gs : List Int) (x : List Nat) : List Int := (lkRun le gs x).1
inductive LackIs (le : Str) (gs : List Int) (p0 p1 : List Nat) (fr : Bool) (x : List Nat) : Option (List Nat) → Prop
  | done : ((p0 ++ p1).length : Int) ∈ plc le gs x → LackIs le gs p0 p1 fr x (some [])
  | opn (p : Nat) : ((p0 ++ p1).length : Int) ∉ plc le gs x → stOf x = .op → IsMax (plc le gs x) p → p < (p0 ++ p1).length → LackIs le gs p0 p1 fr x (some (dbl 34 ((p0 ++ p1).drop p)))
  | hlf (p : Nat) : ((p0 ++ p1).length : Int) ∉ plc le gs x → stOf x = .half → IsMax (onL le gs (plc le gs x) ⟨#[34]⟩) p → p ≤ (p0 ++ p1).length → LackIs le gs p0 p1 fr x (some (34 :: dbl 34 ((p0 ++ p1).drop p)))
  | none : ((p0 ++ p1).length : Int) ∉ plc le gs x → (∀ r, ¬ PAcc p0 p1 fr (plc le gs x) (cont (stOf x) r)) → LackIs le gs p0 p1 fr x none
theorem pacc_nil {ps : List Int} (h : ((p0 ++ p1).length : Int) ∉ ps) : ¬ PAcc p0 p1 fr ps [] := by
  rintro ⟨k, hk, e⟩
  have e : k = (p0 ++ p1).length := e
  rw [e] at hk
  exact h hk
theorem sQ_eq : sQ = ⟨#[34]⟩ := qm
theorem sQQ_eq : sQQ = ⟨#[34, 34]⟩ := by decide +kernel
theorem end_list (S : Set2 le gs p0 p1 fr) {ahead : Str} {p : Nat} (hp : p ≤ (p0 ++ p1).length) : (ahead ++ Txt.replace (Txt.slice le (some (p : Int)) none) sQ sQQ).cps.toList = ahead.cps.toList ++ dbl 34 ((p0 ++ p1).drop p) := by
  rw [Str.cps_append, Array.toList_append, sQ_eq, sQQ_eq, StrLaws.replace_double]
  have hl : le.cps.toList.length = (p0 ++ p1).length := by rw [S.hle]
  have h := StrLaws.sliceText_from (x := le) (i := (p : Int)) ⟨by omega, by rw [hl]; omega⟩
  rw [show Txt.slice le (some (p : Int)) none = StrLaws.sliceText le (some (p : Int)) none from rfl, h]
  show _ ++ dbl 34 (((le.cps.toList.drop (p : Int).toNat).take _).toArray).toList = _
  rw [List.toList_toArray, List.take_of_length_le (by rw [List.length_drop]; omega), Int.toNat_natCast, S.hle]
theorem lkEnd_none {ps : List Int} {ahead : Str} (h : ps.getLast? = none) : lkEnd le ps ahead = none := by unfold lkEnd; rw [h]
theorem lkEnd_some {ps : List Int} {ahead : Str} {p : Int} (h : ps.getLast? = some p) : lkEnd le ps ahead = some (ahead ++ Txt.replace (Txt.slice le (some p) none) sQ sQQ) := by unfold lkEnd; rw [h]
def isHalf : St → Bool
  | .half => true
  | _ => false
def isShut : St → Bool
  | .shut => true
  | _ => false
theorem stStr_inj_half {s : St} : (stStr s == sHalf) = isHalf s := by cases s <;> decide +kernel
theorem stStr_inj_shut {s : St} : (stStr s == sShut) = isShut s := by cases s <;> decide +kernel
theorem empty_list : (Str.ofString "").cps.toList = [] := by decide +kernel
theorem lack_is (S : Set2 le gs p0 p1 fr) (x : List Nat) : LackIs le gs p0 p1 fr x ((lackF le gs x).map fun y => y.cps.toList) := by
  have R := run_is S x
  have hl := S.len
  have st := R.st
  have hS34 : Str.mk #[34] = sQ := qm.symm
  unfold lackF
  dsimp only
  by_cases hd : ((p0 ++ p1).length : Int) ∈ (lkRun le gs x).1
  · rw [if_pos (any_mem.mpr (by rw [hl]; exact hd))]
    show LackIs _ _ _ _ _ _ (some (Str.ofString "").cps.toList)
    rw [empty_list]
    exact .done hd
  · have hd' : ((p0 ++ p1).length : Int) ∉ plc le gs x := hd
    rw [if_neg (by rw [any_mem, hl]; exact hd), st, stStr_inj_half, stStr_inj_shut]
    cases hs : stOf x with
    | half =>
      rw [if_pos (by decide)]
      cases hg : (onL le gs (lkRun le gs x).1 sQ).getLast? with
      | none =>
        rw [lkEnd_none hg]
        refine .none hd' fun r => ?_
        rw [hs]
        have he := List.getLast?_eq_none_iff.mp hg
        have no : ∀ r', ¬ PAcc p0 p1 fr (plc le gs x) (34 :: r') := by
          intro r' h
          have := (on_acc S R.inv.r).mpr h
          rw [hS34, he] at this
          obtain ⟨k, hk, _⟩ := this
          cases hk
        cases r with
        | nil => exact pacc_nil hd'
        | cons c r =>
          by_cases hc : c = 34
          · subst hc; exact no _
          · rw [cont_half_n _ hc]; exact pacc_nil hd'
      | some n =>
        rw [lkEnd_some hg]
        obtain ⟨p, rfl, hm⟩ := last_max on_inR on_sorted hg
        have hp : p ≤ (p0 ++ p1).length := by have := (on_inR _ hm.1).2; rw [hl] at this; omega
        rw [Option.map_some, end_list S hp]
        have e : sQ.cps.toList = [34] := by decide +kernel
        rw [e]
        exact .hlf p hd' hs (by rw [hS34]; exact hm) hp
    | shut =>
      rw [if_neg (by decide), if_pos (by decide)]
      refine .none hd' fun r => ?_
      rw [hs]
      exact pacc_nil hd'
    | op =>
      rw [if_neg (by decide), if_neg (by decide)]
      cases hg : (lkRun le gs x).1.getLast? with
      | none =>
        rw [lkEnd_none hg]
        refine .none hd' fun r => ?_
        have he := List.getLast?_eq_none_iff.mp hg
        rintro ⟨k, hk, _⟩
        unfold plc at hk
        rw [he] at hk
        cases hk
      | some n =>
        rw [lkEnd_some hg]
        obtain ⟨p, rfl, hm⟩ := last_max R.inv.r R.inv.s hg
        have hp : p ≤ (p0 ++ p1).length := by have := (R.inv.r _ hm.1).2; rw [hl] at this; omega
        rw [Option.map_some, end_list S hp, empty_list]
        refine .opn p hd' hs hm (Nat.lt_of_le_of_ne hp ?_)
        intro e
        rw [e] at hm
        exact hd' hm.1
/-! the facts of lacks -/
theorem lack_good (S : Set2 le gs p0 p1 fr) {x r : List Nat} (h : LackIs le gs p0 p1 fr x (some r)) : PAcc p0 p1 fr (plc le gs x) (cont (stOf x) r) := by
  have R := run_is S x
  cases h with
  | done h => exact ⟨_, h, acc_end _⟩
  | opn p h hs hm hp =>
    rw [hs]
    show PAcc _ _ _ _ (scan (dbl 34 _))
    rw [scan_dbl]
    exact ⟨p, hm.1, acc_straight ((p0 ++ p1).length - p) p (by omega)⟩
  | hlf p h hs hm hp =>
    rw [hs, cont_half_q, scan_dbl]
    exact (on_acc S R.inv.r).mp ⟨p, hm.1, acc_straight ((p0 ++ p1).length - p) p (by omega)⟩
theorem drop_sub (l : List Nat) {k p : Nat} (h : k ≤ p) : List.Sublist (l.drop p) (l.drop k) := by
  have : l.drop p = (l.drop k).drop (p - k) := by rw [List.drop_drop]; congr 1; omega
  rw [this]
  exact List.drop_sublist _ _
theorem max_least {ps : List Int} {p : Nat} (hm : IsMax ps p) {s : List Nat} (h : PAcc p0 p1 fr ps (scan s)) : (dbl 34 ((p0 ++ p1).drop p)).length ≤ s.length ∧ ((dbl 34 ((p0 ++ p1).drop p)).length = s.length → dbl 34 ((p0 ++ p1).drop p) = s) := by
  obtain ⟨k, hk, h⟩ := h
  have h1 := (drop_sub (p0 ++ p1) (hm.2 k hk)).trans (acc_sub _ _ h)
  have h2 := dbl_sub h1
  have h3 := dbl_scan_le _ s (Nat.le_refl _)
  exact ⟨by omega, fun e => by rw [h2.2 (by omega)]; exact h3.2 (by omega)⟩
theorem lack_least (S : Set2 le gs p0 p1 fr) {x r s : List Nat} (h : LackIs le gs p0 p1 fr x (some r)) (a : PAcc p0 p1 fr (plc le gs x) (cont (stOf x) s)) : r.length ≤ s.length ∧ (r.length = s.length → r = s) := by
  have R := run_is S x
  cases h with
  | done h => exact ⟨Nat.zero_le _, fun e => (List.length_eq_zero_iff.mp e.symm).symm⟩
  | opn p h hs hm hp =>
    rw [hs] at a
    exact max_least hm a
  | hlf p h hs hm hp =>
    rw [hs] at a
    cases s with
    | nil => exact absurd a (pacc_nil h)
    | cons c s =>
      by_cases hc : c = 34
      · subst hc
        have := max_least hm ((on_acc S R.inv.r).mpr a)
        simp only [List.length_cons]
        exact ⟨by omega, fun e => by rw [this.2 (by omega)]⟩
      · rw [cont_half_n _ hc] at a
        exact absurd a (pacc_nil h)
theorem drop_inj {l : List Nat} {p q : Nat} (hp : p ≤ l.length) (hq : q ≤ l.length) (h : l.drop p = l.drop q) : p = q := by
  have := congrArg List.length h
  rw [List.length_drop, List.length_drop] at this
  omega
theorem lack_same (S : Set2 le gs p0 p1 fr) {x y : List Nat} {o : Option (List Nat)} (hx : LackIs le gs p0 p1 fr x o) (hy : LackIs le gs p0 p1 fr y o) (r : List Nat) (h : PAcc p0 p1 fr (plc le gs x) (cont (stOf x) r)) : PAcc p0 p1 fr (plc le gs y) (cont (stOf y) r) := by
  have Rx := run_is S x
  have Ry := run_is S y
  have ne : ∀ {p : Nat}, p < (p0 ++ p1).length → dbl 34 ((p0 ++ p1).drop p) ≠ [] := by
    intro p hp
    refine dbl_ne ?_
    intro e
    have := List.drop_eq_nil_iff.mp e
    omega
  cases o with
  | none =>
    cases hx with
    | none _ hn => exact absurd h (hn r)
  | some q =>
    generalize hq : q = q' at hx
    cases hy with
    | done hy => exact ⟨_, hy, acc_end _⟩
    | opn p hy hs hm hp =>
      cases hx with
      | done hx => exact absurd hq (ne hp)
      | opn p' hx hs' hm' hp' =>
        have e := drop_inj (Nat.le_of_lt hp) (Nat.le_of_lt hp') (dbl_inj hq)
        subst e
        rw [hs'] at h
        rw [hs]
        exact (pacc_max S Ry.inv hm).mpr ((pacc_max S Rx.inv hm').mp h)
      | hlf p' hx hs' hm' hp' => exact absurd hq (half_ne_open _ _)
    | hlf p hy hs hm hp =>
      cases hx with
      | done hx => cases hq
      | opn p' hx hs' hm' hp' => exact absurd hq.symm (half_ne_open _ _)
      | hlf p' hx hs' hm' hp' =>
        have e := drop_inj hp hp' (dbl_inj (List.cons.inj hq).2)
        subst e
        rw [hs'] at h
        rw [hs]
        cases r with
        | nil => exact absurd h (pacc_nil hx)
        | cons c r =>
          by_cases hc : c = 34
          · subst hc
            rw [cont_half_q] at h ⊢
            refine (on_acc S Ry.inv.r).mp ((pacc_max S (inv_on S Ry.inv 34) hm).mpr ((pacc_max S (inv_on S Rx.inv 34) hm').mp ((on_acc S Rx.inv.r).mpr h)))
          · rw [cont_half_n _ hc] at h
            exact absurd h (pacc_nil hx)
theorem lack_cut {x r : List Nat} (h : LackIs le gs p0 p1 fr x (some r)) (hr : r ≠ []) : scan (x ++ r.dropLast) = (scan (x ++ r)).dropLast := by
  cases h with
  | done h => exact absurd rfl hr
  | opn p h hs hm hp =>
    have hne : (p0 ++ p1).drop p ≠ [] := by intro e; have := List.drop_eq_nil_iff.mp e; omega
    rw [scan_cat, scan_cat, hs]
    show _ ++ scan (dbl 34 _).dropLast = (_ ++ scan (dbl 34 _)).dropLast
    rw [scan_dbl_cut, scan_dbl, List.dropLast_append_of_ne_nil hne]
  | hlf p h hs hm hp =>
    rw [scan_cat, scan_cat, hs, cut_half, cont_half_q, scan_dbl, List.dropLast_append_of_ne_nil (List.cons_ne_nil _ _)]
end
end Mine
end

-- part PL5
section
open PySem PySem.W PyProof.Rows PySem.Calls
set_option Elab.async false
set_option maxRecDepth 100000
namespace Mine
open StrLaws Builtin.Str
/-- a text's parts between the finds of sub, from the left -/
inductive Spl (sub : List Nat) : List Nat → List (List Nat) → Prop
  | nil : Spl sub [] [[]]
  | hit {r : List Nat} {ps : List (List Nat)} : Spl sub r ps → Spl sub (sub ++ r) ([] :: ps)
  | step {c : Nat} {r p : List Nat} {ps : List (List Nat)} : ¬ sub <+: (c :: r) → Spl sub r (p :: ps) → Spl sub (c :: r) ((c :: p) :: ps)
theorem spl_ex {sub : List Nat} (hs : sub ≠ []) : ∀ (n : Nat) (l : List Nat), l.length ≤ n → ∃ p ps, Spl sub l (p :: ps)
  | _, [], _ => ⟨_, _, .nil⟩
  | 0, c :: r, h => by rw [List.length_cons] at h; omega
  | n + 1, c :: r, h => by
    by_cases hp : sub <+: (c :: r)
    · obtain ⟨t, e⟩ := hp
      have hl := congrArg List.length e
      rw [List.length_append] at hl
      have := List.length_pos_iff.mpr hs
      obtain ⟨p, ps, h⟩ := spl_ex hs n t (by omega)
      exact ⟨[], p :: ps, e ▸ .hit h⟩
    · rw [List.length_cons] at h
      obtain ⟨p, ps, h⟩ := spl_ex hs n r (by omega)
      exact ⟨_, _, .step hp h⟩
def occF (x sub : Str) : Nat → Nat → Nat → List Nat
  | 0, _, _ => []
  | k + 1, i, free => if free ≤ i ∧ i + sub.length ≤ x.length ∧ subAt x sub i = true then i :: occF x sub k (i + 1) (i + sub.length) else occF x sub k (i + 1) free
theorem occF_succ (x sub : Str) (k i free : Nat) : occF x sub (k + 1) i free = if free ≤ i ∧ i + sub.length ≤ x.length ∧ subAt x sub i = true then i :: occF x sub k (i + 1) (i + sub.length) else occF x sub k (i + 1) free := rfl
theorem occ_run (x sub : Str) (limit : Nat) : ∀ (k i : Nat) (st : Array Nat × Nat), st.fst.size ≤ i → i + k ≤ limit → (forIn (List.range' i k) st (occBody x sub x.length limit)).run.fst.toList = st.fst.toList ++ occF x sub k i st.snd
  | 0, i, st, _, _ => by simp [occF]
  | k + 1, i, st, h, hl => by
    rw [List.range'_succ, List.forIn_cons]
    unfold occBody
    by_cases hc : st.snd ≤ i ∧ i + sub.length ≤ x.length ∧ subAt x sub i = true
    · have c1 : ((st.fst.size < limit ∧ st.snd ≤ i) ∧ i + sub.length ≤ x.length) ∧ subAt x sub i = true := ⟨⟨⟨by omega, hc.1⟩, hc.2.1⟩, hc.2.2⟩
      rw [if_pos c1]
      refine (occ_run x sub limit k (i + 1) (st.fst.push i, i + sub.length) (by simp only [Array.size_push]; omega) (by omega)).trans ?_
      rw [Array.toList_push, List.append_assoc]
      rw [occF_succ, if_pos hc]
      rfl
    · have c2 : ¬ (((st.fst.size < limit ∧ st.snd ≤ i) ∧ i + sub.length ≤ x.length) ∧ subAt x sub i = true) := fun h => hc ⟨h.1.1.2, h.1.2, h.2⟩
      rw [if_neg c2]
      refine (occ_run x sub limit k (i + 1) (st.fst, st.snd) (by dsimp only; omega) (by omega)).trans ?_
      rw [occF_succ, if_neg hc]
theorem occ_is (x sub : Str) : occurrences x sub 0 x.length (x.length + 1) = occF x sub (x.length + 1) 0 0 := by
  rw [occ_eq, occ_run x sub (x.length + 1) _ 0 (#[], 0) (Nat.le_refl _) (by omega)]
  simp
theorem occF_skip (x sub : Str) : ∀ (j k i free : Nat), i + j ≤ free → occF x sub (k + j) i free = occF x sub k (i + j) free
  | 0, _, _, _, _ => rfl
  | j + 1, k, i, free, h => by
    show occF x sub ((k + j) + 1) i free = _
    rw [occF_succ, if_neg (by omega), occF_skip x sub j k (i + 1) free (by omega)]
    rw [show i + 1 + j = i + (j + 1) by omega]
def prep (u : List Nat) : List (List Nat) → List (List Nat)
  | [] => []
  | p :: ps => (u ++ p) :: ps
theorem sub_list (x : Str) (a b : Nat) : (strSub x a b).cps.toList = (x.cps.toList.drop a).take (b - a) := strSub_toList x a b
theorem at_iff (x sub : Str) (i : Nat) : (i + sub.length ≤ x.length ∧ subAt x sub i = true) ↔ sub.cps.toList <+: x.cps.toList.drop i ∧ i + sub.length ≤ x.length := by
  rw [subAt_eq]
  have hl : sub.cps.toList.length = sub.length := by simp [Str.length]
  constructor
  · rintro ⟨h1, h2⟩
    refine ⟨?_, h1⟩
    rw [← eq_of_beq h2]
    exact List.take_prefix _ _
  · rintro ⟨⟨t, e⟩, h1⟩
    refine ⟨h1, ?_⟩
    rw [← e, ← hl, List.take_left']
    · exact beq_self_eq_true _
    · rfl
theorem pre_room {x sub : Str} {i : Nat} (hw : 1 ≤ sub.length) (h : sub.cps.toList <+: x.cps.toList.drop i) : i + sub.length ≤ x.length := by
  have := h.length_le
  rw [List.length_drop] at this
  simp only [Array.length_toList] at this
  unfold Str.length at hw ⊢
  omega
theorem drop_tail {l r : List Nat} {c i : Nat} (e : l.drop i = c :: r) : l.drop (i + 1) = r := by
  rw [← List.drop_drop, e]; rfl
theorem take_next {l r : List Nat} {c i a : Nat} (ha : a ≤ i) (e : l.drop i = c :: r) : (l.drop a).take (i + 1 - a) = (l.drop a).take (i - a) ++ [c] := by
  have e1 : i + 1 - a = (i - a) + 1 := by omega
  have e2 : (l.drop a)[i - a]? = some c := by
    rw [List.getElem?_drop, show a + (i - a) = i by omega]
    have := congrArg List.head? e
    rwa [List.head?_drop] at this
  rw [e1, List.take_add_one, e2]; rfl
theorem parts_run (x sub : Str) (hw : 1 ≤ sub.length) {l : List Nat} {ps : List (List Nat)} (h : Spl sub.cps.toList l ps) : ∀ (k i free a : Nat), l = x.cps.toList.drop i → i ≤ x.length + 1 → i + k = x.length + 1 → free ≤ i → a ≤ i →
    (partsFrom x sub.length a (occF x sub k i free)).map (fun y => y.cps.toList) = prep ((x.cps.toList.drop a).take (i - a)) ps := by
  have hn : x.cps.toList.length = x.length := by simp [Str.length]
  have hsl : sub.cps.toList.length = sub.length := by simp [Str.length]
  induction h with
  | nil =>
    intro k i free a hl hi hk hf ha
    have hge := List.drop_eq_nil_iff.mp hl.symm
    have no : occF x sub k i free = [] := by
      cases k with
      | zero => rfl
      | succ k =>
        have hk0 : k = 0 := by omega
        subst hk0
        show (if _ then _ else occF x sub 0 (i + 1) free) = []
        rw [if_neg (by rintro ⟨_, h, _⟩; omega)]
        rfl
    rw [no]
    show [(strSub x a x.length).cps.toList] = [_ ++ []]
    rw [sub_list, List.append_nil, List.take_of_length_le (by rw [List.length_drop]; omega), List.take_of_length_le (by rw [List.length_drop]; omega)]
  | @hit r ps hs ih =>
    intro k i free a hl hi hk hf ha
    have hp : sub.cps.toList <+: x.cps.toList.drop i := ⟨r, hl⟩
    have hr := pre_room hw hp
    have hat := (at_iff x sub i).mpr ⟨hp, hr⟩
    obtain ⟨k, rfl⟩ : ∃ k', k = k' + 1 := ⟨k - 1, by omega⟩
    have e1 : occF x sub (k + 1) i free = i :: occF x sub (k + 1 - sub.length) (i + sub.length) (i + sub.length) := by
      show (if _ then _ else _) = _
      rw [if_pos ⟨hf, hat⟩]
      have := occF_skip x sub (sub.length - 1) (k + 1 - sub.length) (i + 1) (i + sub.length) (by omega)
      rw [show k + 1 - sub.length + (sub.length - 1) = k by omega, show i + 1 + (sub.length - 1) = i + sub.length by omega] at this
      rw [this]
    rw [e1]
    show (strSub x a i).cps.toList :: (partsFrom x sub.length (i + sub.length) _).map _ = (_ ++ []) :: ps
    have hd : r = x.cps.toList.drop (i + sub.length) := by
      rw [← List.drop_drop, ← hl, ← hsl, List.drop_left']
      rfl
    rw [ih (k + 1 - sub.length) (i + sub.length) (i + sub.length) (i + sub.length) hd (by omega) (by omega) (Nat.le_refl _) (Nat.le_refl _), sub_list, List.append_nil, Nat.sub_self, List.take_zero]
    cases ps with
    | nil => rfl
    | cons p ps => rfl
  | @step c r p ps hnp hs ih =>
    intro k i free a hl hi hk hf ha
    have hlt : i < x.length := by
      have := congrArg List.length hl
      rw [List.length_cons, List.length_drop] at this
      omega
    obtain ⟨k, rfl⟩ : ∃ k', k = k' + 1 := ⟨k - 1, by omega⟩
    have e1 : occF x sub (k + 1) i free = occF x sub k (i + 1) free := by
      show (if _ then _ else _) = _
      rw [if_neg]
      rintro ⟨_, h⟩
      exact hnp (hl ▸ ((at_iff x sub i).mp h).1)
    rw [e1, ih k (i + 1) free a (drop_tail hl.symm).symm (by omega) (by omega) (by omega) (by omega), take_next ha hl.symm]
    show [_ ++ p] ++ ps = [_ ++ (c :: p)] ++ ps
    rw [List.append_assoc]; rfl
theorem parts_are (x sub : Str) (hw : 1 ≤ sub.length) {p : List Nat} {ps : List (List Nat)} (h : Spl sub.cps.toList x.cps.toList (p :: ps)) : (partsFrom x sub.length 0 (occurrences x sub 0 x.length (x.length + 1))).map (fun y => y.cps.toList) = p :: ps := by
  rw [occ_is, parts_run x sub hw h (x.length + 1) 0 0 0 rfl (Nat.zero_le _) (by omega) (Nat.le_refl _) (Nat.le_refl _)]
  rfl
def toS (l : List Nat) : Str := ⟨l.toArray⟩
theorem toS_list (x : Str) : toS x.cps.toList = x := rfl
theorem map_back {qs : List Str} {ps : List (List Nat)} (h : qs.map (fun y => y.cps.toList) = ps) : qs = ps.map toS := by
  rw [← h, List.map_map]
  exact (List.map_id _).symm.trans (List.map_congr_left fun _ _ => rfl)
theorem kind_pos (x : Str) : 1 ≤ Builtin.Str.strKind x := by unfold Builtin.Str.strKind; split; exact Nat.le_refl _; split; decide; decide
theorem split_is (x sub : Str) (hw : 1 ≤ sub.length) (hk : Builtin.Str.strKind sub = 1) {p : List Nat} {ps : List (List Nat)} (h : Spl sub.cps.toList x.cps.toList (p :: ps)) : Txt.split x sub = (p :: ps).map toS := by
  have hp := parts_are x sub hw h
  have one : occurrences x sub 0 x.length (x.length + 1) = [] → [x] = (p :: ps).map toS := by
    intro e
    rw [e] at hp
    refine map_back ?_
    rw [← hp]
    show [x.cps.toList] = [(strSub x 0 x.length).cps.toList]
    rw [sub_whole]
  unfold Txt.split
  by_cases hc : (decide (x.length < sub.length) || decide (Builtin.Str.strKind x < Builtin.Str.strKind sub)) = true
  · rw [if_pos hc]
    refine one ?_
    have hlt : x.length < sub.length := by
      rw [Bool.or_eq_true, decide_eq_true_eq, decide_eq_true_eq] at hc
      have := kind_pos x
      omega
    rcases occ_head x sub (x.length + 1) (by omega) with ⟨e, _⟩ | ⟨i, r, _, ha, _⟩
    · exact e
    · have := ha.1; omega
  · rw [if_neg hc]
    by_cases he : (occurrences x sub 0 x.length (x.length + 1)).isEmpty = true
    · rw [if_pos he]; exact one (List.isEmpty_iff.mp he)
    · rw [if_neg he, partsBetween_eq]; exact map_back hp
theorem replace_is (x sub z : Str) (hw : 1 ≤ sub.length) {p : List Nat} {ps : List (List Nat)} (h : Spl sub.cps.toList x.cps.toList (p :: ps)) : Txt.replace x sub z = Str.join z ((p :: ps).map toS) := by
  have hp := parts_are x sub hw h
  unfold Txt.replace
  by_cases he : (occurrences x sub 0 x.length (x.length + 1)).isEmpty = true
  · rw [he, Bool.true_or, if_pos rfl]
    have e := List.isEmpty_iff.mp he
    rw [e] at hp
    have : p :: ps = [x.cps.toList] := by
      rw [← hp]
      show [(strSub x 0 x.length).cps.toList] = _
      rw [sub_whole]
    rw [this]; rfl
  · have hw0 : (sub.length == 0) = false := by rw [beq_eq_false_iff_ne]; omega
    rw [Bool.eq_false_iff.mpr he, hw0, Bool.false_and, Bool.or_false, if_neg (by decide), glued_eq_join, partsBetween_eq, map_back hp]
theorem join_cons (z x y : Str) (r : List Str) : (Str.join z (x :: y :: r)).cps.toList = x.cps.toList ++ (z.cps.toList ++ (Str.join z (y :: r)).cps.toList) := by
  show (x ++ z ++ Str.join z (y :: r)).cps.toList = _
  rw [Str.cps_append, Str.cps_append, Array.toList_append, Array.toList_append, List.append_assoc]
theorem join_head (z : Str) (c : Nat) (p : List Nat) (ps : List (List Nat)) : (Str.join z ((((c :: p) :: ps)).map toS)).cps.toList = c :: (Str.join z ((p :: ps).map toS)).cps.toList := by
  cases ps with
  | nil => rfl
  | cons q ps =>
    show (Str.join z (toS (c :: p) :: toS q :: ps.map toS)).cps.toList = c :: (Str.join z (toS p :: toS q :: ps.map toS)).cps.toList
    rw [join_cons, join_cons]; rfl
theorem join_hit (z : Str) (p : List Nat) (ps : List (List Nat)) : (Str.join z (([] :: p :: ps).map toS)).cps.toList = z.cps.toList ++ (Str.join z ((p :: ps).map toS)).cps.toList := by
  show (Str.join z (toS [] :: toS p :: ps.map toS)).cps.toList = _
  rw [join_cons]; rfl
/-! told is plain -/
def rep2 : List Nat → List Nat
  | [] => []
  | 34 :: 34 :: r => 35 :: rep2 r
  | c :: r => c :: rep2 r
theorem rep2_n (c : Nat) (r : List Nat) (h : ¬ [34, 34] <+: (c :: r)) : rep2 (c :: r) = c :: rep2 r := by
  conv => lhs; unfold rep2
  split
  · rename_i e; cases e
  · rename_i e; cases e; exact absurd ⟨_, rfl⟩ h
  · rename_i e; cases e; rfl
theorem spl_ne {sub l : List Nat} {ps : List (List Nat)} (h : Spl sub l ps) : ps ≠ [] := by cases h <;> exact List.cons_ne_nil _ _
theorem rep2_is {l : List Nat} {ps : List (List Nat)} (h : Spl [34, 34] l ps) : (Str.join ⟨#[35]⟩ (ps.map toS)).cps.toList = rep2 l := by
  induction h with
  | nil => rfl
  | @hit r ps h ih =>
    cases ps with
    | nil => exact absurd rfl (spl_ne h)
    | cons p ps => rw [join_hit, ih]; rfl
  | step hn _ ih => rw [join_head, ih, rep2_n _ _ hn]
theorem cut34 {l p : List Nat} {ps qs : List (List Nat)} (h : Spl [34] l qs) (e : qs = p :: ps) : p = l.takeWhile (· != 34) := by
  induction h generalizing p ps with
  | nil => cases e; rfl
  | hit h ih => cases e; rfl
  | @step c r p' ps' hn _ ih =>
    cases e
    have hc : c ≠ 34 := by rintro rfl; exact hn ⟨r, rfl⟩
    rw [List.takeWhile_cons_of_pos (by simpa using hc), ← ih rfl]
theorem back35 {l : List Nat} {ps : List (List Nat)} (h : Spl [35] l ps) : (Str.join ⟨#[34]⟩ (ps.map toS)).cps.toList = l.map fun c => if c = 35 then 34 else c := by
  induction h with
  | nil => rfl
  | @hit r ps h ih =>
    cases ps with
    | nil => exact absurd rfl (spl_ne h)
    | cons p ps => rw [join_hit, ih]; rfl
  | @step c r p' ps' hn _ ih =>
    have hc : c ≠ 35 := by rintro rfl; exact hn ⟨r, rfl⟩
    rw [join_head, ih, List.map_cons, if_neg hc]
theorem scan_plain : ∀ (n : Nat) (l : List Nat), l.length ≤ n → 35 ∉ l → ((rep2 l).takeWhile (· != 34)).map (fun c => if c = 35 then 34 else c) = scan l
  | _, [], _, _ => rfl
  | 0, c :: r, h, _ => by rw [List.length_cons] at h; omega
  | n + 1, c :: r, h, hm => by
    rw [List.length_cons] at h
    by_cases hc : c = 34
    · subst hc
      cases r with
      | nil => rfl
      | cons d r =>
        rw [List.length_cons] at h
        by_cases hd : d = 34
        · subst hd
          show List.map _ (List.takeWhile _ (35 :: rep2 r)) = 34 :: scan r
          rw [List.takeWhile_cons_of_pos (by decide), List.map_cons, scan_plain n r (by omega) (fun h => hm (List.mem_cons_of_mem _ (List.mem_cons_of_mem _ h)))]
          rfl
        · rw [scan_stop _ hd, rep2_n]
          · rfl
          · rintro ⟨t, e⟩; cases e; exact hd rfl
    · rw [scan_on _ hc, rep2_n, List.takeWhile_cons_of_pos (by simpa using hc), List.map_cons, scan_plain n r (by omega) (fun h => hm (List.mem_cons_of_mem _ h)), if_neg (by rintro rfl; exact hm (List.Mem.head _))]
      rintro ⟨t, e⟩; cases e; exact hc rfl
theorem sHash_eq : sHash = ⟨#[35]⟩ := by decide +kernel
theorem sQ_eq' : sQ = ⟨#[34]⟩ := qm
theorem sQQ_eq' : sQQ = ⟨#[34, 34]⟩ := by decide +kernel
theorem plain_is (z : Str) (h : 35 ∉ z.cps.toList) : plain z = tell z := by
  show Txt.replace ((Txt.split (Txt.replace z sQQ sHash) sQ).headD ⟨#[]⟩) sHash sQ = _
  rw [sHash_eq, sQ_eq', sQQ_eq']
  obtain ⟨p, ps, h1⟩ := spl_ex (sub := [34, 34]) (by decide) _ z.cps.toList (Nat.le_refl _)
  have e1 : (Txt.replace z ⟨#[34, 34]⟩ ⟨#[35]⟩).cps.toList = rep2 z.cps.toList := by
    rw [replace_is z ⟨#[34, 34]⟩ ⟨#[35]⟩ (by decide) h1, rep2_is h1]
  obtain ⟨q, qs, h2⟩ := spl_ex (sub := [34]) (by decide) _ (Txt.replace z ⟨#[34, 34]⟩ ⟨#[35]⟩).cps.toList (Nat.le_refl _)
  rw [split_is _ ⟨#[34]⟩ (by decide) (by decide +kernel) h2]
  show Txt.replace (toS q) _ _ = _
  obtain ⟨u, us, h3⟩ := spl_ex (sub := [35]) (by decide) _ q (Nat.le_refl _)
  have e3 := replace_is (toS q) ⟨#[35]⟩ ⟨#[34]⟩ (by decide) (show Spl _ (toS q).cps.toList _ from h3)
  rw [e3]
  refine (toS_list _).symm.trans ?_
  rw [back35 h3, cut34 h2 rfl, e1, scan_plain _ _ (Nat.le_refl _) h]
  rfl
end Mine
end

-- part PL6
section
open PySem PySem.W PyProof.Rows PySem.Calls
set_option Elab.async false
set_option maxRecDepth 100000
namespace Mine
open StrLaws Builtin.Str
abbrev lst (x : Str) : List Nat := x.cps.toList
theorem lst_len (x : Str) : (lst x).length = x.length := by simp [lst, Str.length]
theorem infix_iff {p l : List Nat} : p <:+: l ↔ ∃ i, p <+: l.drop i := by
  constructor
  · rintro ⟨s, t, e⟩
    refine ⟨s.length, t, ?_⟩
    rw [← e, List.append_assoc, List.drop_left' rfl]
  · rintro ⟨i, h⟩
    exact h.isInfix.trans (List.drop_suffix _ _).isInfix
theorem lang_iff {p0 p1 : List Nat} {fr : Bool} {t : List Nat} : Lang p0 p1 fr t ↔ ∃ k, k ≤ t.length ∧ (fr = true ∨ k = 0) ∧ p0 <+: t.drop k ∧ p1 <:+: t.drop (k + p0.length) := by
  constructor
  · rintro ⟨u, v, h, rfl, hv⟩
    refine ⟨u.length, by rw [List.length_append]; omega, h.imp id (fun h => by rw [h]; rfl), ⟨v, (List.drop_left' rfl).symm⟩, ?_⟩
    rw [← List.drop_drop, List.drop_left' rfl, List.drop_left' rfl]
    exact hv
  · rintro ⟨k, hk, h, ⟨v, e⟩, hv⟩
    rw [← List.drop_drop, ← e, List.drop_left' rfl] at hv
    refine ⟨t.take k, v, h.imp id (fun h => by rw [h]; rfl), ?_, hv⟩
    rw [e, List.take_append_drop]
/-- with the end behind the second piece -/
def LangE (p0 p1 : List Nat) (fr : Bool) (t : List Nat) : Prop := ∃ u s, (fr = true ∨ u = []) ∧ t = u ++ (p0 ++ (s ++ p1))
theorem LangE.lang {p0 p1 : List Nat} {fr : Bool} {t : List Nat} (h : LangE p0 p1 fr t) : Lang p0 p1 fr t := by
  obtain ⟨u, s, h, e⟩ := h
  exact ⟨u, s ++ p1, h, e, (List.suffix_append _ _).isInfix⟩
theorem LangE.suffix {p0 p1 : List Nat} {fr : Bool} {t : List Nat} (h : LangE p0 p1 fr t) : p1 <:+ t := by
  obtain ⟨u, s, h, e⟩ := h
  exact ⟨u ++ (p0 ++ s), by rw [e]; simp⟩
theorem lang_end {p0 p1 : List Nat} {fr : Bool} {t : List Nat} (h : Lang p0 p1 fr t) (hn : ¬ Lang p0 p1 fr t.dropLast) : LangE p0 p1 fr t := by
  obtain ⟨u, v, h, rfl, a, b, rfl⟩ := h
  by_cases hb : b = []
  · subst hb
    exact ⟨u, a, h, by simp⟩
  · exfalso
    apply hn
    refine ⟨u, a ++ p1 ++ b.dropLast, h, ?_, ⟨a, b.dropLast, rfl⟩⟩
    have e : u ++ (p0 ++ (a ++ p1 ++ b)) = (u ++ (p0 ++ (a ++ p1))) ++ b := by simp
    rw [e, List.dropLast_append_of_ne_nil hb]
    simp
theorem starts_iff {y p : Str} : Txt.startswith y p = true ↔ lst p <+: lst y := by
  unfold Txt.startswith
  rw [Bool.and_eq_true, decide_eq_true_eq, at_iff, List.drop_zero]
  constructor
  · exact fun h => h.1
  · intro h
    refine ⟨h, ?_⟩
    have := h.length_le
    rw [lst_len, lst_len] at this
    omega
theorem ends_iff {y p : Str} : Txt.endswith y p = true ↔ lst p <:+ lst y := by
  unfold Txt.endswith
  have hl := lst_len y
  have hl' := lst_len p
  rw [Bool.and_eq_true, decide_eq_true_eq, subAt_eq, beq_iff_eq]
  show _ ∧ ((lst y).drop _).take _ = lst p ↔ _
  constructor
  · rintro ⟨h1, h⟩
    rw [List.take_of_length_le (by rw [List.length_drop]; omega)] at h
    exact ⟨(lst y).take (y.length - p.length), by rw [← h]; exact List.take_append_drop _ _⟩
  · rintro ⟨s, e⟩
    have := congrArg List.length e
    rw [List.length_append] at this
    refine ⟨by omega, ?_⟩
    rw [List.take_of_length_le (by rw [List.length_drop]; omega), ← e, List.drop_left']
    omega
theorem occ_head4 (x y : Str) (lo hi : Nat) : (occurrences x y lo hi 1 = [] ∧ ∀ i, lo ≤ i → ¬ At x y hi i) ∨ ∃ i r, occurrences x y lo hi 1 = i :: r ∧ lo ≤ i ∧ At x y hi i ∧ ∀ k, lo ≤ k → k < i → ¬ At x y hi k := by
  rw [occ_eq]
  rcases occ_first x y hi 1 (Nat.le_refl _) (List.range' lo (hi + 1 - lo)) lo (fun i hi => by have := List.mem_range'_1.mp hi; omega) with ⟨h0, hn⟩ | ⟨pre, a, post, e, h0, ha, hn⟩
  · refine .inl ⟨by rw [h0], fun i hlo hi => ?_⟩
    exact hn i (by have := hi.1; rw [List.mem_range'_1]; omega) hi
  · have hmem : a ∈ List.range' lo (hi + 1 - lo) := by rw [e]; exact List.mem_append_right _ (List.Mem.head _)
    have hlo := (List.mem_range'_1.mp hmem).1
    have before : ∀ k, lo ≤ k → k < a → k ∈ pre := by
      intro k h1 h2
      have hk : k ∈ List.range' lo (hi + 1 - lo) := by have := (List.mem_range'_1.mp hmem).2; rw [List.mem_range'_1]; omega
      have hs : (List.range' lo (hi + 1 - lo)).Pairwise (· < ·) := List.pairwise_lt_range'
      rw [e] at hk hs
      rcases List.mem_append.mp hk with h | h
      · exact h
      · rcases List.mem_cons.mp h with rfl | h
        · omega
        · have := (List.pairwise_cons.mp (List.pairwise_append.mp hs).2.1).1 k h
          omega
    generalize (forIn (List.range' lo (hi + 1 - lo)) ((#[] : Array Nat), lo) (occBody x y hi 1)).run.fst = arr at h0
    have h1 : arr.toList[0]? = some a := by simpa using h0
    cases hL : arr.toList with
    | nil => rw [hL] at h1; cases h1
    | cons b t =>
      rw [hL] at h1
      simp at h1
      subst h1
      exact .inr ⟨_, _, rfl, hlo, ha, fun k h2 h3 => hn k (before k h2 h3)⟩
theorem fromIndex_nonneg {n : Nat} {a : Int} (h : 0 ≤ a) : fromIndex n a = a.toNat := by
  unfold fromIndex
  rw [if_neg (by omega), Int.max_eq_right h]
theorem find4_spec (y p : Str) {a e : Int} (ha : 0 ≤ a) (he : 0 ≤ e ∧ e ≤ y.length) : (find4 y p a e < 0 ∧ ∀ i : Nat, a ≤ i → ¬ At y p e.toNat i) ∨ ∃ i : Nat, find4 y p a e = i ∧ a ≤ i ∧ At y p e.toNat i ∧ ∀ k : Nat, a ≤ k → k < i → ¬ At y p e.toNat k := by
  unfold find4
  rw [fromIndex_nonneg ha, fromIndex_nonneg he.1, Nat.min_eq_left (by omega)]
  rcases occ_head4 y p a.toNat e.toNat with ⟨h, hn⟩ | ⟨i, r, h, h1, h2, h3⟩
  · rw [h]
    exact .inl ⟨by decide, fun i hi => hn i (by omega)⟩
  · rw [h]
    exact .inr ⟨i, rfl, by omega, h2, fun k h4 h5 => h3 k (by omega) h5⟩
theorem at_list {y p : Str} {hi i : Nat} (hhi : hi ≤ y.length) : At y p hi i ↔ lst p <+: (lst y).drop i ∧ i + p.length ≤ hi := by
  unfold At
  have := at_iff y p i
  constructor
  · rintro ⟨h1, h2⟩
    exact ⟨(this.mp ⟨by omega, h2⟩).1, h1⟩
  · rintro ⟨h1, h2⟩
    exact ⟨h2, (this.mpr ⟨h1, by omega⟩).2⟩
theorem sE_len : sE.length = 0 := rfl
theorem find_empty (y : Str) {a e : Int} (ha : 0 ≤ a) (hae : a ≤ e) (he : e ≤ y.length) : find4 y sE a e = a := by
  have hat : At y sE e.toNat a.toNat := (at_list (by omega)).mpr ⟨List.nil_prefix, by rw [sE_len]; omega⟩
  rcases find4_spec y sE ha ⟨by omega, he⟩ with ⟨_, hn⟩ | ⟨i, h, h1, h2, h3⟩
  · exact absurd hat (hn a.toNat (by omega))
  · rw [h]
    have : ¬ a.toNat < i := fun h => h3 a.toNat (by omega) h hat
    omega
theorem go_cons (y : Str) (e : Int) (p : Str) (r : List Str) (s : Int) : emGo y e (p :: r) s = if find4 y p s e < 0 then none else emGo y e r (find4 y p s e + p.length) := rfl
/-- one piece sought from a on, dots behind it -/
theorem go_last (y p1 : Str) {a : Int} (ha : 0 ≤ a) (hp : 1 ≤ p1.length) : (emGo y y.length [p1, sE] a).isSome = true ↔ lst p1 <:+: (lst y).drop a.toNat := by
  rw [infix_iff, go_cons]
  rcases find4_spec y p1 ha (e := (y.length : Int)) ⟨by omega, Int.le_refl _⟩ with ⟨h, hn⟩ | ⟨i, h, h1, h2, h3⟩
  · rw [if_pos h]
    constructor
    · intro h; cases h
    · rintro ⟨j, hj⟩
      rw [List.drop_drop] at hj
      exact absurd ((at_list (by omega)).mpr ⟨hj, by rw [Int.toNat_natCast]; exact pre_room hp hj⟩) (hn (a.toNat + j) (by omega))
  · rw [Int.toNat_natCast] at h2
    have h4 := (at_list (Nat.le_refl _)).mp h2
    rw [h, if_neg (by omega), go_cons, find_empty y (by omega) (by omega) (by omega), if_neg (by omega)]
    refine ⟨fun _ => ⟨i - a.toNat, ?_⟩, fun _ => rfl⟩
    rw [List.drop_drop, show a.toNat + (i - a.toNat) = i by omega]
    exact h4.1
/-- a piece sought from the start, and more behind it -/
theorem go_first (y p0 : Str) (r : List Str) {e : Int} (he : 0 ≤ e ∧ e ≤ y.length) : (∃ i : Nat, lst p0 <+: (lst y).drop i ∧ i + p0.length ≤ e.toNat ∧ (∀ k : Nat, k < i → ¬ (lst p0 <+: (lst y).drop k ∧ k + p0.length ≤ e.toNat)) ∧ emGo y e (sE :: p0 :: r) 0 = emGo y e r ((i : Int) + p0.length)) ∨ ((∀ i : Nat, ¬ (lst p0 <+: (lst y).drop i ∧ i + p0.length ≤ e.toNat)) ∧ emGo y e (sE :: p0 :: r) 0 = none) := by
  rw [go_cons, find_empty y (Int.le_refl _) he.1 he.2, if_neg (by decide), sE_len]
  show _ ∨ (_ ∧ emGo y e (p0 :: r) 0 = none)
  have e2 : emGo y e (p0 :: r) (0 + ((0 : Nat) : Int)) = emGo y e (p0 :: r) 0 := rfl
  rw [e2, go_cons]
  rcases find4_spec y p0 (Int.le_refl 0) he with ⟨h, hn⟩ | ⟨i, h, h1, h2, h3⟩
  · rw [if_pos h]
    exact .inr ⟨fun i hi => hn i (by omega) ((at_list (by omega)).mpr hi), rfl⟩
  · rw [h, if_neg (by omega)]
    have h4 := (at_list (by omega)).mp h2
    exact .inl ⟨i, h4.1, h4.2, fun k hk hh => h3 k (by omega) hk ((at_list (by omega)).mpr hh), rfl⟩
theorem split_end {t p q : List Nat} : (p <+: t ∧ q <:+ t ∧ p.length + q.length ≤ t.length) ↔ ∃ s, t = p ++ (s ++ q) := by
  constructor
  · rintro ⟨⟨v, rfl⟩, ⟨w, e⟩, h⟩
    rw [List.length_append] at h
    have : q <:+ v := by
      refine List.suffix_of_suffix_length_le ⟨w, e⟩ (List.suffix_append _ _) (by omega)
    obtain ⟨s, rfl⟩ := this
    exact ⟨s, rfl⟩
  · rintro ⟨s, rfl⟩
    refine ⟨List.prefix_append _ _, ⟨p ++ s, by simp⟩, by simp⟩
section
variable {y p0 p1 : Str} (h0 : 1 ≤ p0.length) (h1 : 1 ≤ p1.length)
include h0 h1
theorem fA_iff : (Txt.startswith y p0 && decide ((p0.length : Int) ≤ y.length) && (emGo y y.length [p1, sE] p0.length).isSome) = true ↔ Lang (lst p0) (lst p1) false (lst y) := by
  rw [Bool.and_eq_true, Bool.and_eq_true, decide_eq_true_eq, starts_iff, go_last y p1 (by omega) h1, lang_iff, Int.toNat_natCast, ← lst_len p0]
  constructor
  · rintro ⟨⟨a, _⟩, b⟩
    exact ⟨0, Nat.zero_le _, .inr rfl, a, by rw [Nat.zero_add]; exact b⟩
  · rintro ⟨k, _, h | rfl, a, b⟩
    · cases h
    · rw [Nat.zero_add] at b
      rw [List.drop_zero] at a
      have := a.length_le
      rw [lst_len, lst_len] at this
      exact ⟨⟨a, by rw [lst_len]; omega⟩, b⟩
theorem fB_iff : (emGo y y.length [sE, p0, p1, sE] 0).isSome = true ↔ Lang (lst p0) (lst p1) true (lst y) := by
  rw [lang_iff]
  rcases go_first y p0 [p1, sE] (e := (y.length : Int)) ⟨by omega, Int.le_refl _⟩ with ⟨i, a, b, c, d⟩ | ⟨a, d⟩
  · rw [d, go_last y p1 (by omega) h1]
    rw [Int.toNat_natCast] at b c
    have e : ((i : Int) + p0.length).toNat = i + (lst p0).length := by rw [lst_len]; omega
    rw [e]
    constructor
    · intro h
      exact ⟨i, by rw [lst_len]; omega, .inl rfl, a, h⟩
    · rintro ⟨k, _, _, a', h⟩
      have hk : i ≤ k := Nat.le_of_not_lt fun hlt => c k hlt ⟨a', pre_room h0 a'⟩
      have : (lst y).drop (k + (lst p0).length) = ((lst y).drop (i + (lst p0).length)).drop (k - i) := by rw [List.drop_drop]; congr 1; omega
      rw [this] at h
      exact h.trans (List.drop_suffix _ _).isInfix
  · rw [d]
    constructor
    · intro h; cases h
    · rintro ⟨k, _, _, a', _⟩
      exact absurd ⟨a', by rw [Int.toNat_natCast]; exact pre_room h0 a'⟩ (a k)
theorem fC_iff : (Txt.startswith y p0 && Txt.endswith y p1 && decide ((p0.length : Int) + p1.length ≤ y.length)) = true ↔ LangE (lst p0) (lst p1) false (lst y) := by
  rw [Bool.and_eq_true, Bool.and_eq_true, decide_eq_true_eq, starts_iff, ends_iff]
  have e : ((p0.length : Int) + p1.length ≤ y.length) ↔ (lst p0).length + (lst p1).length ≤ (lst y).length := by rw [lst_len, lst_len, lst_len]; omega
  rw [e, and_assoc, split_end]
  constructor
  · rintro ⟨s, h⟩; exact ⟨[], s, .inr rfl, h⟩
  · rintro ⟨u, s, h | rfl, e⟩
    · cases h
    · exact ⟨s, e⟩
theorem fD_iff : (Txt.endswith y p1 && decide ((p1.length : Int) ≤ y.length) && (emGo y ((y.length : Int) - p1.length) [sE, p0] 0).isSome) = true ↔ LangE (lst p0) (lst p1) true (lst y) := by
  rw [Bool.and_eq_true, Bool.and_eq_true, decide_eq_true_eq, ends_iff]
  constructor
  · rintro ⟨⟨⟨w, e⟩, h⟩, hs⟩
    rcases go_first y p0 [] (e := (y.length : Int) - p1.length) ⟨by omega, by omega⟩ with ⟨i, a, b, _, _⟩ | ⟨_, d⟩
    · have hw : w.length = ((y.length : Int) - p1.length).toNat := by
        have := congrArg List.length e
        rw [List.length_append, lst_len, lst_len] at this
        omega
      rw [← hw] at b
      rw [← e, List.drop_append_of_le_length (by omega)] at a
      have : lst p0 <+: w.drop i := List.prefix_of_prefix_length_le a (List.prefix_append _ _) (by rw [List.length_drop, lst_len]; omega)
      obtain ⟨s, e3⟩ := this
      refine ⟨w.take i, s, .inl rfl, ?_⟩
      rw [← e]
      have : w = w.take i ++ (lst p0 ++ s) := by rw [e3, List.take_append_drop]
      conv => lhs; rw [this]
      simp
    · rw [d] at hs; cases hs
  · rintro ⟨u, s, _, e⟩
    have hl := congrArg List.length e
    simp only [List.length_append] at hl
    rw [lst_len, lst_len, lst_len] at hl
    refine ⟨⟨⟨u ++ (lst p0 ++ s), by rw [e]; simp⟩, by omega⟩, ?_⟩
    rcases go_first y p0 [] (e := (y.length : Int) - p1.length) ⟨by omega, by omega⟩ with ⟨i, a, b, _, d⟩ | ⟨hn, _⟩
    · rw [d]; rfl
    · exfalso
      refine hn u.length ⟨?_, by omega⟩
      show lst p0 <+: (lst y).drop _
      rw [e, List.drop_left' rfl]
      exact List.prefix_append _ _
/-- the places that are looked at -/
theorem due_iff {fr : Bool} : (!decide (List.filter (hit p0 p1 y) (spotKs fr ((y.length : Int) + 1)) = [])) = true ↔ Lang (lst p0) (lst p1) fr (lst y) := by
  have hk : ∀ k : Nat, k ≤ y.length → (hit p0 p1 y (k : Int) = true ↔ lst p0 <+: (lst y).drop k ∧ lst p1 <:+: (lst y).drop (k + (lst p0).length)) := by
    intro k hk
    have from_list : ∀ i : Nat, i ≤ y.length → lst (Txt.slice y (some (i : Int)) none) = (lst y).drop i := by
      intro i hi
      have h := sliceText_from (x := y) (i := (i : Int)) ⟨by omega, by have := lst_len y; unfold lst at this; omega⟩
      rw [show Txt.slice y (some (i : Int)) none = sliceText y (some (i : Int)) none from rfl, h]
      show ((lst y).drop (i : Int).toNat).take _ = _
      rw [List.take_of_length_le, Int.toNat_natCast]
      rw [List.length_drop]
      show (lst y).length - _ ≤ (((lst y).length : Int) - i).toNat
      omega
    unfold hit
    rw [Bool.and_eq_true, starts_iff, from_list k hk, found_iff]
    constructor
    · rintro ⟨a, j, b, c⟩
      have hr := pre_room h0 a
      have e : (k : Int) + p0.length = ((k + p0.length : Nat) : Int) := by omega
      rw [e] at b c
      have := ((at_iff _ p1 j).mp ⟨b, c⟩).1
      have fl := from_list (k + p0.length) hr
      unfold lst at fl
      rw [fl] at this
      refine ⟨a, infix_iff.mpr ⟨j, ?_⟩⟩
      rw [lst_len]
      exact this
    · rintro ⟨a, b⟩
      have hr := pre_room h0 a
      obtain ⟨j, b⟩ := infix_iff.mp b
      have e : (k : Int) + p0.length = ((k + p0.length : Nat) : Int) := by omega
      have fl := from_list (k + p0.length) hr
      rw [lst_len, ← fl] at b
      exact ⟨a, j, by rw [e]; exact (at_iff _ p1 j).mpr ⟨b, pre_room h1 b⟩⟩
  have hne : (!decide (List.filter (hit p0 p1 y) (spotKs fr ((y.length : Int) + 1)) = [])) = true ↔ ∃ k ∈ spotKs fr ((y.length : Int) + 1), hit p0 p1 y k = true := by
    rw [Bool.not_eq_true', decide_eq_false_iff_not]
    constructor
    · intro h
      obtain ⟨k, hk⟩ := List.exists_mem_of_ne_nil _ h
      exact ⟨k, List.mem_filter.mp hk⟩
    · rintro ⟨k, hk⟩ h
      have := List.mem_filter.mpr hk
      rw [h] at this
      cases this
  rw [hne, lang_iff]
  constructor
  · rintro ⟨k, hm, hh⟩
    obtain ⟨k', rfl, hk', hf⟩ : ∃ k' : Nat, k = (k' : Int) ∧ k' ≤ y.length ∧ (fr = true ∨ k' = 0) := by
      cases fr with
      | true =>
        have := mem_rangeKs hm
        exact ⟨k.toNat, by omega, by omega, .inl rfl⟩
      | false =>
        rw [List.mem_singleton.mp hm]
        exact ⟨0, rfl, Nat.zero_le _, .inr rfl⟩
    have := (hk k' hk').mp hh
    exact ⟨k', by rw [lst_len]; exact hk', hf, this⟩
  · rintro ⟨k, hk', hf, a⟩
    rw [lst_len] at hk'
    refine ⟨(k : Int), ?_, (hk k hk').mpr a⟩
    cases fr with
    | true => exact List.mem_map.mpr ⟨k, List.mem_range.mpr (by omega), by omega⟩
    | false =>
      rcases hf with h | rfl
      · cases h
      · exact List.Mem.head _
end
end Mine
end

-- part PL7
section
open PySem PySem.W PyProof.Rows PySem.Calls
set_option Elab.async false
set_option maxRecDepth 100000
namespace Mine
open StrLaws (dbl)
structure PHyp (x le : Str) (gs : List Int) (p0 p1 : Str) (fr : Bool) (lo : List (Option Str)) (f1 f2 : Str → Bool) : Prop where
  S : Set2 le gs (lst p0) (lst p1) fr
  hx : x.length = 5
  xs : 35 ∉ lst x
  ps : 35 ∉ lst p0 ++ lst p1
  pz : 122 ∉ lst p1
  hf1 : ∀ y, f1 y = true ↔ LangE (lst p0) (lst p1) fr (lst y)
  hf2 : ∀ y, f2 y = true ↔ Lang (lst p0) (lst p1) fr (lst y)
  lo6 : lo.length = 6
  hlo : ∀ k, k < 6 → lo.getD k none = lackF le gs ((lst x).take k)
theorem lst_inj {a b : Str} (h : lst a = lst b) : a = b := by
  have := congrArg toS h
  rwa [toS_list, toS_list] at this
theorem xk_list {x : Str} (hx : x.length = 5) {k : Nat} (hk : k < 6) : lst (xk x k) = (lst x).take k := by
  have h1 := StrLaws.sliceText_to (x := x) (j := (k : Int)) ⟨by omega, by have := lst_len x; unfold lst at this; omega⟩
  unfold xk
  rw [show Txt.slice x none (some (k : Int)) = StrLaws.sliceText x none (some (k : Int)) from rfl, h1]
  show ((lst x).drop 0).take _ = _
  rw [List.drop_zero]
  congr 1
theorem cut_list {r : Str} (hr : lst r ≠ []) : lst (Txt.slice r none (some (-1))) = (lst r).dropLast := by
  have hl := lst_len r
  have hp := List.length_pos_iff.mpr hr
  have h1 := StrLaws.sliceText_to_neg (x := r) (j := -1) (by decide) (by omega)
  rw [show Txt.slice r none (some (-1)) = StrLaws.sliceText r none (some (-1)) from rfl, h1]
  show ((lst r).drop 0).take _ = _
  rw [List.drop_zero, List.dropLast_eq_take]
  congr 1
  omega
theorem told_list (a r : Str) : lst (told (q257 ++ a ++ r)) = scan (lst a ++ lst r) := by
  rw [told_cat]
  unfold tell
  show scan (a ++ r).cps.toList = _
  rw [Str.cps_append, Array.toList_append]
theorem mem_beh {r : Str} : ∀ (lo : List (Option Str)) (b : List Str), r ∈ lo.foldl behStep b ↔ r ∈ b ∨ some r ∈ lo
  | [], b => by simp
  | o :: lo, b => by
    rw [List.foldl_cons, mem_beh lo]
    cases o with
    | none => simp [behStep]
    | some q =>
      show r ∈ (if b.contains q = true then b else b ++ [q]) ∨ _ ↔ _
      by_cases h : b.contains q = true
      · rw [if_pos h]
        have hq : q ∈ b := by simpa using h
        simp only [List.mem_cons, Option.some.injEq]
        constructor
        · rintro (h | h); exact .inl h; exact .inr (.inr h)
        · rintro (h | rfl | h); exact .inl h; exact .inl hq; exact .inr h
      · rw [if_neg h]
        simp only [List.mem_append, List.mem_cons, List.not_mem_nil, or_false, Option.some.injEq]
        constructor
        · rintro ((h | h) | h); exact .inl h; exact .inr (.inl h); exact .inr (.inr h)
        · rintro (h | h | h); exact .inl (.inl h); exact .inl (.inr h); exact .inr h
theorem mem_behind {r : Str} {lo : List (Option Str)} : r ∈ behindF lo ↔ some r ∈ lo := by
  unfold behindF
  rw [mem_beh]
  simp
theorem mem_dbl {c : Nat} : ∀ l : List Nat, c ∈ dbl 34 l → c ∈ l
  | [], h => h
  | k :: l, h => by
    by_cases hk : k = 34
    · subst hk
      rw [dbl_q] at h
      rcases List.mem_cons.mp h with rfl | h
      · exact List.Mem.head _
      rcases List.mem_cons.mp h with rfl | h
      · exact List.Mem.head _
      · exact List.mem_cons_of_mem _ (mem_dbl l h)
    · rw [dbl_n _ hk] at h
      rcases List.mem_cons.mp h with rfl | h
      · exact List.Mem.head _
      · exact List.mem_cons_of_mem _ (mem_dbl l h)
theorem len_dbl : ∀ l : List Nat, (dbl 34 l).length ≤ 2 * l.length
  | [] => Nat.le_refl _
  | k :: l => by
    have := len_dbl l
    by_cases hk : k = 34
    · subst hk; rw [dbl_q]; simp only [List.length_cons]; omega
    · rw [dbl_n _ hk]; simp only [List.length_cons]; omega
section
variable {x le wanted p0 p1 : Str} {gs : List Int} {fr : Bool} {lo : List (Option Str)} {f1 f2 : Str → Bool}
theorem PHyp.lack (P : PHyp x le gs p0 p1 fr lo f1 f2) {k : Nat} (hk : k < 6) : LackIs le gs (lst p0) (lst p1) fr ((lst x).take k) ((lo.getD k none).map fun y => y.cps.toList) := by
  rw [P.hlo k hk]
  exact lack_is P.S _
theorem PHyp.lackSome (P : PHyp x le gs p0 p1 fr lo f1 f2) {k : Nat} (hk : k < 6) {r : Str} (h : lo.getD k none = some r) : LackIs le gs (lst p0) (lst p1) fr ((lst x).take k) (some (lst r)) := by
  have := P.lack hk
  rw [h] at this
  exact this
theorem lang_pacc (S : Set2 le gs (lst p0) (lst p1) fr) (y r : List Nat) : Lang (lst p0) (lst p1) fr (scan (y ++ r)) ↔ PAcc (lst p0) (lst p1) fr (plc le gs y) (cont (stOf y) r) := by
  rw [scan_cat, ← acc_lang S.h0 S.h1, (run_is S y).acc]
theorem PHyp.f2_iff (P : PHyp x le gs p0 p1 fr lo f1 f2) {k : Nat} (hk : k < 6) (r : Str) : f2 (told (q257 ++ xk x k ++ r)) = true ↔ PAcc (lst p0) (lst p1) fr (plc le gs ((lst x).take k)) (cont (stOf ((lst x).take k)) (lst r)) := by
  rw [P.hf2, told_list, xk_list P.hx hk, lang_pacc P.S]
theorem PHyp.mem (P : PHyp x le gs p0 p1 fr lo f1 f2) {r : Str} (h : r ∈ behindF lo) : ∃ k, k < 6 ∧ lo.getD k none = some r := by
  obtain ⟨k, hk, e⟩ := List.getElem_of_mem (mem_behind.mp h)
  refine ⟨k, by rw [← P.lo6]; exact hk, ?_⟩
  rw [List.getD_eq_getElem?_getD, List.getElem?_eq_getElem hk, e]; rfl
theorem PHyp.mem' (P : PHyp x le gs p0 p1 fr lo f1 f2) {k : Nat} (hk : k < 6) {r : Str} (h : lo.getD k none = some r) : r ∈ behindF lo := by
  rw [mem_behind, ← h]
  exact getD_mem' P.lo6 hk
theorem PHyp.letters (P : PHyp x le gs p0 p1 fr lo f1 f2) {r : Str} (h : r ∈ behindF lo) : 35 ∉ lst r ∧ (lst r).length ≤ 9 := by
  obtain ⟨k, hk, e⟩ := P.mem h
  have L := P.lackSome hk e
  have hN : (lst p0 ++ lst p1).length ≤ 4 := by rw [List.length_append]; have := P.S.l0; have := P.S.l1; omega
  have hd : ∀ p, 35 ∉ dbl 34 ((lst p0 ++ lst p1).drop p) ∧ (dbl 34 ((lst p0 ++ lst p1).drop p)).length ≤ 8 := by
    intro p
    refine ⟨fun h => P.ps (List.mem_of_mem_drop (mem_dbl _ h)), ?_⟩
    have h1 := len_dbl ((lst p0 ++ lst p1).drop p)
    rw [List.length_drop] at h1
    omega
  generalize hq : lst r = q at L
  cases L with
  | done _ => exact ⟨by simp, by simp⟩
  | opn p _ _ _ _ => exact ⟨(hd p).1, by have := (hd p).2; omega⟩
  | hlf p _ _ _ _ =>
    refine ⟨fun h => ?_, by have := (hd p).2; rw [List.length_cons]; omega⟩
    rcases List.mem_cons.mp h with h | h
    · cases h
    · exact (hd p).1 h
/-! the rows -/
def cdB (b : Bool) : Nat := if b = true then 121 else 110
theorem yn_list (b : Bool) : lst (yn b) = [cdB b] := by cases b <;> decide +kernel
theorem row_list (g : Str → Bool) : ∀ (l : List Str) (a : Str), lst (l.foldl (fun a r => a ++ yn (g r)) a) = lst a ++ l.map fun r => cdB (g r)
  | [], a => by simp
  | r :: l, a => by
    rw [List.foldl_cons, row_list g l]
    show (a ++ yn (g r)).cps.toList ++ _ = _
    rw [Str.cps_append, Array.toList_append]
    show lst a ++ lst (yn (g r)) ++ _ = _
    rw [yn_list, List.append_assoc]; rfl
theorem rowF_list (g : Str → Bool) (l : List Str) : lst (rowF g l) = l.map fun r => cdB (g r) := by
  unfold rowF
  rw [row_list]
  show (Str.ofString "").cps.toList ++ _ = _
  rw [empty_list, List.nil_append]
theorem cdB_inj {a b : Bool} (h : cdB a = cdB b) : a = b := by revert h; cases a <;> cases b <;> decide
theorem PHyp.row_of_lack (P : PHyp x le gs p0 p1 fr lo f1 f2) {j k : Nat} (hj : j < 6) (hk : k < 6) (h : lo.getD j none = lo.getD k none) : rowK x lo f2 j = rowK x lo f2 k := by
  apply lst_inj
  unfold rowK
  rw [rowF_list, rowF_list]
  refine List.map_congr_left fun r _ => congrArg cdB ?_
  rw [Bool.eq_iff_iff, P.f2_iff hj, P.f2_iff hk]
  have Lj := P.lack hj
  have Lk := P.lack hk
  rw [h] at Lj
  exact ⟨lack_same P.S Lj Lk _, lack_same P.S Lk Lj _⟩
theorem PHyp.lack_of_row (P : PHyp x le gs p0 p1 fr lo f1 f2) {j k : Nat} (hj : j < 6) (hk : k < 6) (h : rowK x lo f2 j = rowK x lo f2 k) : lo.getD j none = lo.getD k none := by
  have hr : ∀ r ∈ behindF lo, f2 (told (q257 ++ xk x j ++ r)) = f2 (told (q257 ++ xk x k ++ r)) := by
    intro r hm
    have := congrArg lst h
    unfold rowK at this
    rw [rowF_list, rowF_list] at this
    exact cdB_inj (List.map_inj_left.mp this r hm)
  have go : ∀ {a b : Nat}, a < 6 → b < 6 → (∀ r ∈ behindF lo, f2 (told (q257 ++ xk x a ++ r)) = f2 (told (q257 ++ xk x b ++ r))) → ∀ r, lo.getD a none = some r → PAcc (lst p0) (lst p1) fr (plc le gs ((lst x).take b)) (cont (stOf ((lst x).take b)) (lst r)) := by
    intro a b ha hb hr r e
    have := hr r (P.mem' ha e)
    rw [← P.f2_iff hb, ← this, P.f2_iff ha]
    exact lack_good P.S (P.lackSome ha e)
  have no : ∀ {a : Nat}, a < 6 → lo.getD a none = none → ∀ r, ¬ PAcc (lst p0) (lst p1) fr (plc le gs ((lst x).take a)) (cont (stOf ((lst x).take a)) r) := by
    intro a ha e r h
    have L := P.lack ha
    rw [e] at L
    cases L with
    | none _ hn => exact hn r h
  cases ej : lo.getD j none with
  | none =>
    cases ek : lo.getD k none with
    | none => rfl
    | some r => exact absurd (go hk hj (fun r hm => (hr r hm).symm) r ek) (no hj ej _)
  | some q =>
    have a1 := go hj hk hr q ej
    cases ek : lo.getD k none with
    | none => exact absurd a1 (no hk ek _)
    | some r =>
      have a2 := go hk hj (fun r hm => (hr r hm).symm) r ek
      have h1 := lack_least P.S (P.lackSome hj ej) a2
      have h2 := lack_least P.S (P.lackSome hk ek) a1
      rw [lst_inj (h1.2 (by omega))]
theorem up_cd (b : Bool) : lo1 (up1 (cdB b)) = cdB b ∧ lo1 (cdB b) = cdB b ∧ up1 (cdB b) = cdB b - 32 := by cases b <;> decide
theorem cd_ascii (b : Bool) : cdB b < 128 ∧ up1 (cdB b) < 128 := by cases b <;> decide
theorem row_ascii (g : Str → Bool) (l : List Str) : ∀ c ∈ (rowF g l).cps.toList, c < 128 := by
  intro c hc
  have hc : c ∈ lst (rowF g l) := hc
  rw [rowF_list] at hc
  obtain ⟨r, _, rfl⟩ := List.mem_map.mp hc
  exact (cd_ascii _).1
theorem upper_list (g : Str → Bool) (l : List Str) : lst (Txt.upper (rowF g l)) = l.map fun r => up1 (cdB (g r)) := by
  rw [upper_ascii (row_ascii g l)]
  show ((rowF g l).cps.map up1).toList = _
  rw [Array.toList_map]
  show (lst (rowF g l)).map up1 = _
  rw [rowF_list, List.map_map]; rfl
theorem lower_row (g : Str → Bool) (l : List Str) : Txt.lower (rowF g l) = rowF g l := by
  apply lst_inj
  rw [lower_ascii (row_ascii g l)]
  show ((rowF g l).cps.map lo1).toList = _
  rw [Array.toList_map]
  show (lst (rowF g l)).map lo1 = _
  rw [rowF_list, List.map_map]
  exact List.map_congr_left fun r _ => (up_cd _).2.1
theorem lower_upper (g : Str → Bool) (l : List Str) : Txt.lower (Txt.upper (rowF g l)) = rowF g l := by
  apply lst_inj
  have ha : ∀ c ∈ (Txt.upper (rowF g l)).cps.toList, c < 128 := by
    intro c hc
    have hc : c ∈ lst (Txt.upper (rowF g l)) := hc
    rw [upper_list] at hc
    obtain ⟨r, _, rfl⟩ := List.mem_map.mp hc
    exact (cd_ascii _).2
  rw [lower_ascii ha]
  show ((Txt.upper (rowF g l)).cps.map lo1).toList = _
  rw [Array.toList_map]
  show (lst (Txt.upper (rowF g l))).map lo1 = _
  rw [upper_list, rowF_list, List.map_map]
  exact List.map_congr_left fun r _ => (up_cd _).1
theorem lower_name (k : Nat) : Txt.lower (nameK x lo f2 k) = rowK x lo f2 k := by
  unfold nameK rowK
  split
  · exact lower_row _ _
  · exact lower_upper _ _
theorem PHyp.idx (P : PHyp x le gs p0 p1 fr lo f1 f2) {k : Nat} (hk : k < 6) : idxK lo k ≤ k ∧ lo.getD (idxK lo k) none = lo.getD k none ∧ ∀ j, j < idxK lo k → lo.getD j none ≠ lo.getD k none := by
  have hm := getD_mem' P.lo6 hk
  have hlt := List.idxOf_lt_length_iff.mpr hm
  unfold idxK
  have hfirst : ∀ j, j < lo.idxOf (lo.getD k none) → lo.getD j none ≠ lo.getD k none := by
    intro j hj e
    have := List.not_of_lt_findIdx (p := (· == lo.getD k none)) (xs := lo) hj
    rw [List.getD_eq_getElem?_getD, List.getElem?_eq_getElem (by omega), Option.getD_some] at e
    rw [e] at this
    simp at this
  refine ⟨Nat.le_of_not_lt fun h => hfirst k h rfl, ?_, hfirst⟩
  rw [List.getD_eq_getElem?_getD, List.getElem?_eq_getElem hlt, Option.getD_some, List.getElem_idxOf hlt]
theorem PHyp.g4 (P : PHyp x le gs p0 p1 fr lo f1 f2) {k : Nat} (hk : k < 6) : (∃ r, sdF (firstsF x lo f2 k) (Txt.lower (nameK x lo f2 k)) = some r ∧ r = strK (idxK lo k) ∧ (idxK lo k == k) = false) ∨ (sdF (firstsF x lo f2 k) (Txt.lower (nameK x lo f2 k)) = none ∧ (idxK lo k == k) = true) := by
  obtain ⟨hle, heq, hfst⟩ := P.idx hk
  rw [lower_name]
  unfold sdF firstsF
  by_cases e : idxK lo k = k
  · refine .inr ⟨?_, by simp [e]⟩
    rw [Option.map_eq_none_iff, List.find?_eq_none]
    intro q hq
    obtain ⟨j, hj, rfl⟩ := List.mem_map.mp hq
    have hj := List.mem_range.mp (List.mem_filter.mp hj).1
    dsimp only
    rw [lower_name]
    intro h
    exact hfst j (by omega) (P.lack_of_row (by omega) hk (eq_of_beq h))
  · refine .inl ⟨_, ?_, rfl, by simp [e]⟩
    have hlt : idxK lo k < k := by omega
    rw [Option.map_eq_some_iff]
    refine ⟨(nameK x lo f2 (idxK lo k), strK (idxK lo k)), ?_, rfl⟩
    rw [List.find?_map, Option.map_eq_some_iff]
    refine ⟨idxK lo k, ?_, rfl⟩
    rw [List.find?_eq_some_iff_getElem]
    refine ⟨?_, ?_⟩
    · show (Txt.lower (nameK x lo f2 (idxK lo k)) == _) = true
      rw [lower_name, P.row_of_lack (by omega) hk heq]
      exact beq_self_eq_true _
    · have hself : idxK lo (idxK lo k) = idxK lo k := by
        show lo.idxOf (lo.getD (idxK lo k) none) = _
        rw [heq]; rfl
      have hmem : idxK lo k ∈ (List.range k).filter fun j => idxK lo j == j := List.mem_filter.mpr ⟨List.mem_range.mpr hlt, by simp [hself]⟩
      obtain ⟨i, hi, ei⟩ := List.getElem_of_mem hmem
      refine ⟨i, hi, ei, ?_⟩
      intro j hj
      have hs : ((List.range k).filter fun j => idxK lo j == j).Pairwise (· < ·) := List.Pairwise.filter _ List.pairwise_lt_range
      have hjlt := List.pairwise_iff_getElem.mp hs j i (by omega) hi hj
      rw [ei] at hjlt
      show (!(Txt.lower (nameK x lo f2 _) == _)) = true
      rw [lower_name, Bool.not_eq_true', beq_eq_false_iff_ne]
      intro h
      exact hfst _ hjlt (P.lack_of_row (by omega) hk h)
theorem PHyp.khyp (P : PHyp x le gs p0 p1 fr lo f1 f2) : KHyp x wanted p0 p1 lo f1 f2 fr := by
  have hp0 : 1 ≤ p0.length := by rw [← lst_len]; exact List.length_pos_iff.mpr P.S.h0
  have hp1 : 1 ≤ p1.length := by rw [← lst_len]; exact List.length_pos_iff.mpr P.S.h1
  have pl : ∀ k, k < 6 → ∀ r ∈ behindF lo, told (q257 ++ xk x k ++ r) = plain (xk x k ++ r) := by
    intro k hk r hr
    rw [told_cat, plain_is]
    rw [Str.cps_append, Array.toList_append]
    intro h
    rcases List.mem_append.mp h with h | h
    · have h : 35 ∈ lst (xk x k) := h
      rw [xk_list P.hx hk] at h
      exact P.xs (List.mem_of_mem_take h)
    · exact (P.letters hr).1 h
  have behlen : (behindF lo).length ≤ 6 := by
    have := beh_len lo []
    rw [P.lo6] at this
    unfold behindF
    simpa using this
  refine { l := ?_, g1 := ?_, g2 := ?_, g3 := ?_, g4 := fun k hk => P.g4 hk, n1 := ?_, n2 := ?_ }
  · intro r hr
    have := (P.letters hr).2
    rw [lst_len] at this
    omega
  · intro k hk r hr
    rw [pl k hk r hr]
    simp
  · intro k hk r hr
    rw [bne_eq_false_iff_eq, Bool.eq_iff_iff, P.hf2, due_iff hp0 hp1, pl k hk r hr]
  · intro k hk r hr
    cases e : lo.getD k none with
    | none => exact .inl rfl
    | some q =>
      by_cases hq : q = r
      · subst hq
        have eq : (some q == some q) = true := by simp
        by_cases h0 : lst q = []
        · refine .inr (.inl ⟨eq, ?_⟩)
          rw [bne_eq_false_iff_eq]
          exact lst_inj (h0.trans empty_list.symm)
        · have L := P.lackSome hk e
          have hcut := cut_list h0
          have nl : ¬ Lang (lst p0) (lst p1) fr (scan ((lst x).take k ++ (lst q).dropLast)) := by
            rw [lang_pacc P.S]
            intro h
            have := (lack_least P.S L h).1
            rw [List.length_dropLast] at this
            have := List.length_pos_iff.mpr h0
            omega
          have yl : Lang (lst p0) (lst p1) fr (scan ((lst x).take k ++ lst q)) := by
            rw [lang_pacc P.S]
            exact lack_good P.S L
          have ye : LangE (lst p0) (lst p1) fr (scan ((lst x).take k ++ lst q)) := by
            refine lang_end yl ?_
            rw [← lack_cut L h0]
            exact nl
          have ne0 : (q != Str.ofString "") = true := by
            rw [bne_iff_ne]; rintro rfl; exact h0 empty_list
          refine .inr (.inr ⟨eq, ne0, ?_, ?_, ?_, ?_⟩)
          · rw [bne_eq_false_iff_eq, P.hf1, told_list, xk_list P.hx hk]
            exact ye
          · rw [bne_eq_false_iff_eq, Bool.eq_false_iff, ne_eq, P.hf1]
            intro h
            have hs := h.suffix
            have ez : lst (told (q257 ++ xk x k ++ q) ++ Str.ofString "z") = lst (told (q257 ++ xk x k ++ q)) ++ [122] := by
              show (_ ++ Str.ofString "z").cps.toList = _
              rw [Str.cps_append, Array.toList_append]
              congr 1
            rw [ez] at hs
            obtain ⟨a, ha⟩ := hs
            have hg := congrArg List.getLast? ha
            rw [List.getLast?_append, List.getLast?_concat] at hg
            cases hp : (lst p1).getLast? with
            | none => exact P.S.h1 (List.getLast?_eq_none_iff.mp hp)
            | some z =>
              rw [hp, Option.some_or] at hg
              rw [hg] at hp
              exact P.pz (List.mem_of_getLast? hp)
          · rw [bne_eq_false_iff_eq, Bool.eq_false_iff, ne_eq, P.hf1, told_list, xk_list P.hx hk, hcut]
            exact fun h => nl h.lang
          · rw [bne_eq_false_iff_eq, Bool.eq_false_iff, ne_eq, P.hf2, told_list, xk_list P.hx hk, hcut]
            exact nl
      · refine .inl ?_
        rw [beq_eq_false_iff_ne]
        intro h
        exact hq (Option.some.inj h)
  · intro k hk
    have nt : NameT (rowK x lo f2 k) := by
      intro c hc
      have hc : c ∈ lst (rowF _ _) := hc
      rw [rowF_list] at hc
      obtain ⟨r, _, rfl⟩ := List.mem_map.mp hc
      generalize f2 _ = b
      cases b <;> decide
    have rl : (rowK x lo f2 k).length ≤ 6 := by
      rw [← lst_len]
      unfold rowK
      rw [rowF_list, List.length_map]
      exact behlen
    refine ⟨?_, by rw [lower_name]; exact nt, ?_, rl⟩
    · unfold nameK
      split
      · exact nt
      · intro c hc
        have hc : c ∈ lst (Txt.upper (rowF _ _)) := hc
        rw [upper_list] at hc
        obtain ⟨r, _, rfl⟩ := List.mem_map.mp hc
        generalize f2 _ = b
        cases b <;> decide
    · unfold nameK
      split
      · omega
      · rw [← lst_len]
        unfold rowK
        rw [upper_list, List.length_map]
        omega
  · intro k hk
    have : ∀ k, k < 6 → ((strK k).cps.toList.all fun c => decide (48 ≤ c ∧ c ≤ 53)) = true ∧ (strK k).length ≤ 20 := by decide +kernel
    obtain ⟨h1, h2⟩ := this k hk
    refine ⟨fun c hc => ?_, h2⟩
    exact of_decide_eq_true (List.all_eq_true.mp h1 c hc)
end
end Mine
end

-- part PL8
section
open PySem PySem.W PyProof.Rows PySem.Calls
set_option Elab.async false
set_option maxRecDepth 100000
namespace Mine
open StrLaws Builtin.Str
/-! the law's own texts -/
def IsSigns (y : Str) : Prop := y = Str.ofString "ab" ∨ y = Str.ofString "a " ∨ y = Str.ofString "(7" ∨ y = Str.ofString "\n:"
theorem signs_len {y : Str} (h : IsSigns y) : y.length = 2 := by
  rcases h with rfl | rfl | rfl | rfl <;> decide +kernel
theorem q_len : Str.length (Str.ofString "\"") = 1 := by decide +kernel
theorem qs_len {y : Str} (h : IsSigns y) : (Str.ofString "\"" ++ y).length = 3 := by rw [Str.length_append, q_len, signs_len h]
/-- the menu of the text's signs -/
abbrev menuT (y : Str) : Str := Str.ofString "\"\"" ++ Txt.slice (Str.ofString "\"" ++ y) (some 1) none ++ Str.ofString "z"
theorem menu_ok {y : Str} (h : IsSigns y) : (menuT y).length = 5 ∧ 35 ∉ lst (menuT y) := by
  rcases h with rfl | rfl | rfl | rfl <;> decide +kernel
def TxtIs (tt : Str) (k : Int) (v : Value) : Prop := ∃ t, v = .str (Txt.item tt (k.fmod 5)) t
theorem txt_strs {tt : Str} {ks : List Int} {vs : List Value} (h : All2 (TxtIs tt) ks vs) : StrsAre vs (ks.map fun k => Txt.item tt (k.fmod 5)) := by
  induction h with
  | nil => exact .nil
  | cons a _ ih => obtain ⟨t, rfl⟩ := a; exact .cons _ _ ih
theorem join_ones : ∀ (ys : List Str), (∀ y ∈ ys, y.length = 1) → (Str.join (Str.ofString "") ys).length = ys.length ∧ ∀ c ∈ lst (Str.join (Str.ofString "") ys), ∃ y ∈ ys, c ∈ lst y
  | [], _ => ⟨rfl, fun c hc => by cases hc⟩
  | [y], h => ⟨h y (List.Mem.head _), fun c hc => ⟨y, List.Mem.head _, hc⟩⟩
  | y :: z :: r, h => by
    obtain ⟨h1, h2⟩ := join_ones (z :: r) (fun q hq => h q (List.mem_cons_of_mem _ hq))
    have e0 : (Str.ofString "").length = 0 := by decide +kernel
    constructor
    · show (y ++ Str.ofString "" ++ Str.join (Str.ofString "") (z :: r)).length = _
      rw [Str.length_append, Str.length_append, h1, h y (List.Mem.head _), e0]
      simp only [List.length_cons]; omega
    · intro c hc
      have e := join_cons (Str.ofString "") y z r
      unfold lst at hc
      rw [e, empty_list, List.nil_append] at hc
      rcases List.mem_append.mp hc with hc | hc
      · exact ⟨y, List.Mem.head _, hc⟩
      · obtain ⟨q, hq, hc⟩ := h2 c hc
        exact ⟨q, List.mem_cons_of_mem _ hq, hc⟩
theorem join_text {prog : Program} {w : World} {A : Around} {E : Value → Shared → Prop} {s : Shared} {t : Tok} {D : Addr} {tt : Str} {ks : List Int} {ys : List Value} {Q : Value → Shared → Prop} (hl : s.heap.IsList D ys.toArray) (ha : All2 (TxtIs tt) ks ys) (hk : ks.length = 5) (ht : tt.length = 5)
    (h : ∀ X t' k, X.length = 5 → (∀ c ∈ lst X, c ∈ lst tt) → Q (.str X t') { s with toks := k }) : wpAny (model prog w) A (call (.builtin "str.join") [.str (Str.ofString "") t, .ref D]) Q E s := by
  have one : ∀ y ∈ ks.map fun k => Txt.item tt (k.fmod 5), y.length = 1 := by
    intro y hy
    obtain ⟨k, _, rfl⟩ := List.mem_map.mp hy
    rfl
  have hsum : ∀ l : List Str, (∀ y ∈ l, y.length = 1) → (l.map (·.length)).sum = l.length := by
    intro l hl
    induction l with
    | nil => rfl
    | cons a r ih => rw [List.map_cons, List.sum_cons, hl a (List.Mem.head _), ih (fun y hy => hl y (List.mem_cons_of_mem _ hy)), List.length_cons]; omega
  have e0 : (Str.ofString "").length = 0 := by decide +kernel
  refine join_list hl (by rw [List.toList_toArray]; exact txt_strs ha) (by rw [hsum _ one, List.length_map, hk, e0]; decide) ?_
  intro t' k
  obtain ⟨h1, h2⟩ := join_ones _ one
  have e : Txt.join (Str.ofString "") (ks.map fun k => Txt.item tt (k.fmod 5)) = Str.join (Str.ofString "") (ks.map fun k => Txt.item tt (k.fmod 5)) := glued_eq_join _ _
  rw [e]
  refine h _ _ _ (by rw [h1, List.length_map, hk]) ?_
  intro c hc
  obtain ⟨y, hy, hc⟩ := h2 c hc
  obtain ⟨k, _, rfl⟩ := List.mem_map.mp hy
  have b0 : 0 ≤ k.fmod 5 := Int.fmod_nonneg_of_pos _ (by decide)
  have b1 : k.fmod 5 < 5 := Int.fmod_lt_of_pos _ (by decide)
  obtain ⟨d, e1, e2⟩ := item_at (x := tt) b0 (by omega)
  rw [e2] at hc
  have hcd : c = d := List.mem_singleton.mp hc
  subst hcd
  have : c ∈ List.drop (k.fmod 5).toNat tt.cps.toList := by rw [e1]; exact List.Mem.head _
  exact List.mem_of_mem_drop this
/-- a piece: one or two signs, none of them #, . or z -/
def PieceOK (P : Str) : Prop := 1 ≤ P.length ∧ P.length ≤ 2 ∧ 35 ∉ lst P ∧ 122 ∉ lst P ∧ 46 ∉ lst P
theorem piece_ok {y : Str} (h : IsSigns y) {i : Int} (h0 : 0 ≤ i) (h1 : i < 12) : PieceOK (pieceS (Str.ofString "\"" ++ y) i) := by
  have e : i = 0 ∨ i = 1 ∨ i = 2 ∨ i = 3 ∨ i = 4 ∨ i = 5 ∨ i = 6 ∨ i = 7 ∨ i = 8 ∨ i = 9 ∨ i = 10 ∨ i = 11 := by omega
  rcases h with rfl | rfl | rfl | rfl <;> rcases e with rfl | rfl | rfl | rfl | rfl | rfl | rfl | rfl | rfl | rfl | rfl | rfl <;> (unfold PieceOK; decide +kernel)
theorem Con.mono {w : World} {f : Addr} {news : List (Addr × Obj)} {vs : List Value} {dd uu : Nat} {post post' : Value → List (Addr × Obj) → Prop} (C : Con w f news vs dd uu post) (h : ∀ v n, post v n → post' v n) : Con w f news vs dd uu post' :=
  fun p loose mean mg mb dp un gd cn cs a ccd cl outer A₀ base h₀ L m s Q E B F X N T hk hd hu hret => C p loose mean mg mb dp un gd cn cs a ccd cl outer A₀ base h₀ L m s Q E B F X N T hk hd hu fun v n h' tk' hp => hret v n h' tk' (h v n hp)
theorem piece_con2 (w : World) (news : List (Addr × Obj)) {y : Str} (hy : IsSigns y) (tx ti : Tok) (i : Int) (h0 : 0 ≤ i) (h1 : i < 12) :
    Con w 226 news [.int i ti, .str (Str.ofString "\"" ++ y) tx] 1 8 (fun v news' => (∃ P t, v = .str P t ∧ PieceOK P) ∧ news' = news) :=
  (piece_con w news _ tx ti i (qs_len hy) h0 h1).mono fun v n ⟨⟨t, e⟩, hn⟩ => ⟨⟨_, t, e, piece_ok hy h0 h1⟩, hn⟩
/-- what lacks behind the first k signs -/
def LackT (le : Str) (gs : List Int) (X : Str) (k : Int) (v : Value) : Prop := OptStr (lackF le gs (Txt.slice X none (some k)).cps.toList) v
section
variable {prog : Program} {w : World} {A : Around} {h₀ : Heap} {L : Addr} {m : Str → Option Value} {env : Env} {elt : PySem.Expr} {x : Str} {scope : Scope} {cl : List (Str × Addr)} {news : List (Addr × Obj)}
theorem src_text {y : Str} (_hy : IsSigns y) {ax : Addr} {a b c d e : Int} {ta tb tc td te : Tok} {nn : Nat} {s₁ : Shared} {Fin : Shared → List Value → List (Addr × Obj) → Prop} (hh : A.handled = none) (F : Fr h₀ L s₁.heap m) (N : News h₀ L s₁.heap news) (hm : (ax, listOf #[.int a ta, .int b tb, .int c tc, .int d td, .int e te] nn) ∈ news)
    (turn : ∀ (_ : Heap) (Sx : List (Addr × Obj) → Prop), Sx news → ∀ k t I oI C oC D m₂ ys h tk (E' : Value → Shared → Prop), k ∈ [a, b, c, d, e] → LCg.NsObj oC m₂ → m₂ x = some (.int k t) → Fr h₀ L h m → News h₀ L h ((I, oI) :: (C, oC) :: (D, LCg.lst ys) :: news) → LCg.Off3 I C D news → ((@Ne Nat I C) ∧ (@Ne Nat I D) ∧ (@Ne Nat C D)) →
      wpAny (model prog w) A (eval elt (compEnvC scope cl C env)) (LCg.CompEnd h₀ L m { s₁ with heap := h, toks := tk } I oI C oC D (LCg.lst ys) Sx (fun v news' => CEl news (TxtIs (menuT y) k) v news')) E' { s₁ with heap := h, toks := tk })
    (fin : ∀ (g : Heap) ys, All2 (TxtIs (menuT y)) [a, b, c, d, e] ys → Fin { s₁ with heap := g } ys news) : LCg.CompSrc prog w A h₀ L m env elt x scope cl Fin (.ref ax) s₁ :=
  src_ints (vs := [.int a ta, .int b tb, .int c tc, .int d td, .int e te]) (.cons _ _ (.cons _ _ (.cons _ _ (.cons _ _ (.cons _ _ .nil))))) (TxtIs (menuT y)) hh F N hm (Nat.le_of_ble_eq_true rfl) turn fin
theorem ints5 {a b : Int} {ta tb tc td te : Tok} : IntsAre [.int a ta, .int b tb, .int 0 tc, .int 0 td, .int 0 te] [a, b, 0, 0, 0] := .cons _ _ (.cons _ _ (.cons _ _ (.cons _ _ (.cons _ _ .nil))))
theorem ints2 {a b : Int} {ta tb : Tok} : IntsAre [.int a ta, .int b tb] [a, b] := .cons _ _ (.cons _ _ .nil)
theorem src_lacks5 {le X : Str} {a : Int} {ta tb tc td te : Tok} {lg : Addr} {nn : Nat} {r : Addr} {t u v : Tok} {s₁ : Shared} {Fin : Shared → List Value → List (Addr × Obj) → Prop} (_hI : (lg, listOf #[.int a ta, .int (le.length : Int) tb, .int 0 tc, .int 0 td, .int 0 te] nn) ∈ news) (_hX : X.length = 5) (hh : A.handled = none) (F : Fr h₀ L s₁.heap m) (N : News h₀ L s₁.heap news) (hr : IsRange s₁.heap r 0 6 1 t u v)
    (turn : ∀ (_ : Heap) (Sx : List (Addr × Obj) → Prop), Sx news → ∀ k t I oI C oC D m₂ ys h tk (E' : Value → Shared → Prop), k ∈ rangeKs 0 6 → LCg.NsObj oC m₂ → m₂ x = some (.int k t) → Fr h₀ L h m → News h₀ L h ((I, oI) :: (C, oC) :: (D, LCg.lst ys) :: news) → LCg.Off3 I C D news → ((@Ne Nat I C) ∧ (@Ne Nat I D) ∧ (@Ne Nat C D)) →
      wpAny (model prog w) A (eval elt (compEnvC scope cl C env)) (LCg.CompEnd h₀ L m { s₁ with heap := h, toks := tk } I oI C oC D (LCg.lst ys) Sx (fun y news' => CEl news (LackT le [a, (le.length : Int), 0, 0, 0] X k) y news')) E' { s₁ with heap := h, toks := tk })
    (fin : ∀ (g : Heap) ys, All2 (LackT le [a, (le.length : Int), 0, 0, 0] X) (rangeKs 0 6) ys → Fin { s₁ with heap := g } ys news) : LCg.CompSrc prog w A h₀ L m env elt x scope cl Fin (.ref r) s₁ :=
  src_range (n := 6) (LackT le [a, (le.length : Int), 0, 0, 0] X) hh F N hr (by decide) (by rfl) (by decide) turn fin
theorem src_lacks2 {le X : Str} {a : Int} {ta tb : Tok} {lg : Addr} {nn : Nat} {r : Addr} {t u v : Tok} {s₁ : Shared} {Fin : Shared → List Value → List (Addr × Obj) → Prop} (_hI : (lg, listOf #[.int a ta, .int (le.length : Int) tb] nn) ∈ news) (_hX : X.length = 5) (hh : A.handled = none) (F : Fr h₀ L s₁.heap m) (N : News h₀ L s₁.heap news) (hr : IsRange s₁.heap r 0 6 1 t u v)
    (turn : ∀ (_ : Heap) (Sx : List (Addr × Obj) → Prop), Sx news → ∀ k t I oI C oC D m₂ ys h tk (E' : Value → Shared → Prop), k ∈ rangeKs 0 6 → LCg.NsObj oC m₂ → m₂ x = some (.int k t) → Fr h₀ L h m → News h₀ L h ((I, oI) :: (C, oC) :: (D, LCg.lst ys) :: news) → LCg.Off3 I C D news → ((@Ne Nat I C) ∧ (@Ne Nat I D) ∧ (@Ne Nat C D)) →
      wpAny (model prog w) A (eval elt (compEnvC scope cl C env)) (LCg.CompEnd h₀ L m { s₁ with heap := h, toks := tk } I oI C oC D (LCg.lst ys) Sx (fun y news' => CEl news (LackT le [a, (le.length : Int)] X k) y news')) E' { s₁ with heap := h, toks := tk })
    (fin : ∀ (g : Heap) ys, All2 (LackT le [a, (le.length : Int)] X) (rangeKs 0 6) ys → Fin { s₁ with heap := g } ys news) : LCg.CompSrc prog w A h₀ L m env elt x scope cl Fin (.ref r) s₁ :=
  src_range (n := 6) (LackT le [a, (le.length : Int)] X) hh F N hr (by decide) (by rfl) (by decide) turn fin

end
def IsCode (y : Str) : Prop := y = Str.ofString "250" ∨ y = Str.ofString "157" ∨ y = Str.ofString "267" ∨ y = Str.ofString "25"
theorem slice3 {x : Str} (h : 3 ≤ x.length) : lst (Txt.slice x none (some 3)) = (lst x).take 3 := by
  have h1 := StrLaws.sliceText_to (x := x) (j := 3) ⟨by decide, by have := lst_len x; unfold lst at this; omega⟩
  rw [show Txt.slice x none (some 3) = StrLaws.sliceText x none (some 3) from rfl, h1]
  rfl
theorem slice35 {x : Str} (h : 5 ≤ x.length) : lst (Txt.slice x (some 3) (some 5)) = ((lst x).drop 3).take 2 := by
  have h1 := StrLaws.sliceText_plain (x := x) (i := 3) (j := 5) ⟨by decide, by decide, by have := lst_len x; unfold lst at this; omega⟩
  rw [show Txt.slice x (some 3) (some 5) = StrLaws.sliceText x (some 3) (some 5) from rfl, h1]
  rfl
theorem lst_app (a b : Str) : lst (a ++ b) = lst a ++ lst b := by
  show (a ++ b).cps.toList = _
  rw [Str.cps_append, Array.toList_append]
theorem code_slice {y X : Str} (h : IsCode y) (_hX : X.length = 5) : (Txt.slice (y ++ Str.ofString " \"" ++ X) none (some 3) != Str.ofString "257") = true := by
  rw [bne_iff_ne]
  intro e
  have e := congrArg lst e
  rw [slice3, lst_app, lst_app] at e
  · revert e
    rw [show lst (Str.ofString " \"") = [32, 34] from by decide +kernel, show lst (Str.ofString "257") = [50, 53, 55] from by decide +kernel]
    rcases h with rfl | rfl | rfl | rfl
    · rw [show lst (Str.ofString "250") = [50, 53, 48] from by decide +kernel]; intro e; cases e
    · rw [show lst (Str.ofString "157") = [49, 53, 55] from by decide +kernel]; intro e; cases e
    · rw [show lst (Str.ofString "267") = [50, 54, 55] from by decide +kernel]; intro e; cases e
    · rw [show lst (Str.ofString "25") = [50, 53] from by decide +kernel]; intro e; cases e
  · rw [Str.length_append, Str.length_append, show (Str.ofString " \"").length = 2 from by decide +kernel]
    omega
end Mine
end

-- part PL9
section
open PySem PySem.W PyProof.Rows PySem.Calls
set_option Elab.async false
set_option maxRecDepth 100000
namespace Mine
open StrLaws Builtin.Str
theorem dots_list : lst dots = [46, 46, 46] := by decide +kernel
theorem dots_len : dots.length = 3 := by decide +kernel
theorem sE_list : lst sE = [] := rfl
/-- a piece without dots ahead of more -/
theorem spl_piece {p : List Nat} (hp : 46 ∉ p) {r q : List Nat} {qs : List (List Nat)} (h : Spl [46, 46, 46] r (q :: qs)) : Spl [46, 46, 46] (p ++ r) ((p ++ q) :: qs) := by
  induction p with
  | nil => exact h
  | cons c p ih =>
    refine .step ?_ (ih fun h => hp (List.mem_cons_of_mem _ h))
    rintro ⟨t, e⟩
    have e1 : 46 = c := (List.cons.inj e).1
    exact hp (e1 ▸ List.Mem.head _)
theorem spl_end {p : List Nat} (hp : 46 ∉ p) : Spl [46, 46, 46] p [p] := by
  have := spl_piece hp Spl.nil
  simpa using this
theorem spl_dots {r : List Nat} {ps : List (List Nat)} (h : Spl [46, 46, 46] r ps) : Spl [46, 46, 46] (46 :: 46 :: 46 :: r) ([] :: ps) := Spl.hit h
theorem split_dots {x : Str} {p : List Nat} {ps : List (List Nat)} (h : Spl [46, 46, 46] (lst x) (p :: ps)) : Txt.split x dots = (p :: ps).map toS :=
  split_is x dots (by rw [dots_len]; decide) (by decide +kernel) (by rw [show dots.cps.toList = [46, 46, 46] from dots_list]; exact h)
theorem has_dots {x : Str} {u v : List Nat} (h : lst x = u ++ 46 :: 46 :: 46 :: v) : (occurrences x dots 0 x.length 1).isEmpty = false := by
  have : (!(occurrences x dots 0 x.length 1).isEmpty) = true := by
    rw [found_iff]
    have hl := congrArg List.length h
    rw [lst_len, List.length_append] at hl
    simp only [List.length_cons] at hl
    refine ⟨u.length, (at_iff x dots u.length).mpr ⟨?_, by rw [dots_len]; omega⟩⟩
    rw [show dots.cps.toList = [46, 46, 46] from dots_list]
    show _ <+: List.drop _ (lst x)
    rw [h, List.drop_left' rfl]
    exact ⟨v, rfl⟩
  simpa using this
section
variable {w : World} {P0 P1 : Str} (h0 : PieceOK P0) (h1 : PieceOK P1)
/-- what is wanted, with dots ahead and without -/
abbrev wantT (P0 P1 : Str) : Str := dots ++ (P0 ++ dots ++ P1)
abbrev wantF (P0 P1 : Str) : Str := Str.ofString "" ++ (P0 ++ dots ++ P1)
theorem wantT_list : lst (wantT P0 P1) = 46 :: 46 :: 46 :: (lst P0 ++ 46 :: 46 :: 46 :: lst P1) := by
  rw [lst_app, lst_app, lst_app, dots_list]; simp
theorem wantF_list : lst (wantF P0 P1) = lst P0 ++ 46 :: 46 :: 46 :: lst P1 := by
  rw [lst_app, lst_app, lst_app, dots_list, show lst (Str.ofString "") = [] from empty_list]; simp
abbrev f1T (P0 P1 y : Str) : Bool := Txt.endswith y P1 && decide ((P1.length : Int) ≤ y.length) && (emGo y ((y.length : Int) - P1.length) [sE, P0] 0).isSome
abbrev f2T (P0 P1 y : Str) : Bool := (emGo y y.length [sE, P0, P1, sE] 0).isSome
abbrev f1F (P0 P1 y : Str) : Bool := Txt.startswith y P0 && Txt.endswith y P1 && decide ((P0.length : Int) + P1.length ≤ y.length)
abbrev f2F (P0 P1 y : Str) : Bool := Txt.startswith y P0 && decide ((P0.length : Int) ≤ y.length) && (emGo y y.length [P1, sE] P0.length).isSome
include h0 h1
theorem wantT_len : (wantT P0 P1).length ≤ 20 ∧ 1 ≤ (wantT P0 P1).length := by
  have := h0.2.1; have := h1.2.1
  rw [Str.length_append, Str.length_append, Str.length_append, dots_len]; omega
theorem wantF_len : (wantF P0 P1).length ≤ 20 ∧ 1 ≤ (wantF P0 P1).length := by
  have := h0.2.1; have := h1.2.1
  rw [Str.length_append, Str.length_append, Str.length_append, dots_len, show (Str.ofString "").length = 0 from by decide +kernel]; omega
theorem em1T : EmOK w (wantT P0 P1) (f1T P0 P1) := by
  intro news y ts tl hy
  refine emD_con w news _ y P0 P1 ts tl (by have := (wantT_len h0 h1).1; omega) hy h0.1 h0.2.1 h1.1 h1.2.1 ?_ ?_ rfl
  · exact has_dots (u := []) wantT_list
  · exact split_dots (by rw [wantT_list]; have := spl_dots (spl_piece h0.2.2.2.2 (spl_dots (spl_end h1.2.2.2.2))); simpa using this)
theorem em2T : EmOK w (wantT P0 P1 ++ Str.ofString "...") (f2T P0 P1) := by
  have e : lst (wantT P0 P1 ++ Str.ofString "...") = 46 :: 46 :: 46 :: (lst P0 ++ 46 :: 46 :: 46 :: (lst P1 ++ 46 :: 46 :: 46 :: [])) := by
    rw [lst_app, wantT_list, show lst (Str.ofString "...") = [46, 46, 46] from dots_list]; simp
  intro news y ts tl hy
  refine emB_con w news _ y P0 P1 ts tl (by have := (wantT_len h0 h1).1; rw [Str.length_append, show (Str.ofString "...").length = 3 from dots_len]; omega) hy h0.1 h0.2.1 h1.1 h1.2.1 ?_ ?_ rfl
  · exact has_dots (u := []) e
  · exact split_dots (by rw [e]; have := spl_dots (spl_piece h0.2.2.2.2 (spl_dots (spl_piece h1.2.2.2.2 (spl_dots Spl.nil)))); simpa using this)
theorem em1F : EmOK w (wantF P0 P1) (f1F P0 P1) := by
  intro news y ts tl hy
  refine emC_con w news _ y P0 P1 ts tl (by have := (wantF_len h0 h1).1; omega) hy h0.1 h0.2.1 h1.1 h1.2.1 ?_ ?_ rfl
  · exact has_dots (u := lst P0) wantF_list
  · exact split_dots (by rw [wantF_list]; have := spl_piece h0.2.2.2.2 (spl_dots (spl_end h1.2.2.2.2)); simpa using this)
theorem em2F : EmOK w (wantF P0 P1 ++ Str.ofString "...") (f2F P0 P1) := by
  have e : lst (wantF P0 P1 ++ Str.ofString "...") = lst P0 ++ 46 :: 46 :: 46 :: (lst P1 ++ 46 :: 46 :: 46 :: []) := by
    rw [lst_app, wantF_list, show lst (Str.ofString "...") = [46, 46, 46] from dots_list]; simp
  intro news y ts tl hy
  refine emA_con w news _ y P0 P1 ts tl (by have := (wantF_len h0 h1).1; rw [Str.length_append, show (Str.ofString "...").length = 3 from dots_len]; omega) hy h0.1 h0.2.1 h1.1 h1.2.1 ?_ ?_ rfl
  · exact has_dots (u := lst P0) e
  · exact split_dots (by rw [e]; have := spl_piece h0.2.2.2.2 (spl_dots (spl_piece h1.2.2.2.2 (spl_dots Spl.nil))); simpa using this)
theorem dotT : (Txt.item (wantT P0 P1) 0 == Str.ofString ".") = true := by
  obtain ⟨c, e1, e2⟩ := item_at (x := wantT P0 P1) (i := 0) (by decide) (by have := (wantT_len h0 h1).2; omega)
  have e1 : List.drop 0 (lst (wantT P0 P1)) = _ := e1
  rw [wantT_list, List.drop_zero, List.cons.injEq] at e1
  rw [e2, ← e1.1]; decide +kernel
theorem dotF : (Txt.item (wantF P0 P1) 0 == Str.ofString ".") = false := by
  obtain ⟨c, e1, e2⟩ := item_at (x := wantF P0 P1) (i := 0) (by decide) (by have := (wantF_len h0 h1).2; omega)
  have e1 : List.drop 0 (lst (wantF P0 P1)) = _ := e1
  rw [wantF_list, List.drop_zero] at e1
  have hc : c ∈ lst P0 := by
    have hl := h0.1
    rw [← lst_len] at hl
    cases hp : lst P0 with
    | nil => rw [hp] at hl; simp at hl
    | cons d r => rw [hp, List.cons_append, List.cons.injEq] at e1; rw [← e1.1]; exact List.Mem.head _
  rw [e2, show Str.ofString "." = ⟨#[46]⟩ from by decide +kernel]
  rw [beq_eq_false_iff_ne]
  intro e
  have : c = 46 := by injection e with e; simpa using e
  rw [this] at hc
  exact h0.2.2.2.2 hc
theorem piece_ne {P : Str} (h : PieceOK P) : lst P ≠ [] := by
  have := h.1
  rw [← lst_len] at this
  exact List.length_pos_iff.mp this
theorem setT : Set2 (P0 ++ P1) [(P0.length : Int), ((P0 ++ P1).length : Int), 0, 0, 0] (lst P0) (lst P1) true := by
  refine ⟨piece_ne h0 h1 h0, piece_ne h0 h1 h1, by rw [lst_len]; exact h0.2.1, by rw [lst_len]; exact h1.2.1, lst_app P0 P1, fun k => ?_⟩
  unfold gapP
  rw [← lst_app, lst_len, lst_len]
  simp only [List.mem_cons, List.not_mem_nil, or_false, true_and]
  omega
theorem setF : Set2 (P0 ++ P1) [(P0.length : Int), ((P0 ++ P1).length : Int)] (lst P0) (lst P1) false := by
  refine ⟨piece_ne h0 h1 h0, piece_ne h0 h1 h1, by rw [lst_len]; exact h0.2.1, by rw [lst_len]; exact h1.2.1, lst_app P0 P1, fun k => ?_⟩
  unfold gapP
  rw [← lst_app, lst_len, lst_len]
  simp only [List.mem_cons, List.not_mem_nil, or_false, Bool.false_eq_true, false_and]
  omega
end
/-- the lacks, as a list -/
def loOf (le : Str) (gs : List Int) (X : Str) : List (Option Str) := (List.range 6).map fun k => lackF le gs ((lst X).take k)
theorem loOf_get {le : Str} {gs : List Int} {X : Str} {k : Nat} (hk : k < 6) : (loOf le gs X).getD k none = lackF le gs ((lst X).take k) := by
  unfold loOf
  rw [List.getD_eq_getElem?_getD, List.getElem?_map, List.getElem?_range hk]; rfl
theorem opts_of {le : Str} {gs : List Int} {X : Str} {vs : List Value} (hX : X.length = 5) (h : All2 (LackT le gs X) (rangeKs 0 6) vs) : OptsAre vs (loOf le gs X) := by
  have go : ∀ (ks : List Nat) (vs : List Value), (∀ k ∈ ks, k < 6) → All2 (LackT le gs X) (ks.map fun (k : Nat) => (0 : Int) + (k : Int)) vs → OptsAre vs (ks.map fun k => lackF le gs ((lst X).take k)) := by
    intro ks
    induction ks with
    | nil => intro vs _ h; cases h; exact .nil
    | cons k ks ih =>
      intro vs hk h
      cases h with
      | cons a r =>
        refine .cons ?_ (ih _ (fun j hj => hk j (List.mem_cons_of_mem _ hj)) r)
        have hk6 := hk k (List.Mem.head _)
        have e := xk_list hX hk6
        unfold LackT at a
        dsimp only at a
        rw [Int.zero_add] at a
        have e : (Txt.slice X none (some (k : Int))).cps.toList = (lst X).take k := e
        rw [e] at a
        exact a
  exact go (List.range 6) vs (fun k hk => List.mem_range.mp hk) h
section
variable {w : World} {news : List (Addr × Obj)} {X P0 P1 y : Str} {vlo : List Value} {tx tw t0 t1 : Tok} {lk lp : Addr} {nk np : Nat} (hy : IsSigns y) (hX : X.length = 5) (hXc : ∀ c ∈ lst X, c ∈ lst (menuT y)) (h0 : PieceOK P0) (h1 : PieceOK P1)
include hy hX hXc h0 h1
theorem phypT : PHyp X (P0 ++ P1) [(P0.length : Int), ((P0 ++ P1).length : Int), 0, 0, 0] P0 P1 true (loOf (P0 ++ P1) [(P0.length : Int), ((P0 ++ P1).length : Int), 0, 0, 0] X) (f1T P0 P1) (f2T P0 P1) :=
  ⟨setT h0 h1, hX, fun h => (menu_ok hy).2 (hXc _ h), fun h => (List.mem_append.mp h).elim h0.2.2.1 h1.2.2.1, h1.2.2.2.1, fun _ => fD_iff h0.1 h1.1, fun _ => fB_iff h0.1 h1.1, by simp [loOf], fun _ hk => loOf_get hk⟩
theorem phypF : PHyp X (P0 ++ P1) [(P0.length : Int), ((P0 ++ P1).length : Int)] P0 P1 false (loOf (P0 ++ P1) [(P0.length : Int), ((P0 ++ P1).length : Int)] X) (f1F P0 P1) (f2F P0 P1) :=
  ⟨setF h0 h1, hX, fun h => (menu_ok hy).2 (hXc _ h), fun h => (List.mem_append.mp h).elim h0.2.2.1 h1.2.2.1, h1.2.2.2.1, fun _ => fC_iff h0.1 h1.1, fun _ => fA_iff h0.1 h1.1, by simp [loOf], fun _ hk => loOf_get hk⟩
theorem kinds_T (hA : All2 (LackT (P0 ++ P1) [(P0.length : Int), ((P0 ++ P1).length : Int), 0, 0, 0] X) (rangeKs 0 6) vlo) :
    Con w 252 ((lp, listOf #[.str P0 t0, .str P1 t1] np) :: (lk, listOf vlo.toArray nk) :: news) [.str X tx, .ref lk, .str (wantT P0 P1) tw, .ref lp] 8 2000 (fun v news' => v = .bool true ∧ news' = ((lp, listOf #[.str P0 t0, .str P1 t1] np) :: (lk, listOf vlo.toArray nk) :: news)) :=
  kinds_con w news X (wantT P0 P1) P0 P1 _ vlo tx tw t0 t1 lk lp nk np (f1T P0 P1) (f2T P0 P1) true (opts_of hX hA) (by simp [loOf]) hX (dotT h0 h1) (wantT_len h0 h1).2 (wantT_len h0 h1).1 h0.2.1 h1.2.1 (em1T h0 h1) (em2T h0 h1) (phypT hy hX hXc h0 h1).khyp
theorem kinds_F (hA : All2 (LackT (P0 ++ P1) [(P0.length : Int), ((P0 ++ P1).length : Int)] X) (rangeKs 0 6) vlo) :
    Con w 252 ((lp, listOf #[.str P0 t0, .str P1 t1] np) :: (lk, listOf vlo.toArray nk) :: news) [.str X tx, .ref lk, .str (wantF P0 P1) tw, .ref lp] 8 2000 (fun v news' => v = .bool true ∧ news' = ((lp, listOf #[.str P0 t0, .str P1 t1] np) :: (lk, listOf vlo.toArray nk) :: news)) :=
  kinds_con w news X (wantF P0 P1) P0 P1 _ vlo tx tw t0 t1 lk lp nk np (f1F P0 P1) (f2F P0 P1) false (opts_of hX hA) (by simp [loOf]) hX (dotF h0 h1) (wantF_len h0 h1).2 (wantF_len h0 h1).1 h0.2.1 h1.2.1 (em1F h0 h1) (em2F h0 h1) (phypF hy hX hXc h0 h1).khyp
end
/-! the replies that tell nothing -/
def ZT (v : Value) : Prop := ∃ x t, v = .str x t ∧ x.length ≤ 50 ∧ (Txt.slice (Str.ofString "257" ++ x) none (some 3) != Str.ofString "257") = false ∧ (Txt.slice (Str.ofString "257" ++ x) (some 3) (some 5) != Str.ofString " \"") = true
theorem z_of {x : Str} {t : Tok} (h2 : 2 ≤ x.length) (hl : x.length ≤ 50) (hx : (lst x).take 2 ≠ [32, 34]) : ZT (.str x t) := by
  have h5 : 5 ≤ (Str.ofString "257" ++ x).length := by rw [Str.length_append, show (Str.ofString "257").length = 3 from by decide +kernel]; omega
  have h3 : 3 ≤ (Str.ofString "257" ++ x).length := by rw [Str.length_append, show (Str.ofString "257").length = 3 from by decide +kernel]; omega
  have e7 : lst (Str.ofString "257") = [50, 53, 55] := by decide +kernel
  refine ⟨x, t, rfl, hl, ?_, ?_⟩
  · rw [bne_eq_false_iff_eq]
    apply lst_inj
    rw [slice3 h3, lst_app, e7]; rfl
  · rw [bne_iff_ne]
    intro e
    have e := congrArg lst e
    rw [slice35 h5, lst_app, e7] at e
    exact hx (e.trans (by decide +kernel))
theorem z_all {X : Str} (hX : X.length = 5) {ta tb tc td : Tok} : ∀ v ∈ [Value.str (Str.ofString "") ta, .str (Str.ofString " ") tb, .str (Str.ofString "-\"" ++ X) tc, .str (Str.ofString " z" ++ X) td], ZT v := by
  intro v hv
  simp only [List.mem_cons, List.not_mem_nil, or_false] at hv
  rcases hv with rfl | rfl | rfl | rfl
  · exact ⟨_, _, rfl, by decide +kernel, by decide +kernel, by decide +kernel⟩
  · exact ⟨_, _, rfl, by decide +kernel, by decide +kernel, by decide +kernel⟩
  · have e2 : (Str.ofString "-\"").length = 2 := by decide +kernel
    refine z_of (by rw [Str.length_append]; omega) (by rw [Str.length_append]; omega) ?_
    rw [lst_app, show lst (Str.ofString "-\"") = [45, 34] from by decide +kernel]
    intro e; cases e
  · have e2 : (Str.ofString " z").length = 2 := by decide +kernel
    refine z_of (by rw [Str.length_append]; omega) (by rw [Str.length_append]; omega) ?_
    rw [lst_app, show lst (Str.ofString " z") = [32, 122] from by decide +kernel]
    intro e; cases e
section
variable {prog : Program} {w : World} {A : Around} {h₀ : Heap} {L : Addr} {m : Str → Option Value} {env : Env} {ct elt : PySem.Expr} {x : Str} {scope : Scope} {cl : List (Str × Addr)} {news : List (Addr × Obj)}
theorem src_silent {X : Str} (hX : X.length = 5) {ax : Addr} {ta tb tc td : Tok} {nn : Nat} {s₁ : Shared} {Fin : Shared → List Value → List (Addr × Obj) → Prop} (hh : A.handled = none) (F : Fr h₀ L s₁.heap m) (N : News h₀ L s₁.heap news)
    (hm : (ax, listOf #[.str (Str.ofString "") ta, .str (Str.ofString " ") tb, .str (Str.ofString "-\"" ++ X) tc, .str (Str.ofString " z" ++ X) td] nn) ∈ news)
    (turn : ∀ (_ : Heap) (Sx : List (Addr × Obj) → Prop), Sx news → ∀ v I oI C oC D m₂ h tk (E' : Value → Shared → Prop), ZT v → LCg.NsObj oC m₂ → m₂ x = some v → Fr h₀ L h m → News h₀ L h ((I, oI) :: (C, oC) :: (D, LCg.lst []) :: news) → LCg.Off3 I C D news → ((@Ne Nat I C) ∧ (@Ne Nat I D) ∧ (@Ne Nat C D)) →
      wpAny (model prog w) A (isTrue ct (compEnvC scope cl C env) (eval ct (compEnvC scope cl C env))) (fun b s' => if b = true then False else LCg.CompEnd h₀ L m { s₁ with heap := h, toks := tk } I oI C oC D (LCg.lst []) Sx (fun _ news' => CEl news (fun _ => True) Value.none news') Value.none s') E' { s₁ with heap := h, toks := tk })
    (fin : ∀ (g : Heap), Fin { s₁ with heap := g } [] news) : LCt.CompSrcT prog w A h₀ L m env ct elt x scope cl Fin (.ref ax) s₁ :=
  srcT_none (vs := [.str (Str.ofString "") ta, .str (Str.ofString " ") tb, .str (Str.ofString "-\"" ++ X) tc, .str (Str.ofString " z" ++ X) td]) ZT (z_all hX) hh F N hm (by simp) turn fin
end
/-- the pieces joined by dots -/
theorem join_two {prog : Program} {w : World} {A : Around} {E : Value → Shared → Prop} {s : Shared} {t : Tok} {D : Addr} {P0 P1 : Str} {t0 t1 : Tok} {Q : Value → Shared → Prop} (hl : s.heap.IsList D #[.str P0 t0, .str P1 t1]) (h0 : P0.length ≤ 2) (h1 : P1.length ≤ 2)
    (h : ∀ t' k, (P0 ++ dots ++ P1).length ≤ 7 → Q (.str (P0 ++ dots ++ P1) t') { s with toks := k }) : wpAny (model prog w) A (call (.builtin "str.join") [.str (Str.ofString "...") t, .ref D]) Q E s := by
  have hlen : (P0 ++ dots ++ P1).length ≤ 7 := by rw [Str.length_append, Str.length_append, dots_len]; omega
  refine join_list (ys := [P0, P1]) hl (.cons _ _ (.cons _ _ .nil)) ?_ fun t' k => ?_
  · simp only [List.map_cons, List.map_nil, List.sum_cons, List.sum_nil, List.length_cons, List.length_nil, show (Str.ofString "...").length = 3 from dots_len]
    omega
  · have e : Txt.join (Str.ofString "...") [P0, P1] = P0 ++ dots ++ P1 := glued_eq_join _ _
    rw [e]; exact h _ _ hlen
theorem code_total {y X : Str} (h : IsCode y) (hX : X.length = 5) : (y ++ Str.ofString " \"" ++ X).length ≤ 1000 := by
  have : y.length ≤ 3 := by rcases h with rfl | rfl | rfl | rfl <;> decide +kernel
  rw [Str.length_append, Str.length_append, show (Str.ofString " \"").length = 2 from by decide +kernel]
  omega
theorem silent_total {x : Str} (h : x.length ≤ 50) : (Str.ofString "257" ++ x).length ≤ 1000 := by
  rw [Str.length_append, show (Str.ofString "257").length = 3 from by decide +kernel]
  omega
end Mine
end

-- part W2
section
open PySem PySem.W PyProof.Rows PySem.Calls
set_option Elab.async false
set_option maxRecDepth 100000
namespace Mine
local macro_rules | `(tactic| walk_at $s:str) => `(tactic| k_extra $s)
theorem cell_none {o : Obj} {d : Option Value} (h : o.data = .cell d) (e : d = none) : o.data = .cell none := e ▸ h
theorem item_menu4 {prog : Program} {w : World} {A : Around} {E : Value → Shared → Prop} {s : Shared} {value slice : PySem.Expr} {l : Addr} {a b c d : Str} {ta tb tc td : Tok} {i : Int} {u : Tok} {Q : Value → Shared → Prop} (hl : s.heap.IsList l [Value.str a ta, Value.str b tb, Value.str c tc, Value.str d td].toArray) (h : ∀ y t, y = a ∨ y = b ∨ y = c ∨ y = d → Q (.str y t) s)
    (hs' : subscripted slice false (.ref l) (.int (i.fmod 4) u) = operate [.ref l, .int (i.fmod 4) u] (getItem (.ref l) (.int (i.fmod 4) u)) := by with_unfolding_all rfl) :
    wpAny (model prog w) A (subscriptTail value slice (.ref l) (.int (i.fmod 4) u)) Q E s := by
  have h0 : 0 ≤ i.fmod 4 := Int.fmod_nonneg_of_pos _ (by decide)
  have h2 : i.fmod 4 < 4 := Int.fmod_lt_of_pos _ (by decide)
  refine kba_turn (value' := PySem.Expr.Name (PySem.Str.ofString "_") ⟨0, 0, 0, 0⟩) (fun _ => rfl) ?_
  have e : i.fmod 4 = 0 ∨ i.fmod 4 = 1 ∨ i.fmod 4 = 2 ∨ i.fmod 4 = 3 := by omega
  rcases e with e | e | e | e
  · exact tail_any hl.typeIs slot_list_getitem.lookup (wpAny_getItem_list (x := .str a ta) hl h0 (by omega) (by rw [e]; rfl) (h _ _ (.inl rfl))) hs'
  · exact tail_any hl.typeIs slot_list_getitem.lookup (wpAny_getItem_list (x := .str b tb) hl h0 (by omega) (by rw [e]; rfl) (h _ _ (.inr (.inl rfl)))) hs'
  · exact tail_any hl.typeIs slot_list_getitem.lookup (wpAny_getItem_list (x := .str c tc) hl h0 (by omega) (by rw [e]; rfl) (h _ _ (.inr (.inr (.inl rfl))))) hs'
  · exact tail_any hl.typeIs slot_list_getitem.lookup (wpAny_getItem_list (x := .str d td) hl h0 (by omega) (by rw [e]; rfl) (h _ _ (.inr (.inr (.inr rfl))))) hs'
theorem item_lit {prog : Program} {w : World} {A : Around} {E : Value → Shared → Prop} {s : Shared} {value slice : PySem.Expr} {l : Addr} {vs : List Value} {i : Int} {v : Value} {u : Tok} {Q : Value → Shared → Prop} (hl : s.heap.IsList l vs.toArray) (h0 : 0 ≤ i) (h1 : i < 1000) (hi : vs[i.toNat]? = some v) (h : Q v s)
    (hs' : subscripted slice false (.ref l) (.int i u) = operate [.ref l, .int i u] (getItem (.ref l) (.int i u)) := by with_unfolding_all rfl) :
    wpAny (model prog w) A (subscriptTail value slice (.ref l) (.int i u)) Q E s :=
  tail_any hl.typeIs slot_list_getitem.lookup (wpAny_getItem_list hl h0 (by omega) (by simpa using hi) h) hs'
theorem add_any {prog : Program} {w : World} {A : Around} {E : Value → Shared → Prop} {s : Shared} {x y : PySem.Str} {t u : Tok} {Q : Value → Shared → Prop} (hl : x.length + y.length ≤ 16777216)
    (h : ∀ t' k, (x ++ y).length = x.length + y.length → Q (.str (x ++ y) t') { s with toks := k }) : wpAny (model prog w) A (binaryOp .Add (.str x t) (.str y u)) Q E s :=
  KXadd.add (Nat.le_refl _) (Nat.le_refl _) hl fun t' k hh => h t' k (by omega)
theorem two_len : Str.length (Str.ofString "\"\"") = 2 := by decide +kernel
theorem sp_len : Str.length (Str.ofString " \"") = 2 := by decide +kernel
theorem mi_len : Str.length (Str.ofString "-\"") = 2 := by decide +kernel
theorem spz_len : Str.length (Str.ofString " z") = 2 := by decide +kernel
theorem e257_len : Str.length (Str.ofString "257") = 3 := by decide +kernel
theorem code_len {y : Str} (h : y = Str.ofString "250" ∨ y = Str.ofString "157" ∨ y = Str.ofString "267" ∨ y = Str.ofString "25") : y.length ≤ 3 := by rcases h with rfl | rfl | rfl | rfl <;> decide +kernel
local macro_rules | `(tactic| k_mem) => `(tactic| first | assumption | exact List.mem_append_left _ (by with_reducible assumption) | exact List.mem_append_right _ (by with_reducible assumption))
theorem item_five {prog : Program} {w : World} {A : Around} {E : Value → Shared → Prop} {s : Shared} {value slice : PySem.Expr} {x : Str} {t : Tok} {k : Int} {u : Tok} {Q : Value → Shared → Prop} (hx : x.length = 5) (h : ∀ t' tk, Q (.str (Txt.item x (k.fmod 5)) t') { s with toks := tk })
    (hs : subscripted slice false (.str x t) (.int (k.fmod 5) u) = operate [.str x t, .int (k.fmod 5) u] (getItem (.str x t) (.int (k.fmod 5) u)) := by with_unfolding_all rfl)
    (ht : ∀ r, letTemporaryGo value (.str x t) r = pure () := by intro _; with_unfolding_all rfl) :
    wpAny (model prog w) A (subscriptTail value slice (.str x t) (.int (k.fmod 5) u)) Q E s := by
  have b0 : 0 ≤ k.fmod 5 := Int.fmod_nonneg_of_pos _ (by decide)
  have b1 : k.fmod 5 < 5 := Int.fmod_lt_of_pos _ (by decide)
  exact item_str (fitsSsize_of (N := 9223372036854775808) (by omega) (by omega) (Int.le_refl _)) (by omega) (by omega) (fun _ => h _ _) hs ht
local macro_rules | `(tactic| k_go0) => `(tactic| (
  k_with_none
  w_top off
  k_fill
  intro w s₀ s₁ mg mb G Y fa o pm cd doc dV kV ho hd hcd hD hmg hg args vals as hpre hlay hrd hwl hlo
  have KX := kIn_of Y
  have X := (Ground.X G).1
  have V := (Ground.X G).2
  refine Ground.open G ?_
  intro T B D TE TW
  try (refine guard_noD D (by decide +kernel) ?_; clear D)
  obtain ⟨_, _, M⟩ := bmod_of_top T
  have TA := at_of_top T
  try (obtain ⟨_, _, he, B0⟩ := based_of_top T rfl hmg ho hd; have he' : cd = _ := he; subst he'; clear he)
  clear hmg
  wrow_args hpre hlay hrd hwl hlo
  refine enter_call ?_
  w_top on
  try refine codeAny_mono ?_ (fun _ _ g => GoodW.toG g)
  have K0 := below_caller (Top.heap T)
  w_call any ho hd hcd hD T F
  clear hd TA
  k_drop))
theorem law_said : PySem.Challenge.rw_ux0027_01.wellSaid = true := by
  first
    | (rw [PySem.W.Fast.te9446332074065402090]; kernel_rfl)
    | kernel_rfl
set_option maxHeartbeats 8000000 in
theorem holds : PySem.Challenge.rw_ux0027_01.Holds := by
  k_with_none
  w_top off
  w_on
  refine holds_law law_said fun sd9 => ?_
  refine holds_open (q := hd.view_39) (loose := [Str.ofString "_name_disallowed_re", Str.ofString "_value_disallowed_re"]) (Xt := fun s => xlAt hd.view_39 [] s && recOk (RowW.records PySem.Challenge.rw_ux0027_01.row.toRowW) s) (XP := XL hd.view_39 [])
    (Yf := Hook.obs (kHook hd.heap_39 hd.ads (fun _ => by kernel_rfl))) (Ya := Hook.val (kHook hd.heap_39 hd.ads (fun _ => by kernel_rfl))) (YP := Hook.says (kHook hd.heap_39 hd.ads (fun _ => by kernel_rfl))) (N := 3466) hd.left
    (Hook.of (kHook hd.heap_39 hd.ads (fun _ => by kernel_rfl))) (Hook.keeps (kHook hd.heap_39 hd.ads (fun _ => by kernel_rfl))) (fun s e => xl_of s (Bool.and_eq_true_iff.mp e).1) XL.keeps (by rfl) (by rfl) (by rfl)
    (fun s e => recFacts_of (Bool.and_eq_true_iff.mp e).2) (by rfl) sd9 (by decide +kernel) ⟨rfl, rfl, rfl, rfl, rfl, by decide +kernel⟩ ?hw ?hc
  case hw => w_witness2
  clear sd9
  k_go0
  (rename CellsAre _ _ _ => X9; clear X9)
  (rename Dflts _ _ _ _ _ _ => X9; clear X9)
  (rename Fr _ _ _ _ => F9; have F8 : Fr _ _ _ (fun y => if y = Str.ofString "script" then some (.ref _) else none) := F9; clear F9)
  (rename (_ = Data.cell (bindC _ _ _ _)) => e1; have d1 := cell_none e1 rfl; clear e1)
  (rename (_ = Data.cell (bindC _ _ _ _)) => e2; have d2 := cell_none e2 rfl; clear e2)
  (rename (_ = Data.cell (bindC _ _ _ _)) => e3; have d3 := cell_none e3 rfl; clear e3)
  (rename (_ = Data.cell (bindC _ _ _ _)) => e4; have d4 := cell_none e4 rfl; clear e4)
  (rename Heap.CodeRec _ _ _ => X9; clear X9)
  (try k_fold)
  k_with "call ref" => (
    k_here; (with_reducible show wpAny _ _ (call (Value.ref 219) _) _ _ _);
    k_dflt (refine' ConH.use (numbers_con _ _ _ _ _ ?h1 ?h2) ?k1 ?k2 ?k3 ?k4 ?k5 ?kH ?kK ?kd ?ku ?_; (case k1 => k_asm); (case k2 => k_asm); (case k3 => k_asm); (case k4 => k_asm); (case k5 => k_asm); (case kH => assumption); (case h1 => assumption); (case h2 => omega); (case kK => first | exact rfl | assumption); (case kd => ktr_room); (case ku => ktr_units));
    intro v9 n9 h9 t9 hp9 F9 N9; obtain ⟨l9, vs9, k9, e9, e9', hlt9, hi9⟩ := hp9; subst e9 e9'; obtain ⟨na, nb, nc, nd, ne, nf, ta, tb, tc, td, te, tf, e9, hna, hnb, hnc, hnd, hne, hnf⟩ := nums_six hi9; subst e9; clear hi9; (try k_lt hlt9); (try dsimp only); (try k_fold))
  k_with "subscriptTail List cons" => (
    k_here; (with_reducible show wpAny _ _ (subscriptTail _ _ (Value.ref _) (Value.int (Int.fmod _ 4) _)) _ _ _); (rename News _ _ _ _ => lN');
    k_dflt (refine' item_menu4 (News.isList lN' (List.Mem.head _)) ?_); intro y ty hy; (first | k_dflt (have hyS : IsSigns y := hy; have hyl := signs_len hy; have hyq := qs_len hy; have hm5 : Str.length (Str.ofString "\"\"" ++ Txt.slice (Str.ofString "\"" ++ y) (some 1) none ++ Str.ofString "z") = 5 := (menu_ok hy).1) | ((rename (Str.length _ = 5) => lX9); k_dflt (have hcC : IsCode y := hy; have hcl : Str.length y ≤ 3 := code_len hy; have hcs := code_slice hy lX9)) | skip); (try dsimp only))
  k_with "subscriptTail Name Constant ref int" => (
    k_here; k_dflt (refine' item_lit ?k1 ?k2 ?k3 ?k4 ?_; (case k1 => exact News.isList (by k_asm) (by k_mem)); (case k2 => decide); (case k3 => decide); (case k4 => rfl)); (try dsimp only))
  k_with "call ref" => (
    k_here; (with_reducible show wpAny _ _ (call (Value.ref 226) _) _ _ _);
    k_dflt (refine' Con.use (piece_con2 _ _ (by assumption) _ _ _ ?h2 ?h3) ?k1 ?k2 ?k3 ?k4 ?k5 ?kK ?kd ?ku ?_; (case k1 => k_asm); (case k2 => k_asm); (case k3 => k_asm); (case k4 => k_asm); (case k5 => k_asm); (case h2 => exact Int.fmod_nonneg_of_pos _ (by decide)); (case h3 => exact Int.fmod_lt_of_pos _ (by decide)); (case kK => first | exact rfl | assumption); (case kd => ktr_room); (case ku => ktr_units));
    intro v9 n9 h9 t9 hp9 F9 N9; obtain ⟨⟨pc, t8, e8, hpc⟩, e9⟩ := hp9; subst e9; subst e8; k_dflt (have hpl : Str.length pc ≤ 2 := hpc.2.1; have hpl1 : 1 ≤ Str.length pc := hpc.1); (try dsimp only); (try k_fold))
  k_with "binaryOp Add str str" => (
    k_here; (with_reducible show wpAny _ _ (binaryOp Operator.Add (Value.str _ _) (Value.str _ _)) _ _ _); refine add_any ?h2 ?_; (case h2 => first | omega | ((have q1 := q_len); (have q2 := two_len); (have q3 := sp_len); (have q4 := mi_len); (have q5 := spz_len); (have q6 := e257_len); (have q7 := len_z); (have q8 := len_dots); (try simp only [Str.length_append]); omega)); intro tA kA hA)
  k_with "subscriptTail Name BinOp str int" => (k_here; (rename IsSigns _ => hy9y0); k_dflt (refine item_five (menu_ok hy9y0).1 ?_); intro tI kI)
  k_with "CompSrc" => (k_here; (rename News _ _ _ _ => lNy1); (rename IsSigns _ => hy9y1); k_dflt (refine src_text hy9y1 (by with_unfolding_all rfl) (by k_asm) lNy1 (List.Mem.head _) (fun g' Sx' hSx' k' t' I' oI' C' oC' D' m' ys' h' tk' E' hk' hC' hx' F' N' off' ne' => ?_) (fun g' ysD hysD => ?_)))
  k_with "CompSrc" => (k_here; (rename News _ _ _ _ => lNy2); (rename IsRange _ _ _ _ _ _ _ _ => lRy2); (rename (Str.length _ = 5) => lXy2); k_dflt (first | refine src_lacks5 (List.Mem.head _) lXy2 (by with_unfolding_all rfl) (by k_asm) lNy2 lRy2 (fun g' Sx' hSx' k' t' I' oI' C' oC' D' m' ys' h' tk' E' hk' hC' hx' F' N' off' ne' => ?_) (fun g' ysD hysD => ?_) | refine src_lacks2 (List.Mem.head _) lXy2 (by with_unfolding_all rfl) (by k_asm) lNy2 lRy2 (fun g' Sx' hSx' k' t' I' oI' C' oC' D' m' ys' h' tk' E' hk' hC' hx' F' N' off' ne' => ?_) (fun g' ysD hysD => ?_)))
  k_with "CompEnd" => (refine comp_end (by assumption) (by assumption) (by assumption) ?_ (by assumption) ?_; (intro p hp; kst_mem))
  k_with "CEl" => (first | with_unfolding_all exact ⟨rfl, _, rfl⟩ | with_unfolding_all exact ⟨rfl, True.intro⟩ | with_unfolding_all exact ⟨rfl, by assumption⟩)
  k_with "call builtin:str.join" => (k_here; (rename News _ _ _ _ => lNy5); (rename All2 (TxtIs _) _ _ => hA9y5); k_dflt (refine' join_text (News.isList lNy5 (List.Mem.head _)) hA9y5 rfl (menu_ok (by assumption)).1 ?_); intro X tX kX hX5 hXc; (try dsimp only); (try k_fold))
  k_with "call ref" => (k_here; (with_reducible show wpAny _ _ (call (Value.ref 240) _) _ _ _); k_dflt (refine' Con.use (lack_con _ _ _ _ _ _ ?h1y6 ?h2y6 _ _ _ _ ?h3y6 ?h4y6 ?h5y6) ?k1y6 ?k2y6 ?k3y6 ?k4y6 ?k5y6 ?kKy6 ?kdy6 ?kuy6 ?_; (case k1y6 => k_asm); (case k2y6 => k_asm); (case k3y6 => k_asm); (case k4y6 => k_asm); (case k5y6 => k_asm); (case h1y6 => k_mem); (case h2y6 => first | exact ints5 | exact ints2); (case h3y6 => omega); (case h4y6 => omega); (case h5y6 => omega); (case kKy6 => first | exact rfl | assumption); (case kdy6 => ktr_room); (case kuy6 => ktr_units)); intro v9 n9 h9 t9 hp9 F9 N9; obtain ⟨e8, e9⟩ := hp9; subst e9; (try dsimp only); (try k_fold))
  k_with "call ref" => (k_here; (with_reducible show wpAny _ _ (call (Value.ref 259) _) _ _ _); k_dflt (refine' ConT.use (refused_con _ _ _ _ ?h1y7 ?h2y7) ?k1y7 ?k2y7 ?k3y7 ?k4y7 ?k5y7 ?kXy7 ?kTy7 ?kKy7 ?kdy7 ?kuy7 ?_; (case k1y7 => k_asm); (case k2y7 => k_asm); (case k3y7 => k_asm); (case k4y7 => k_asm); (case k5y7 => k_asm); (case kXy7 => k_asm); (case kTy7 => k_asm); (case h1y7 => exact code_total (by assumption) (by assumption)); (case h2y7 => assumption); (case kKy7 => first | exact rfl | assumption); (case kdy7 => ktr_room); (case kuy7 => ktr_units)); intro v9 n9 h9 t9 hp9 F9 N9; obtain ⟨e8, e9⟩ := hp9; subst e9; subst e8; (try dsimp only); (try k_fold))
  k_with "eval ListComp" => (k_here; lct_look; k_dflt (refine LCt.ListComp_T (F₀ := by k_asm) (by with_unfolding_all rfl) (by decide) (by rfl) (by decide) (by rfl) ?_))
  k_with "CompSrcT" => (k_here; (rename News _ _ _ _ => lNy9); (rename (Str.length _ = 5) => lXy9); k_dflt (refine src_silent lXy9 (by with_unfolding_all rfl) (by k_asm) lNy9 (List.Mem.head _) (fun g' Sx' hSx' v' I' oI' C' oC' D' m' h' tk' E' hZ' hC' hx' F' N' off' ne' => ?_) (fun g' => ?_)); rotate_left; (try clear lNy9); rotate_right; obtain ⟨x', tx', e', hxl', hx3', hx5'⟩ := hZ'; subst e')
  k_with "call ref" => (k_here; (with_reducible show wpAny _ _ (call (Value.ref 70) _) _ _ _); k_dflt (refine' Con.use (parse_con0 _ _ _ _ ?h1y10 ?h2y10 ?h3y10) ?k1y10 ?k2y10 ?k3y10 ?k4y10 ?k5y10 ?kKy10 ?kdy10 ?kuy10 ?_; (case k1y10 => k_asm); (case k2y10 => k_asm); (case k3y10 => k_asm); (case k4y10 => k_asm); (case k5y10 => k_asm); (case h2y10 => assumption); (case h3y10 => assumption); (case h1y10 => exact silent_total (by assumption)); (case kKy10 => first | exact rfl | assumption); (case kdy10 => ktr_room); (case kuy10 => ktr_units)); intro v9 n9 h9 t9 hp9 F9 N9; obtain ⟨⟨t8, e8⟩, e9⟩ := hp9; subst e9; subst e8; (try dsimp only); (try k_fold))
  k_with "call builtin:str.join" => (k_here; (with_reducible show wpAny _ _ (call (Value.builtin "str.join") [Value.str (PySem.Str.ofString "...") _, Value.ref _]) _ _ _); k_dflt (refine' join_two ?k1y11 ?k2y11 ?k3y11 ?_; (case k1y11 => exact News.isList (by k_asm) (by k_mem)); (case k2y11 => assumption); (case k3y11 => assumption)); intro tX kX hJ; (try dsimp only); (try k_fold))
  k_with "call ref" => (k_here; (with_reducible show wpAny _ _ (call (Value.ref 252) [_, _, Value.str (PySem.Str.ofString "..." ++ _) _, _]) _ _ _); (rename IsSigns _ => hy9y12); (rename All2 (LackT _ _ _) _ _ => hL9y12); k_dflt (refine' Con.use (kinds_T hy9y12 ?h1y12 ?h2y12 ?h3y12 ?h4y12 hL9y12) ?k1y12 ?k2y12 ?k3y12 ?k4y12 ?k5y12 ?kKy12 ?kdy12 ?kuy12 ?_); k_dflt ((case k1y12 => k_asm); (case k2y12 => k_asm); (case k3y12 => k_asm); (case k4y12 => exact news_add2 (by k_asm) (by k_mem) (by k_mem)); (case k5y12 => k_asm); (case h1y12 => assumption); (case h2y12 => assumption); (case h3y12 => assumption); (case h4y12 => assumption); (case kKy12 => first | exact rfl | assumption); (case kdy12 => ktr_room); (case kuy12 => ktr_units)); intro v9 n9 h9 t9 hp9 F9 N9; obtain ⟨e8, e9⟩ := hp9; subst e9; subst e8; (try dsimp only); (try k_fold))
  k_with "call ref" => (k_here; (with_reducible show wpAny _ _ (call (Value.ref 252) [_, _, Value.str (PySem.Str.ofString "" ++ _) _, _]) _ _ _); (rename IsSigns _ => hy9y13); (rename All2 (LackT _ _ _) _ _ => hL9y13); k_dflt (refine' Con.use (kinds_F hy9y13 ?h1y13 ?h2y13 ?h3y13 ?h4y13 hL9y13) ?k1y13 ?k2y13 ?k3y13 ?k4y13 ?k5y13 ?kKy13 ?kdy13 ?kuy13 ?_); k_dflt ((case k1y13 => k_asm); (case k2y13 => k_asm); (case k3y13 => k_asm); (case k4y13 => exact news_add2 (by k_asm) (by k_mem) (by k_mem)); (case k5y13 => k_asm); (case h1y13 => assumption); (case h2y13 => assumption); (case h3y13 => assumption); (case h4y13 => assumption); (case kKy13 => first | exact rfl | assumption); (case kdy13 => ktr_room); (case kuy13 => ktr_units)); intro v9 n9 h9 t9 hp9 F9 N9; obtain ⟨e8, e9⟩ := hp9; subst e9; subst e8; (try dsimp only); (try k_fold))
  w_strict k_steps
end Mine
end

set_option maxRecDepth 100000 in
set_option maxHeartbeats 8000000 in
theorem PySem.Challenge.cw_ux0027_01_holds : PySem.Challenge.rw_ux0027_01.Holds := by
  exact Mine.holds
