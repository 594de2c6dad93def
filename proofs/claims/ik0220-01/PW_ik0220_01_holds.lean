import PyProof.Rows.All
import Wide.All
import OpenK.AllK
import Wide.FinOn
import PySem.Challenge.RW_ik0220_01
open PySem PySem.W PySem.Spec PySem.Calls PyProof.Rows
set_option Elab.async false
set_option compiler.extract_closed false
set_option maxRecDepth 100000
set_option maxHeartbeats 8000000
namespace Mine
open PySem PySem.W
noncomputable def hkAt1 (i : Nat) : Option Stmt := PySem.Challenge.rw_ik0220_01.prog.main.body[i]?
noncomputable def hkAt2 (i j : Nat) : Option Stmt := match hkAt1 i with
  | some (.ClassDef _ _ _ b _ _ _ _ _ _ _) => b[j]?
  | _ => none
noncomputable def hkFn (s : Option Stmt) : Arguments × List Stmt × Scope := match s with
  | some (.FunctionDef _ a b _ _ _ sc _ _ _) => (a, b, sc)
  | _ => (⟨[], [], none, [], [], none, []⟩, [], ⟨.function, [], false, false, []⟩)
noncomputable def heapK : Params → Frag := fun P => by
  refine' (fun (a35 : Arguments) (_ : a35 = (hkFn (hkAt2 4 0)).1) (l35 : List Stmt) (_ : l35 = (hkFn (hkAt2 4 0)).2.1) (s35 : Scope) (_ : s35 = (hkFn (hkAt2 4 0)).2.2) (a42 : Arguments) (_ : a42 = (hkFn (hkAt2 4 1)).1) (l42 : List Stmt) (_ : l42 = (hkFn (hkAt2 4 1)).2.1) (s42 : Scope) (_ : s42 = (hkFn (hkAt2 4 1)).2.2) (a56 : Arguments) (_ : a56 = (hkFn (hkAt2 4 3)).1) (l56 : List Stmt) (_ : l56 = (hkFn (hkAt2 4 3)).2.1) (s56 : Scope) (_ : s56 = (hkFn (hkAt2 4 3)).2.2) (a91 : Arguments) (_ : a91 = (hkFn (hkAt2 4 8)).1) (l91 : List Stmt) (_ : l91 = (hkFn (hkAt2 4 8)).2.1) (s91 : Scope) (_ : s91 = (hkFn (hkAt2 4 8)).2.2) (a115 : Arguments) (_ : a115 = (hkFn (hkAt2 5 0)).1) (l115 : List Stmt) (_ : l115 = (hkFn (hkAt2 5 0)).2.1) (s115 : Scope) (_ : s115 = (hkFn (hkAt2 5 0)).2.2) (a122 : Arguments) (_ : a122 = (hkFn (hkAt2 5 1)).1) (l122 : List Stmt) (_ : l122 = (hkFn (hkAt2 5 1)).2.1) (s122 : Scope) (_ : s122 = (hkFn (hkAt2 5 1)).2.2) (a130 : Arguments) (_ : a130 = (hkFn (hkAt2 5 2)).1) (l130 : List Stmt) (_ : l130 = (hkFn (hkAt2 5 2)).2.1) (s130 : Scope) (_ : s130 = (hkFn (hkAt2 5 2)).2.2) (a138 : Arguments) (_ : a138 = (hkFn (hkAt2 5 3)).1) (l138 : List Stmt) (_ : l138 = (hkFn (hkAt2 5 3)).2.1) (s138 : Scope) (_ : s138 = (hkFn (hkAt2 5 3)).2.2) (a145 : Arguments) (_ : a145 = (hkFn (hkAt2 5 4)).1) (l145 : List Stmt) (_ : l145 = (hkFn (hkAt2 5 4)).2.1) (s145 : Scope) (_ : s145 = (hkFn (hkAt2 5 4)).2.2) (a152 : Arguments) (_ : a152 = (hkFn (hkAt2 5 5)).1) (l152 : List Stmt) (_ : l152 = (hkFn (hkAt2 5 5)).2.1) (s152 : Scope) (_ : s152 = (hkFn (hkAt2 5 5)).2.2) (a160 : Arguments) (_ : a160 = (hkFn (hkAt2 5 6)).1) (l160 : List Stmt) (_ : l160 = (hkFn (hkAt2 5 6)).2.1) (s160 : Scope) (_ : s160 = (hkFn (hkAt2 5 6)).2.2) (a167 : Arguments) (_ : a167 = (hkFn (hkAt2 5 7)).1) (l167 : List Stmt) (_ : l167 = (hkFn (hkAt2 5 7)).2.1) (s167 : Scope) (_ : s167 = (hkFn (hkAt2 5 7)).2.2) (a175 : Arguments) (_ : a175 = (hkFn (hkAt2 5 8)).1) (l175 : List Stmt) (_ : l175 = (hkFn (hkAt2 5 8)).2.1) (s175 : Scope) (_ : s175 = (hkFn (hkAt2 5 8)).2.2) (a189 : Arguments) (_ : a189 = (hkFn (hkAt1 7)).1) (l189 : List Stmt) (_ : l189 = (hkFn (hkAt1 7)).2.1) (s189 : Scope) (_ : s189 = (hkFn (hkAt1 7)).2.2) (a196 : Arguments) (_ : a196 = (hkFn (hkAt1 8)).1) (l196 : List Stmt) (_ : l196 = (hkFn (hkAt1 8)).2.1) (s196 : Scope) (_ : s196 = (hkFn (hkAt1 8)).2.2) (a203 : Arguments) (_ : a203 = (hkFn (hkAt1 9)).1) (l203 : List Stmt) (_ : l203 = (hkFn (hkAt1 9)).2.1) (s203 : Scope) (_ : s203 = (hkFn (hkAt1 9)).2.2) (a210 : Arguments) (_ : a210 = (hkFn (hkAt1 10)).1) (l210 : List Stmt) (_ : l210 = (hkFn (hkAt1 10)).2.1) (s210 : Scope) (_ : s210 = (hkFn (hkAt1 10)).2.2) (a283 : Arguments) (_ : a283 = (hkFn (hkAt1 19)).1) (l283 : List Stmt) (_ : l283 = (hkFn (hkAt1 19)).2.1) (s283 : Scope) (_ : s283 = (hkFn (hkAt1 19)).2.2) (a297 : Arguments) (_ : a297 = (hkFn (hkAt1 23)).1) (l297 : List Stmt) (_ : l297 = (hkFn (hkAt1 23)).2.1) (s297 : Scope) (_ : s297 = (hkFn (hkAt1 23)).2.2) (a304 : Arguments) (_ : a304 = (hkFn (hkAt1 24)).1) (l304 : List Stmt) (_ : l304 = (hkFn (hkAt1 24)).2.1) (s304 : Scope) (_ : s304 = (hkFn (hkAt1 24)).2.2) (a311 : Arguments) (_ : a311 = (hkFn (hkAt1 25)).1) (l311 : List Stmt) (_ : l311 = (hkFn (hkAt1 25)).2.1) (s311 : Scope) (_ : s311 = (hkFn (hkAt1 25)).2.2) (a318 : Arguments) (_ : a318 = (hkFn (hkAt1 26)).1) (l318 : List Stmt) (_ : l318 = (hkFn (hkAt1 26)).2.1) (s318 : Scope) (_ : s318 = (hkFn (hkAt1 26)).2.2) (a325 : Arguments) (_ : a325 = (hkFn (hkAt1 27)).1) (l325 : List Stmt) (_ : l325 = (hkFn (hkAt1 27)).2.1) (s325 : Scope) (_ : s325 = (hkFn (hkAt1 27)).2.2) (a332 : Arguments) (_ : a332 = (hkFn (hkAt1 29)).1) (l332 : List Stmt) (_ : l332 = (hkFn (hkAt1 29)).2.1) (s332 : Scope) (_ : s332 = (hkFn (hkAt1 29)).2.2) (a339 : Arguments) (_ : a339 = (hkFn (hkAt1 30)).1) (l339 : List Stmt) (_ : l339 = (hkFn (hkAt1 30)).2.1) (s339 : Scope) (_ : s339 = (hkFn (hkAt1 30)).2.2) (a346 : Arguments) (_ : a346 = (hkFn (hkAt1 31)).1) (l346 : List Stmt) (_ : l346 = (hkFn (hkAt1 31)).2.1) (s346 : Scope) (_ : s346 = (hkFn (hkAt1 31)).2.2) (a351 : Arguments) (_ : a351 = (hkFn (hkAt1 32)).1) (l351 : List Stmt) (_ : l351 = (hkFn (hkAt1 32)).2.1) (s351 : Scope) (_ : s351 = (hkFn (hkAt1 32)).2.2) (a356 : Arguments) (_ : a356 = (hkFn (hkAt1 33)).1) (l356 : List Stmt) (_ : l356 = (hkFn (hkAt1 33)).2.1) (s356 : Scope) (_ : s356 = (hkFn (hkAt1 33)).2.2) => ((nat_lit 2, (Obj.mk Value.none (@none Nat) (Data.dict (List.toArray []) (0 : Nat)) (List.toArray []))) ::
    (nat_lit 3, (Obj.mk (Value.type "dict") (@none Nat) (Data.dict (List.toArray ((DictEntry.mk (PyData.keyHash P (Str.ofString "__name__")) (Value.str (Str.ofString "__name__") (165 : Nat)) (Value.str (Str.ofString "law_ik0220_01") (615 : Nat))) :: (DictEntry.mk (PyData.keyHash P (Str.ofString "__doc__")) (Value.str (Str.ofString "__doc__") (166 : Nat)) Value.none) :: (DictEntry.mk (PyData.keyHash P (Str.ofString "__package__")) (Value.str (Str.ofString "__package__") (167 : Nat)) Value.none) :: (DictEntry.mk (PyData.keyHash P (Str.ofString "__loader__")) (Value.str (Str.ofString "__loader__") (168 : Nat)) (Value.builtin "__main__.__loader__#opaque")) :: (DictEntry.mk (PyData.keyHash P (Str.ofString "__spec__")) (Value.str (Str.ofString "__spec__") (169 : Nat)) Value.none) :: (DictEntry.mk (PyData.keyHash P (Str.ofString "__annotations__")) (Value.str (Str.ofString "__annotations__") (170 : Nat)) (Value.ref (6 : Nat))) :: (DictEntry.mk (PyData.keyHash P (Str.ofString "__builtins__")) (Value.str (Str.ofString "__builtins__") (171 : Nat)) (Value.ref (4 : Nat))) :: (DictEntry.mk (PyData.keyHash P (Str.ofString "__file__")) (Value.str (Str.ofString "__file__") (173 : Nat)) (Value.str (Str.ofString "/claim/cut.py") (172 : Nat))) :: (DictEntry.mk (PyData.keyHash P (Str.ofString "__cached__")) (Value.str (Str.ofString "__cached__") (174 : Nat)) Value.none) :: (DictEntry.mk (PyData.keyHash P (Str.ofString "_wall")) (Value.str (Str.ofString "_wall") (193 : Nat)) (Value.ref (21 : Nat))) :: (DictEntry.mk (PyData.keyHash P (Str.ofString "NL")) (Value.str (Str.ofString "NL") (197 : Nat)) (Value.str (Str.ofString "\n") (196 : Nat))) :: (DictEntry.mk (PyData.keyHash P (Str.ofString "EMPTYSTRING")) (Value.str (Str.ofString "EMPTYSTRING") (199 : Nat)) (Value.str (Str.ofString "") (198 : Nat))) :: (DictEntry.mk (PyData.keyHash P (Str.ofString "_ValueFormatter")) (Value.str (Str.ofString "_ValueFormatter") (307 : Nat)) (Value.ref (94 : Nat))) :: (DictEntry.mk (PyData.keyHash P (Str.ofString "_Accumulator")) (Value.str (Str.ofString "_Accumulator") (403 : Nat)) (Value.ref (178 : Nat))) :: (DictEntry.mk (PyData.keyHash P (Str.ofString "heappush")) (Value.str (Str.ofString "heappush") (413 : Nat)) (Value.ref (189 : Nat))) :: (DictEntry.mk (PyData.keyHash P (Str.ofString "heappop")) (Value.str (Str.ofString "heappop") (422 : Nat)) (Value.ref (196 : Nat))) :: (DictEntry.mk (PyData.keyHash P (Str.ofString "_siftdown")) (Value.str (Str.ofString "_siftdown") (434 : Nat)) (Value.ref (203 : Nat))) :: (DictEntry.mk (PyData.keyHash P (Str.ofString "_siftup")) (Value.str (Str.ofString "_siftup") (447 : Nat)) (Value.ref (210 : Nat))) :: (DictEntry.mk (PyData.keyHash P (Str.ofString "_plain_name")) (Value.str (Str.ofString "_plain_name") (458 : Nat)) (Value.ref (217 : Nat))) :: (DictEntry.mk (PyData.keyHash P (Str.ofString "ABCMeta")) (Value.str (Str.ofString "ABCMeta") (484 : Nat)) (Value.ref (234 : Nat))) :: (DictEntry.mk (PyData.keyHash P (Str.ofString "_ABCLike")) (Value.str (Str.ofString "_ABCLike") (527 : Nat)) (Value.ref (267 : Nat))) :: (DictEntry.mk (PyData.keyHash P (Str.ofString "_abc_plain_meta")) (Value.str (Str.ofString "_abc_plain_meta") (534 : Nat)) (Value.ref (276 : Nat))) :: (DictEntry.mk (PyData.keyHash P (Str.ofString "fspath")) (Value.str (Str.ofString "fspath") (546 : Nat)) (Value.ref (283 : Nat))) :: (DictEntry.mk (PyData.keyHash P (Str.ofString "_check_arg_types")) (Value.str (Str.ofString "_check_arg_types") (559 : Nat)) (Value.ref (290 : Nat))) :: (DictEntry.mk (PyData.keyHash P (Str.ofString "_get_sep")) (Value.str (Str.ofString "_get_sep") (568 : Nat)) (Value.ref (297 : Nat))) :: (DictEntry.mk (PyData.keyHash P (Str.ofString "join")) (Value.str (Str.ofString "join") (579 : Nat)) (Value.ref (304 : Nat))) :: (DictEntry.mk (PyData.keyHash P (Str.ofString "split")) (Value.str (Str.ofString "split") (590 : Nat)) (Value.ref (311 : Nat))) :: (DictEntry.mk (PyData.keyHash P (Str.ofString "splitroot")) (Value.str (Str.ofString "splitroot") (599 : Nat)) (Value.ref (318 : Nat))) :: (DictEntry.mk (PyData.keyHash P (Str.ofString "normpath")) (Value.str (Str.ofString "normpath") (614 : Nat)) (Value.ref (325 : Nat))) :: (DictEntry.mk (PyData.keyHash P (Str.ofString "_law_folded")) (Value.str (Str.ofString "_law_folded") (626 : Nat)) (Value.ref (332 : Nat))) :: (DictEntry.mk (PyData.keyHash P (Str.ofString "_law_least_width")) (Value.str (Str.ofString "_law_least_width") (640 : Nat)) (Value.ref (339 : Nat))) :: (DictEntry.mk (PyData.keyHash P (Str.ofString "_law_read_from_the_end")) (Value.str (Str.ofString "_law_read_from_the_end") (650 : Nat)) (Value.ref (346 : Nat))) :: (DictEntry.mk (PyData.keyHash P (Str.ofString "_law_rows_hold")) (Value.str (Str.ofString "_law_rows_hold") (656 : Nat)) (Value.ref (351 : Nat))) :: (DictEntry.mk (PyData.keyHash P (Str.ofString "law")) (Value.str (Str.ofString "law") (662 : Nat)) (Value.ref (356 : Nat))) :: [])) (34 : Nat)) (List.toArray []))) ::
    (nat_lit 34, (Obj.mk (Value.type "code") (@none Nat) (Data.fields (List.toArray ((Value.str (Str.ofString "__init__") (212 : Nat)) :: (Value.str (Str.ofString "_ValueFormatter.__init__") (213 : Nat)) :: (Value.str (Str.ofString "/claim/cut.py") (214 : Nat)) :: (Value.int (9 : Int) (0 : Nat)) :: (Value.int (5 : Int) (0 : Nat)) :: (Value.int (0 : Int) (0 : Nat)) :: (Value.int (0 : Int) (0 : Nat)) :: (Value.int (3 : Int) (0 : Nat)) :: (Value.ref (29 : Nat)) :: (Value.bool Bool.true) :: (Value.int (181 : Int) (0 : Nat)) :: (Value.ref (30 : Nat)) :: Value.none :: (Value.ref (31 : Nat)) :: (Value.ref (32 : Nat)) :: (Value.ref (33 : Nat)) :: (Value.int (220 : Int) (0 : Nat)) :: (Value.int (9 : Int) (0 : Nat)) :: (Value.str (Str.ofString "/claim/cut.py") (221 : Nat)) :: []))) (List.toArray []))) ::
    (nat_lit 35, (Obj.mk (Value.type "function") (@none Nat) (Data.func (FuncData.mk (Str.ofString "__init__") (Str.ofString "_ValueFormatter.__init__") a35 (FuncBody.stmts l35) s35 (3 : Nat) [] Value.none Value.none Value.none (Value.str (Str.ofString "cpy313.email.header") (194 : Nat)) (@none Nat) (Value.ref (34 : Nat)) Value.none (0 : Nat))) (List.toArray []))) ::
    (nat_lit 41, (Obj.mk (Value.type "code") (@none Nat) (Data.fields (List.toArray ((Value.str (Str.ofString "_str") (223 : Nat)) :: (Value.str (Str.ofString "_ValueFormatter._str") (224 : Nat)) :: (Value.str (Str.ofString "/claim/cut.py") (225 : Nat)) :: (Value.int (17 : Int) (0 : Nat)) :: (Value.int (2 : Int) (0 : Nat)) :: (Value.int (0 : Int) (0 : Nat)) :: (Value.int (0 : Int) (0 : Nat)) :: (Value.int (3 : Int) (0 : Nat)) :: (Value.ref (36 : Nat)) :: (Value.bool Bool.true) :: (Value.int (181 : Int) (0 : Nat)) :: (Value.ref (37 : Nat)) :: Value.none :: (Value.ref (38 : Nat)) :: (Value.ref (39 : Nat)) :: (Value.ref (40 : Nat)) :: (Value.int (228 : Int) (0 : Nat)) :: (Value.int (17 : Int) (0 : Nat)) :: (Value.str (Str.ofString "/claim/cut.py") (229 : Nat)) :: []))) (List.toArray []))) ::
    (nat_lit 42, (Obj.mk (Value.type "function") (@none Nat) (Data.func (FuncData.mk (Str.ofString "_str") (Str.ofString "_ValueFormatter._str") a42 (FuncBody.stmts l42) s42 (3 : Nat) [] Value.none Value.none Value.none (Value.str (Str.ofString "cpy313.email.header") (194 : Nat)) (@none Nat) (Value.ref (41 : Nat)) Value.none (0 : Nat))) (List.toArray []))) ::
    (nat_lit 55, (Obj.mk (Value.type "code") (@none Nat) (Data.fields (List.toArray ((Value.str (Str.ofString "newline") (238 : Nat)) :: (Value.str (Str.ofString "_ValueFormatter.newline") (239 : Nat)) :: (Value.str (Str.ofString "/claim/cut.py") (240 : Nat)) :: (Value.int (24 : Int) (0 : Nat)) :: (Value.int (1 : Int) (0 : Nat)) :: (Value.int (0 : Int) (0 : Nat)) :: (Value.int (0 : Int) (0 : Nat)) :: (Value.int (3 : Int) (0 : Nat)) :: (Value.ref (50 : Nat)) :: (Value.bool Bool.true) :: (Value.int (181 : Int) (0 : Nat)) :: (Value.ref (51 : Nat)) :: Value.none :: (Value.ref (52 : Nat)) :: (Value.ref (53 : Nat)) :: (Value.ref (54 : Nat)) :: (Value.int (243 : Int) (0 : Nat)) :: (Value.int (24 : Int) (0 : Nat)) :: (Value.str (Str.ofString "/claim/cut.py") (244 : Nat)) :: []))) (List.toArray []))) ::
    (nat_lit 56, (Obj.mk (Value.type "function") (@none Nat) (Data.func (FuncData.mk (Str.ofString "newline") (Str.ofString "_ValueFormatter.newline") a56 (FuncBody.stmts l56) s56 (3 : Nat) [] Value.none Value.none Value.none (Value.str (Str.ofString "cpy313.email.header") (194 : Nat)) (@none Nat) (Value.ref (55 : Nat)) Value.none (0 : Nat))) (List.toArray []))) ::
    (nat_lit 90, (Obj.mk (Value.type "code") (@none Nat) (Data.fields (List.toArray ((Value.str (Str.ofString "_append_chunk") (280 : Nat)) :: (Value.str (Str.ofString "_ValueFormatter._append_chunk") (281 : Nat)) :: (Value.str (Str.ofString "/claim/cut.py") (282 : Nat)) :: (Value.int (47 : Int) (0 : Nat)) :: (Value.int (3 : Int) (0 : Nat)) :: (Value.int (0 : Int) (0 : Nat)) :: (Value.int (0 : Int) (0 : Nat)) :: (Value.int (3 : Int) (0 : Nat)) :: (Value.ref (85 : Nat)) :: (Value.bool Bool.true) :: (Value.int (181 : Int) (0 : Nat)) :: (Value.ref (86 : Nat)) :: Value.none :: (Value.ref (87 : Nat)) :: (Value.ref (88 : Nat)) :: (Value.ref (89 : Nat)) :: (Value.int (291 : Int) (0 : Nat)) :: (Value.int (47 : Int) (0 : Nat)) :: (Value.str (Str.ofString "/claim/cut.py") (292 : Nat)) :: []))) (List.toArray []))) ::
    (nat_lit 91, (Obj.mk (Value.type "function") (@none Nat) (Data.func (FuncData.mk (Str.ofString "_append_chunk") (Str.ofString "_ValueFormatter._append_chunk") a91 (FuncBody.stmts l91) s91 (3 : Nat) [] Value.none Value.none Value.none (Value.str (Str.ofString "cpy313.email.header") (194 : Nat)) (@none Nat) (Value.ref (90 : Nat)) Value.none (0 : Nat))) (List.toArray []))) ::
    (nat_lit 93, (Obj.mk (Value.type "dict") (@none Nat) (Data.dict (List.toArray ((DictEntry.mk (PyData.keyHash P (Str.ofString "__module__")) (Value.str (Str.ofString "__module__") (207 : Nat)) (Value.str (Str.ofString "cpy313.email.header") (194 : Nat))) :: (DictEntry.mk (PyData.keyHash P (Str.ofString "__firstlineno__")) (Value.str (Str.ofString "__firstlineno__") (211 : Nat)) (Value.int (7 : Int) (210 : Nat))) :: (DictEntry.mk (PyData.keyHash P (Str.ofString "__init__")) (Value.str (Str.ofString "__init__") (222 : Nat)) (Value.ref (35 : Nat))) :: (DictEntry.mk (PyData.keyHash P (Str.ofString "_str")) (Value.str (Str.ofString "_str") (230 : Nat)) (Value.ref (42 : Nat))) :: (DictEntry.mk (PyData.keyHash P (Str.ofString "__str__")) (Value.str (Str.ofString "__str__") (237 : Nat)) (Value.ref (49 : Nat))) :: (DictEntry.mk (PyData.keyHash P (Str.ofString "newline")) (Value.str (Str.ofString "newline") (245 : Nat)) (Value.ref (56 : Nat))) :: (DictEntry.mk (PyData.keyHash P (Str.ofString "add_transition")) (Value.str (Str.ofString "add_transition") (252 : Nat)) (Value.ref (63 : Nat))) :: (DictEntry.mk (PyData.keyHash P (Str.ofString "feed")) (Value.str (Str.ofString "feed") (262 : Nat)) (Value.ref (70 : Nat))) :: (DictEntry.mk (PyData.keyHash P (Str.ofString "_maxlengths")) (Value.str (Str.ofString "_maxlengths") (269 : Nat)) (Value.ref (77 : Nat))) :: (DictEntry.mk (PyData.keyHash P (Str.ofString "_ascii_split")) (Value.str (Str.ofString "_ascii_split") (279 : Nat)) (Value.ref (84 : Nat))) :: (DictEntry.mk (PyData.keyHash P (Str.ofString "_append_chunk")) (Value.str (Str.ofString "_append_chunk") (293 : Nat)) (Value.ref (91 : Nat))) :: (DictEntry.mk (PyData.keyHash P (Str.ofString "__static_attributes__")) (Value.str (Str.ofString "__static_attributes__") (300 : Nat)) (Value.ref (92 : Nat))) :: (DictEntry.mk (PyData.keyHash P (Str.ofString "__dict__")) (Value.str (Str.ofString "__dict__") (302 : Nat)) (Value.ref (95 : Nat))) :: (DictEntry.mk (PyData.keyHash P (Str.ofString "__weakref__")) (Value.str (Str.ofString "__weakref__") (304 : Nat)) (Value.ref (96 : Nat))) :: (DictEntry.mk (PyData.keyHash P (Str.ofString "__doc__")) (Value.str (Str.ofString "__doc__") (305 : Nat)) Value.none) :: [])) (4 : Nat)) (List.toArray []))) ::
    (nat_lit 94, (Obj.mk (Value.type "type") (@none Nat) (Data.cls (ClassData.mk (Str.ofString "_ValueFormatter") [(Value.type "object")] [(Value.ref (94 : Nat)), (Value.type "object")] (93 : Nat) (Str.ofString "_ValueFormatter") Bool.true [] [] Bool.false none Bool.false)) (List.toArray (none :: none :: (some (Value.str (Str.ofString "_ValueFormatter") (200 : Nat))) :: (some (Value.str (Str.ofString "_ValueFormatter") (208 : Nat))) :: (some (Value.builtin "object.__new__")) :: (some (Value.bool Bool.true)) :: [])))) ::
    (nat_lit 102, (Obj.mk (Value.type "cell") (@none Nat) (Data.cell (some (Value.ref (178 : Nat)))) (List.toArray []))) ::
    (nat_lit 107, (Obj.mk (Value.type "tuple") (@none Nat) (Data.seq (List.toArray [(Value.int (0 : Int) (320 : Nat))]) (0 : Nat)) (List.toArray []))) ::
    (nat_lit 108, (Obj.mk (Value.type "tuple") (@none Nat) (Data.seq (List.toArray [(Value.ref (102 : Nat))]) (0 : Nat)) (List.toArray []))) ::
    (nat_lit 114, (Obj.mk (Value.type "code") (@none Nat) (Data.fields (List.toArray ((Value.str (Str.ofString "__init__") (321 : Nat)) :: (Value.str (Str.ofString "_Accumulator.__init__") (322 : Nat)) :: (Value.str (Str.ofString "/claim/cut.py") (323 : Nat)) :: (Value.int (75 : Int) (0 : Nat)) :: (Value.int (2 : Int) (0 : Nat)) :: (Value.int (0 : Int) (0 : Nat)) :: (Value.int (0 : Int) (0 : Nat)) :: (Value.int (3 : Int) (0 : Nat)) :: (Value.ref (109 : Nat)) :: (Value.bool Bool.true) :: (Value.int (181 : Int) (0 : Nat)) :: (Value.ref (110 : Nat)) :: Value.none :: (Value.ref (111 : Nat)) :: (Value.ref (112 : Nat)) :: (Value.ref (113 : Nat)) :: (Value.int (327 : Int) (0 : Nat)) :: (Value.int (75 : Int) (0 : Nat)) :: (Value.str (Str.ofString "/claim/cut.py") (328 : Nat)) :: []))) (List.toArray []))) ::
    (nat_lit 115, (Obj.mk (Value.type "function") (@none Nat) (Data.func (FuncData.mk (Str.ofString "__init__") (Str.ofString "_Accumulator.__init__") a115 (FuncBody.stmts l115) s115 (3 : Nat) [((Str.ofString "__class__"), (102 : Nat))] (Value.ref (107 : Nat)) Value.none Value.none (Value.str (Str.ofString "cpy313.email.header") (194 : Nat)) (@none Nat) (Value.ref (114 : Nat)) (Value.ref (108 : Nat)) (0 : Nat))) (List.toArray []))) ::
    (nat_lit 121, (Obj.mk (Value.type "code") (@none Nat) (Data.fields (List.toArray ((Value.str (Str.ofString "push") (330 : Nat)) :: (Value.str (Str.ofString "_Accumulator.push") (331 : Nat)) :: (Value.str (Str.ofString "/claim/cut.py") (332 : Nat)) :: (Value.int (79 : Int) (0 : Nat)) :: (Value.int (3 : Int) (0 : Nat)) :: (Value.int (0 : Int) (0 : Nat)) :: (Value.int (0 : Int) (0 : Nat)) :: (Value.int (3 : Int) (0 : Nat)) :: (Value.ref (116 : Nat)) :: (Value.bool Bool.true) :: (Value.int (181 : Int) (0 : Nat)) :: (Value.ref (117 : Nat)) :: Value.none :: (Value.ref (118 : Nat)) :: (Value.ref (119 : Nat)) :: (Value.ref (120 : Nat)) :: (Value.int (336 : Int) (0 : Nat)) :: (Value.int (79 : Int) (0 : Nat)) :: (Value.str (Str.ofString "/claim/cut.py") (337 : Nat)) :: []))) (List.toArray []))) ::
    (nat_lit 122, (Obj.mk (Value.type "function") (@none Nat) (Data.func (FuncData.mk (Str.ofString "push") (Str.ofString "_Accumulator.push") a122 (FuncBody.stmts l122) s122 (3 : Nat) [] Value.none Value.none Value.none (Value.str (Str.ofString "cpy313.email.header") (194 : Nat)) (@none Nat) (Value.ref (121 : Nat)) Value.none (0 : Nat))) (List.toArray []))) ::
    (nat_lit 123, (Obj.mk (Value.type "tuple") (@none Nat) (Data.seq (List.toArray [(Value.int (0 : Int) (339 : Nat))]) (0 : Nat)) (List.toArray []))) ::
    (nat_lit 129, (Obj.mk (Value.type "code") (@none Nat) (Data.fields (List.toArray ((Value.str (Str.ofString "pop_from") (340 : Nat)) :: (Value.str (Str.ofString "_Accumulator.pop_from") (341 : Nat)) :: (Value.str (Str.ofString "/claim/cut.py") (342 : Nat)) :: (Value.int (82 : Int) (0 : Nat)) :: (Value.int (2 : Int) (0 : Nat)) :: (Value.int (0 : Int) (0 : Nat)) :: (Value.int (0 : Int) (0 : Nat)) :: (Value.int (3 : Int) (0 : Nat)) :: (Value.ref (124 : Nat)) :: (Value.bool Bool.true) :: (Value.int (181 : Int) (0 : Nat)) :: (Value.ref (125 : Nat)) :: Value.none :: (Value.ref (126 : Nat)) :: (Value.ref (127 : Nat)) :: (Value.ref (128 : Nat)) :: (Value.int (346 : Int) (0 : Nat)) :: (Value.int (82 : Int) (0 : Nat)) :: (Value.str (Str.ofString "/claim/cut.py") (347 : Nat)) :: []))) (List.toArray []))) ::
    (nat_lit 130, (Obj.mk (Value.type "function") (@none Nat) (Data.func (FuncData.mk (Str.ofString "pop_from") (Str.ofString "_Accumulator.pop_from") a130 (FuncBody.stmts l130) s130 (3 : Nat) [] (Value.ref (123 : Nat)) Value.none Value.none (Value.str (Str.ofString "cpy313.email.header") (194 : Nat)) (@none Nat) (Value.ref (129 : Nat)) Value.none (0 : Nat))) (List.toArray []))) ::
    (nat_lit 131, (Obj.mk (Value.type "tuple") (@none Nat) (Data.seq (List.toArray [(Value.ref (102 : Nat))]) (0 : Nat)) (List.toArray []))) ::
    (nat_lit 137, (Obj.mk (Value.type "code") (@none Nat) (Data.fields (List.toArray ((Value.str (Str.ofString "pop") (349 : Nat)) :: (Value.str (Str.ofString "_Accumulator.pop") (350 : Nat)) :: (Value.str (Str.ofString "/claim/cut.py") (351 : Nat)) :: (Value.int (87 : Int) (0 : Nat)) :: (Value.int (1 : Int) (0 : Nat)) :: (Value.int (0 : Int) (0 : Nat)) :: (Value.int (0 : Int) (0 : Nat)) :: (Value.int (3 : Int) (0 : Nat)) :: (Value.ref (132 : Nat)) :: (Value.bool Bool.true) :: (Value.int (181 : Int) (0 : Nat)) :: (Value.ref (133 : Nat)) :: Value.none :: (Value.ref (134 : Nat)) :: (Value.ref (135 : Nat)) :: (Value.ref (136 : Nat)) :: (Value.int (354 : Int) (0 : Nat)) :: (Value.int (87 : Int) (0 : Nat)) :: (Value.str (Str.ofString "/claim/cut.py") (355 : Nat)) :: []))) (List.toArray []))) ::
    (nat_lit 138, (Obj.mk (Value.type "function") (@none Nat) (Data.func (FuncData.mk (Str.ofString "pop") (Str.ofString "_Accumulator.pop") a138 (FuncBody.stmts l138) s138 (3 : Nat) [((Str.ofString "__class__"), (102 : Nat))] Value.none Value.none Value.none (Value.str (Str.ofString "cpy313.email.header") (194 : Nat)) (@none Nat) (Value.ref (137 : Nat)) (Value.ref (131 : Nat)) (0 : Nat))) (List.toArray []))) ::
    (nat_lit 144, (Obj.mk (Value.type "code") (@none Nat) (Data.fields (List.toArray ((Value.str (Str.ofString "__len__") (357 : Nat)) :: (Value.str (Str.ofString "_Accumulator.__len__") (358 : Nat)) :: (Value.str (Str.ofString "/claim/cut.py") (359 : Nat)) :: (Value.int (92 : Int) (0 : Nat)) :: (Value.int (1 : Int) (0 : Nat)) :: (Value.int (0 : Int) (0 : Nat)) :: (Value.int (0 : Int) (0 : Nat)) :: (Value.int (3 : Int) (0 : Nat)) :: (Value.ref (139 : Nat)) :: (Value.bool Bool.true) :: (Value.int (181 : Int) (0 : Nat)) :: (Value.ref (140 : Nat)) :: Value.none :: (Value.ref (141 : Nat)) :: (Value.ref (142 : Nat)) :: (Value.ref (143 : Nat)) :: (Value.int (361 : Int) (0 : Nat)) :: (Value.int (92 : Int) (0 : Nat)) :: (Value.str (Str.ofString "/claim/cut.py") (362 : Nat)) :: []))) (List.toArray []))) ::
    (nat_lit 145, (Obj.mk (Value.type "function") (@none Nat) (Data.func (FuncData.mk (Str.ofString "__len__") (Str.ofString "_Accumulator.__len__") a145 (FuncBody.stmts l145) s145 (3 : Nat) [] Value.none Value.none Value.none (Value.str (Str.ofString "cpy313.email.header") (194 : Nat)) (@none Nat) (Value.ref (144 : Nat)) Value.none (0 : Nat))) (List.toArray []))) ::
    (nat_lit 151, (Obj.mk (Value.type "code") (@none Nat) (Data.fields (List.toArray ((Value.str (Str.ofString "__str__") (364 : Nat)) :: (Value.str (Str.ofString "_Accumulator.__str__") (365 : Nat)) :: (Value.str (Str.ofString "/claim/cut.py") (366 : Nat)) :: (Value.int (95 : Int) (0 : Nat)) :: (Value.int (1 : Int) (0 : Nat)) :: (Value.int (0 : Int) (0 : Nat)) :: (Value.int (0 : Int) (0 : Nat)) :: (Value.int (3 : Int) (0 : Nat)) :: (Value.ref (146 : Nat)) :: (Value.bool Bool.true) :: (Value.int (181 : Int) (0 : Nat)) :: (Value.ref (147 : Nat)) :: Value.none :: (Value.ref (148 : Nat)) :: (Value.ref (149 : Nat)) :: (Value.ref (150 : Nat)) :: (Value.int (368 : Int) (0 : Nat)) :: (Value.int (95 : Int) (0 : Nat)) :: (Value.str (Str.ofString "/claim/cut.py") (369 : Nat)) :: []))) (List.toArray []))) ::
    (nat_lit 152, (Obj.mk (Value.type "function") (@none Nat) (Data.func (FuncData.mk (Str.ofString "__str__") (Str.ofString "_Accumulator.__str__") a152 (FuncBody.stmts l152) s152 (3 : Nat) [] Value.none Value.none Value.none (Value.str (Str.ofString "cpy313.email.header") (194 : Nat)) (@none Nat) (Value.ref (151 : Nat)) Value.none (0 : Nat))) (List.toArray []))) ::
    (nat_lit 153, (Obj.mk (Value.type "tuple") (@none Nat) (Data.seq (List.toArray [Value.none]) (0 : Nat)) (List.toArray []))) ::
    (nat_lit 159, (Obj.mk (Value.type "code") (@none Nat) (Data.fields (List.toArray ((Value.str (Str.ofString "reset") (371 : Nat)) :: (Value.str (Str.ofString "_Accumulator.reset") (372 : Nat)) :: (Value.str (Str.ofString "/claim/cut.py") (373 : Nat)) :: (Value.int (98 : Int) (0 : Nat)) :: (Value.int (2 : Int) (0 : Nat)) :: (Value.int (0 : Int) (0 : Nat)) :: (Value.int (0 : Int) (0 : Nat)) :: (Value.int (3 : Int) (0 : Nat)) :: (Value.ref (154 : Nat)) :: (Value.bool Bool.true) :: (Value.int (181 : Int) (0 : Nat)) :: (Value.ref (155 : Nat)) :: Value.none :: (Value.ref (156 : Nat)) :: (Value.ref (157 : Nat)) :: (Value.ref (158 : Nat)) :: (Value.int (376 : Int) (0 : Nat)) :: (Value.int (98 : Int) (0 : Nat)) :: (Value.str (Str.ofString "/claim/cut.py") (377 : Nat)) :: []))) (List.toArray []))) ::
    (nat_lit 160, (Obj.mk (Value.type "function") (@none Nat) (Data.func (FuncData.mk (Str.ofString "reset") (Str.ofString "_Accumulator.reset") a160 (FuncBody.stmts l160) s160 (3 : Nat) [] (Value.ref (153 : Nat)) Value.none Value.none (Value.str (Str.ofString "cpy313.email.header") (194 : Nat)) (@none Nat) (Value.ref (159 : Nat)) Value.none (0 : Nat))) (List.toArray []))) ::
    (nat_lit 166, (Obj.mk (Value.type "code") (@none Nat) (Data.fields (List.toArray ((Value.str (Str.ofString "is_onlyws") (379 : Nat)) :: (Value.str (Str.ofString "_Accumulator.is_onlyws") (380 : Nat)) :: (Value.str (Str.ofString "/claim/cut.py") (381 : Nat)) :: (Value.int (104 : Int) (0 : Nat)) :: (Value.int (1 : Int) (0 : Nat)) :: (Value.int (0 : Int) (0 : Nat)) :: (Value.int (0 : Int) (0 : Nat)) :: (Value.int (3 : Int) (0 : Nat)) :: (Value.ref (161 : Nat)) :: (Value.bool Bool.true) :: (Value.int (181 : Int) (0 : Nat)) :: (Value.ref (162 : Nat)) :: Value.none :: (Value.ref (163 : Nat)) :: (Value.ref (164 : Nat)) :: (Value.ref (165 : Nat)) :: (Value.int (383 : Int) (0 : Nat)) :: (Value.int (104 : Int) (0 : Nat)) :: (Value.str (Str.ofString "/claim/cut.py") (384 : Nat)) :: []))) (List.toArray []))) ::
    (nat_lit 167, (Obj.mk (Value.type "function") (@none Nat) (Data.func (FuncData.mk (Str.ofString "is_onlyws") (Str.ofString "_Accumulator.is_onlyws") a167 (FuncBody.stmts l167) s167 (3 : Nat) [] Value.none Value.none Value.none (Value.str (Str.ofString "cpy313.email.header") (194 : Nat)) (@none Nat) (Value.ref (166 : Nat)) Value.none (0 : Nat))) (List.toArray []))) ::
    (nat_lit 168, (Obj.mk (Value.type "tuple") (@none Nat) (Data.seq (List.toArray [(Value.ref (102 : Nat))]) (0 : Nat)) (List.toArray []))) ::
    (nat_lit 174, (Obj.mk (Value.type "code") (@none Nat) (Data.fields (List.toArray ((Value.str (Str.ofString "part_count") (386 : Nat)) :: (Value.str (Str.ofString "_Accumulator.part_count") (387 : Nat)) :: (Value.str (Str.ofString "/claim/cut.py") (388 : Nat)) :: (Value.int (107 : Int) (0 : Nat)) :: (Value.int (1 : Int) (0 : Nat)) :: (Value.int (0 : Int) (0 : Nat)) :: (Value.int (0 : Int) (0 : Nat)) :: (Value.int (3 : Int) (0 : Nat)) :: (Value.ref (169 : Nat)) :: (Value.bool Bool.true) :: (Value.int (181 : Int) (0 : Nat)) :: (Value.ref (170 : Nat)) :: Value.none :: (Value.ref (171 : Nat)) :: (Value.ref (172 : Nat)) :: (Value.ref (173 : Nat)) :: (Value.int (391 : Int) (0 : Nat)) :: (Value.int (107 : Int) (0 : Nat)) :: (Value.str (Str.ofString "/claim/cut.py") (392 : Nat)) :: []))) (List.toArray []))) ::
    (nat_lit 175, (Obj.mk (Value.type "function") (@none Nat) (Data.func (FuncData.mk (Str.ofString "part_count") (Str.ofString "_Accumulator.part_count") a175 (FuncBody.stmts l175) s175 (3 : Nat) [((Str.ofString "__class__"), (102 : Nat))] Value.none Value.none Value.none (Value.str (Str.ofString "cpy313.email.header") (194 : Nat)) (@none Nat) (Value.ref (174 : Nat)) (Value.ref (168 : Nat)) (0 : Nat))) (List.toArray []))) ::
    (nat_lit 177, (Obj.mk (Value.type "dict") (@none Nat) (Data.dict (List.toArray ((DictEntry.mk (PyData.keyHash P (Str.ofString "__module__")) (Value.str (Str.ofString "__module__") (315 : Nat)) (Value.str (Str.ofString "cpy313.email.header") (194 : Nat))) :: (DictEntry.mk (PyData.keyHash P (Str.ofString "__firstlineno__")) (Value.str (Str.ofString "__firstlineno__") (319 : Nat)) (Value.int (73 : Int) (318 : Nat))) :: (DictEntry.mk (PyData.keyHash P (Str.ofString "__init__")) (Value.str (Str.ofString "__init__") (329 : Nat)) (Value.ref (115 : Nat))) :: (DictEntry.mk (PyData.keyHash P (Str.ofString "push")) (Value.str (Str.ofString "push") (338 : Nat)) (Value.ref (122 : Nat))) :: (DictEntry.mk (PyData.keyHash P (Str.ofString "pop_from")) (Value.str (Str.ofString "pop_from") (348 : Nat)) (Value.ref (130 : Nat))) :: (DictEntry.mk (PyData.keyHash P (Str.ofString "pop")) (Value.str (Str.ofString "pop") (356 : Nat)) (Value.ref (138 : Nat))) :: (DictEntry.mk (PyData.keyHash P (Str.ofString "__len__")) (Value.str (Str.ofString "__len__") (363 : Nat)) (Value.ref (145 : Nat))) :: (DictEntry.mk (PyData.keyHash P (Str.ofString "__str__")) (Value.str (Str.ofString "__str__") (370 : Nat)) (Value.ref (152 : Nat))) :: (DictEntry.mk (PyData.keyHash P (Str.ofString "reset")) (Value.str (Str.ofString "reset") (378 : Nat)) (Value.ref (160 : Nat))) :: (DictEntry.mk (PyData.keyHash P (Str.ofString "is_onlyws")) (Value.str (Str.ofString "is_onlyws") (385 : Nat)) (Value.ref (167 : Nat))) :: (DictEntry.mk (PyData.keyHash P (Str.ofString "part_count")) (Value.str (Str.ofString "part_count") (393 : Nat)) (Value.ref (175 : Nat))) :: (DictEntry.mk (PyData.keyHash P (Str.ofString "__static_attributes__")) (Value.str (Str.ofString "__static_attributes__") (395 : Nat)) (Value.ref (176 : Nat))) :: (DictEntry.mk (PyData.keyHash P (Str.ofString "__dict__")) (Value.str (Str.ofString "__dict__") (398 : Nat)) (Value.ref (179 : Nat))) :: (DictEntry.mk (PyData.keyHash P (Str.ofString "__weakref__")) (Value.str (Str.ofString "__weakref__") (400 : Nat)) (Value.ref (180 : Nat))) :: (DictEntry.mk (PyData.keyHash P (Str.ofString "__doc__")) (Value.str (Str.ofString "__doc__") (401 : Nat)) Value.none) :: [])) (5 : Nat)) (List.toArray []))) ::
    (nat_lit 178, (Obj.mk (Value.type "type") (@none Nat) (Data.cls (ClassData.mk (Str.ofString "_Accumulator") [(Value.type "list")] [(Value.ref (178 : Nat)), (Value.type "list"), (Value.type "object")] (177 : Nat) (Str.ofString "_Accumulator") Bool.true [] [] Bool.false none Bool.false)) (List.toArray ((some (Value.ref (99 : Nat))) :: none :: (some (Value.str (Str.ofString "_Accumulator") (308 : Nat))) :: (some (Value.str (Str.ofString "_Accumulator") (316 : Nat))) :: (some (Value.builtin "list.__new__")) :: (some (Value.bool Bool.true)) :: [])))) ::
    (nat_lit 188, (Obj.mk (Value.type "code") (@none Nat) (Data.fields (List.toArray ((Value.str (Str.ofString "heappush") (406 : Nat)) :: (Value.str (Str.ofString "heappush") (407 : Nat)) :: (Value.str (Str.ofString "/claim/cut.py") (408 : Nat)) :: (Value.int (110 : Int) (0 : Nat)) :: (Value.int (2 : Int) (0 : Nat)) :: (Value.int (0 : Int) (0 : Nat)) :: (Value.int (0 : Int) (0 : Nat)) :: (Value.int (3 : Int) (0 : Nat)) :: (Value.ref (183 : Nat)) :: (Value.bool Bool.true) :: (Value.int (181 : Int) (0 : Nat)) :: (Value.ref (184 : Nat)) :: Value.none :: (Value.ref (185 : Nat)) :: (Value.ref (186 : Nat)) :: (Value.ref (187 : Nat)) :: (Value.int (411 : Int) (0 : Nat)) :: (Value.int (110 : Int) (0 : Nat)) :: (Value.str (Str.ofString "/claim/cut.py") (412 : Nat)) :: []))) (List.toArray []))) ::
    (nat_lit 189, (Obj.mk (Value.type "function") (@none Nat) (Data.func (FuncData.mk (Str.ofString "heappush") (Str.ofString "heappush") a189 (FuncBody.stmts l189) s189 (3 : Nat) [] Value.none Value.none Value.none (Value.str (Str.ofString "cpy313.heapq") (404 : Nat)) (@none Nat) (Value.ref (188 : Nat)) Value.none (0 : Nat))) (List.toArray []))) ::
    (nat_lit 195, (Obj.mk (Value.type "code") (@none Nat) (Data.fields (List.toArray ((Value.str (Str.ofString "heappop") (414 : Nat)) :: (Value.str (Str.ofString "heappop") (415 : Nat)) :: (Value.str (Str.ofString "/claim/cut.py") (416 : Nat)) :: (Value.int (113 : Int) (0 : Nat)) :: (Value.int (1 : Int) (0 : Nat)) :: (Value.int (0 : Int) (0 : Nat)) :: (Value.int (0 : Int) (0 : Nat)) :: (Value.int (3 : Int) (0 : Nat)) :: (Value.ref (190 : Nat)) :: (Value.bool Bool.true) :: (Value.int (181 : Int) (0 : Nat)) :: (Value.ref (191 : Nat)) :: Value.none :: (Value.ref (192 : Nat)) :: (Value.ref (193 : Nat)) :: (Value.ref (194 : Nat)) :: (Value.int (420 : Int) (0 : Nat)) :: (Value.int (113 : Int) (0 : Nat)) :: (Value.str (Str.ofString "/claim/cut.py") (421 : Nat)) :: []))) (List.toArray []))) ::
    (nat_lit 196, (Obj.mk (Value.type "function") (@none Nat) (Data.func (FuncData.mk (Str.ofString "heappop") (Str.ofString "heappop") a196 (FuncBody.stmts l196) s196 (3 : Nat) [] Value.none Value.none Value.none (Value.str (Str.ofString "cpy313.heapq") (404 : Nat)) (@none Nat) (Value.ref (195 : Nat)) Value.none (0 : Nat))) (List.toArray []))) ::
    (nat_lit 202, (Obj.mk (Value.type "code") (@none Nat) (Data.fields (List.toArray ((Value.str (Str.ofString "_siftdown") (423 : Nat)) :: (Value.str (Str.ofString "_siftdown") (424 : Nat)) :: (Value.str (Str.ofString "/claim/cut.py") (425 : Nat)) :: (Value.int (121 : Int) (0 : Nat)) :: (Value.int (3 : Int) (0 : Nat)) :: (Value.int (0 : Int) (0 : Nat)) :: (Value.int (0 : Int) (0 : Nat)) :: (Value.int (3 : Int) (0 : Nat)) :: (Value.ref (197 : Nat)) :: (Value.bool Bool.true) :: (Value.int (181 : Int) (0 : Nat)) :: (Value.ref (198 : Nat)) :: Value.none :: (Value.ref (199 : Nat)) :: (Value.ref (200 : Nat)) :: (Value.ref (201 : Nat)) :: (Value.int (432 : Int) (0 : Nat)) :: (Value.int (121 : Int) (0 : Nat)) :: (Value.str (Str.ofString "/claim/cut.py") (433 : Nat)) :: []))) (List.toArray []))) ::
    (nat_lit 203, (Obj.mk (Value.type "function") (@none Nat) (Data.func (FuncData.mk (Str.ofString "_siftdown") (Str.ofString "_siftdown") a203 (FuncBody.stmts l203) s203 (3 : Nat) [] Value.none Value.none Value.none (Value.str (Str.ofString "cpy313.heapq") (404 : Nat)) (@none Nat) (Value.ref (202 : Nat)) Value.none (0 : Nat))) (List.toArray []))) ::
    (nat_lit 209, (Obj.mk (Value.type "code") (@none Nat) (Data.fields (List.toArray ((Value.str (Str.ofString "_siftup") (435 : Nat)) :: (Value.str (Str.ofString "_siftup") (436 : Nat)) :: (Value.str (Str.ofString "/claim/cut.py") (437 : Nat)) :: (Value.int (132 : Int) (0 : Nat)) :: (Value.int (2 : Int) (0 : Nat)) :: (Value.int (0 : Int) (0 : Nat)) :: (Value.int (0 : Int) (0 : Nat)) :: (Value.int (3 : Int) (0 : Nat)) :: (Value.ref (204 : Nat)) :: (Value.bool Bool.true) :: (Value.int (181 : Int) (0 : Nat)) :: (Value.ref (205 : Nat)) :: Value.none :: (Value.ref (206 : Nat)) :: (Value.ref (207 : Nat)) :: (Value.ref (208 : Nat)) :: (Value.int (445 : Int) (0 : Nat)) :: (Value.int (132 : Int) (0 : Nat)) :: (Value.str (Str.ofString "/claim/cut.py") (446 : Nat)) :: []))) (List.toArray []))) ::
    (nat_lit 210, (Obj.mk (Value.type "function") (@none Nat) (Data.func (FuncData.mk (Str.ofString "_siftup") (Str.ofString "_siftup") a210 (FuncBody.stmts l210) s210 (3 : Nat) [] Value.none Value.none Value.none (Value.str (Str.ofString "cpy313.heapq") (404 : Nat)) (@none Nat) (Value.ref (209 : Nat)) Value.none (0 : Nat))) (List.toArray []))) ::
    (nat_lit 282, (Obj.mk (Value.type "code") (@none Nat) (Data.fields (List.toArray ((Value.str (Str.ofString "fspath") (537 : Nat)) :: (Value.str (Str.ofString "fspath") (538 : Nat)) :: (Value.str (Str.ofString "/claim/cut.py") (539 : Nat)) :: (Value.int (177 : Int) (0 : Nat)) :: (Value.int (1 : Int) (0 : Nat)) :: (Value.int (0 : Int) (0 : Nat)) :: (Value.int (0 : Int) (0 : Nat)) :: (Value.int (3 : Int) (0 : Nat)) :: (Value.ref (277 : Nat)) :: (Value.bool Bool.true) :: (Value.int (181 : Int) (0 : Nat)) :: (Value.ref (278 : Nat)) :: Value.none :: (Value.ref (279 : Nat)) :: (Value.ref (280 : Nat)) :: (Value.ref (281 : Nat)) :: (Value.int (544 : Int) (0 : Nat)) :: (Value.int (177 : Int) (0 : Nat)) :: (Value.str (Str.ofString "/claim/cut.py") (545 : Nat)) :: []))) (List.toArray []))) ::
    (nat_lit 283, (Obj.mk (Value.type "function") (@none Nat) (Data.func (FuncData.mk (Str.ofString "fspath") (Str.ofString "fspath") a283 (FuncBody.stmts l283) s283 (3 : Nat) [] Value.none Value.none Value.none (Value.str (Str.ofString "os") (535 : Nat)) (@none Nat) (Value.ref (282 : Nat)) Value.none (0 : Nat))) (List.toArray []))) ::
    (nat_lit 296, (Obj.mk (Value.type "code") (@none Nat) (Data.fields (List.toArray ((Value.str (Str.ofString "_get_sep") (562 : Nat)) :: (Value.str (Str.ofString "_get_sep") (563 : Nat)) :: (Value.str (Str.ofString "/claim/cut.py") (564 : Nat)) :: (Value.int (206 : Int) (0 : Nat)) :: (Value.int (1 : Int) (0 : Nat)) :: (Value.int (0 : Int) (0 : Nat)) :: (Value.int (0 : Int) (0 : Nat)) :: (Value.int (3 : Int) (0 : Nat)) :: (Value.ref (291 : Nat)) :: (Value.bool Bool.true) :: (Value.int (181 : Int) (0 : Nat)) :: (Value.ref (292 : Nat)) :: Value.none :: (Value.ref (293 : Nat)) :: (Value.ref (294 : Nat)) :: (Value.ref (295 : Nat)) :: (Value.int (566 : Int) (0 : Nat)) :: (Value.int (206 : Int) (0 : Nat)) :: (Value.str (Str.ofString "/claim/cut.py") (567 : Nat)) :: []))) (List.toArray []))) ::
    (nat_lit 297, (Obj.mk (Value.type "function") (@none Nat) (Data.func (FuncData.mk (Str.ofString "_get_sep") (Str.ofString "_get_sep") a297 (FuncBody.stmts l297) s297 (3 : Nat) [] Value.none Value.none Value.none (Value.str (Str.ofString "cpy313.posixpath") (560 : Nat)) (@none Nat) (Value.ref (296 : Nat)) Value.none (0 : Nat))) (List.toArray []))) ::
    (nat_lit 303, (Obj.mk (Value.type "code") (@none Nat) (Data.fields (List.toArray ((Value.str (Str.ofString "join") (569 : Nat)) :: (Value.str (Str.ofString "join") (570 : Nat)) :: (Value.str (Str.ofString "/claim/cut.py") (571 : Nat)) :: (Value.int (211 : Int) (0 : Nat)) :: (Value.int (1 : Int) (0 : Nat)) :: (Value.int (0 : Int) (0 : Nat)) :: (Value.int (0 : Int) (0 : Nat)) :: (Value.int (7 : Int) (0 : Nat)) :: (Value.ref (298 : Nat)) :: (Value.bool Bool.true) :: (Value.int (181 : Int) (0 : Nat)) :: (Value.ref (299 : Nat)) :: Value.none :: (Value.ref (300 : Nat)) :: (Value.ref (301 : Nat)) :: (Value.ref (302 : Nat)) :: (Value.int (577 : Int) (0 : Nat)) :: (Value.int (211 : Int) (0 : Nat)) :: (Value.str (Str.ofString "/claim/cut.py") (578 : Nat)) :: []))) (List.toArray []))) ::
    (nat_lit 304, (Obj.mk (Value.type "function") (@none Nat) (Data.func (FuncData.mk (Str.ofString "join") (Str.ofString "join") a304 (FuncBody.stmts l304) s304 (3 : Nat) [] Value.none Value.none Value.none (Value.str (Str.ofString "cpy313.posixpath") (560 : Nat)) (@none Nat) (Value.ref (303 : Nat)) Value.none (0 : Nat))) (List.toArray []))) ::
    (nat_lit 310, (Obj.mk (Value.type "code") (@none Nat) (Data.fields (List.toArray ((Value.str (Str.ofString "split") (580 : Nat)) :: (Value.str (Str.ofString "split") (581 : Nat)) :: (Value.str (Str.ofString "/claim/cut.py") (582 : Nat)) :: (Value.int (228 : Int) (0 : Nat)) :: (Value.int (1 : Int) (0 : Nat)) :: (Value.int (0 : Int) (0 : Nat)) :: (Value.int (0 : Int) (0 : Nat)) :: (Value.int (3 : Int) (0 : Nat)) :: (Value.ref (305 : Nat)) :: (Value.bool Bool.true) :: (Value.int (181 : Int) (0 : Nat)) :: (Value.ref (306 : Nat)) :: Value.none :: (Value.ref (307 : Nat)) :: (Value.ref (308 : Nat)) :: (Value.ref (309 : Nat)) :: (Value.int (588 : Int) (0 : Nat)) :: (Value.int (228 : Int) (0 : Nat)) :: (Value.str (Str.ofString "/claim/cut.py") (589 : Nat)) :: []))) (List.toArray []))) ::
    (nat_lit 311, (Obj.mk (Value.type "function") (@none Nat) (Data.func (FuncData.mk (Str.ofString "split") (Str.ofString "split") a311 (FuncBody.stmts l311) s311 (3 : Nat) [] Value.none Value.none Value.none (Value.str (Str.ofString "cpy313.posixpath") (560 : Nat)) (@none Nat) (Value.ref (310 : Nat)) Value.none (0 : Nat))) (List.toArray []))) ::
    (nat_lit 317, (Obj.mk (Value.type "code") (@none Nat) (Data.fields (List.toArray ((Value.str (Str.ofString "splitroot") (591 : Nat)) :: (Value.str (Str.ofString "splitroot") (592 : Nat)) :: (Value.str (Str.ofString "/claim/cut.py") (593 : Nat)) :: (Value.int (236 : Int) (0 : Nat)) :: (Value.int (1 : Int) (0 : Nat)) :: (Value.int (0 : Int) (0 : Nat)) :: (Value.int (0 : Int) (0 : Nat)) :: (Value.int (3 : Int) (0 : Nat)) :: (Value.ref (312 : Nat)) :: (Value.bool Bool.true) :: (Value.int (181 : Int) (0 : Nat)) :: (Value.ref (313 : Nat)) :: Value.none :: (Value.ref (314 : Nat)) :: (Value.ref (315 : Nat)) :: (Value.ref (316 : Nat)) :: (Value.int (597 : Int) (0 : Nat)) :: (Value.int (236 : Int) (0 : Nat)) :: (Value.str (Str.ofString "/claim/cut.py") (598 : Nat)) :: []))) (List.toArray []))) ::
    (nat_lit 318, (Obj.mk (Value.type "function") (@none Nat) (Data.func (FuncData.mk (Str.ofString "splitroot") (Str.ofString "splitroot") a318 (FuncBody.stmts l318) s318 (3 : Nat) [] Value.none Value.none Value.none (Value.str (Str.ofString "cpy313.posixpath") (560 : Nat)) (@none Nat) (Value.ref (317 : Nat)) Value.none (0 : Nat))) (List.toArray []))) ::
    (nat_lit 324, (Obj.mk (Value.type "code") (@none Nat) (Data.fields (List.toArray ((Value.str (Str.ofString "normpath") (600 : Nat)) :: (Value.str (Str.ofString "normpath") (601 : Nat)) :: (Value.str (Str.ofString "/claim/cut.py") (602 : Nat)) :: (Value.int (250 : Int) (0 : Nat)) :: (Value.int (1 : Int) (0 : Nat)) :: (Value.int (0 : Int) (0 : Nat)) :: (Value.int (0 : Int) (0 : Nat)) :: (Value.int (3 : Int) (0 : Nat)) :: (Value.ref (319 : Nat)) :: (Value.bool Bool.true) :: (Value.int (181 : Int) (0 : Nat)) :: (Value.ref (320 : Nat)) :: Value.none :: (Value.ref (321 : Nat)) :: (Value.ref (322 : Nat)) :: (Value.ref (323 : Nat)) :: (Value.int (612 : Int) (0 : Nat)) :: (Value.int (250 : Int) (0 : Nat)) :: (Value.str (Str.ofString "/claim/cut.py") (613 : Nat)) :: []))) (List.toArray []))) ::
    (nat_lit 325, (Obj.mk (Value.type "function") (@none Nat) (Data.func (FuncData.mk (Str.ofString "normpath") (Str.ofString "normpath") a325 (FuncBody.stmts l325) s325 (3 : Nat) [] Value.none Value.none Value.none (Value.str (Str.ofString "cpy313.posixpath") (560 : Nat)) (@none Nat) (Value.ref (324 : Nat)) Value.none (0 : Nat))) (List.toArray []))) ::
    (nat_lit 331, (Obj.mk (Value.type "code") (@none Nat) (Data.fields (List.toArray ((Value.str (Str.ofString "_law_folded") (617 : Nat)) :: (Value.str (Str.ofString "_law_folded") (618 : Nat)) :: (Value.str (Str.ofString "/claim/cut.py") (619 : Nat)) :: (Value.int (276 : Int) (0 : Nat)) :: (Value.int (2 : Int) (0 : Nat)) :: (Value.int (0 : Int) (0 : Nat)) :: (Value.int (0 : Int) (0 : Nat)) :: (Value.int (3 : Int) (0 : Nat)) :: (Value.ref (326 : Nat)) :: (Value.bool Bool.true) :: (Value.int (181 : Int) (0 : Nat)) :: (Value.ref (327 : Nat)) :: Value.none :: (Value.ref (328 : Nat)) :: (Value.ref (329 : Nat)) :: (Value.ref (330 : Nat)) :: (Value.int (624 : Int) (0 : Nat)) :: (Value.int (276 : Int) (0 : Nat)) :: (Value.str (Str.ofString "/claim/cut.py") (625 : Nat)) :: []))) (List.toArray []))) ::
    (nat_lit 332, (Obj.mk (Value.type "function") (@none Nat) (Data.func (FuncData.mk (Str.ofString "_law_folded") (Str.ofString "_law_folded") a332 (FuncBody.stmts l332) s332 (3 : Nat) [] Value.none Value.none Value.none (Value.str (Str.ofString "law_ik0220_01") (615 : Nat)) (@none Nat) (Value.ref (331 : Nat)) Value.none (0 : Nat))) (List.toArray []))) ::
    (nat_lit 338, (Obj.mk (Value.type "code") (@none Nat) (Data.fields (List.toArray ((Value.str (Str.ofString "_law_least_width") (627 : Nat)) :: (Value.str (Str.ofString "_law_least_width") (628 : Nat)) :: (Value.str (Str.ofString "/claim/cut.py") (629 : Nat)) :: (Value.int (281 : Int) (0 : Nat)) :: (Value.int (2 : Int) (0 : Nat)) :: (Value.int (0 : Int) (0 : Nat)) :: (Value.int (0 : Int) (0 : Nat)) :: (Value.int (3 : Int) (0 : Nat)) :: (Value.ref (333 : Nat)) :: (Value.bool Bool.true) :: (Value.int (181 : Int) (0 : Nat)) :: (Value.ref (334 : Nat)) :: Value.none :: (Value.ref (335 : Nat)) :: (Value.ref (336 : Nat)) :: (Value.ref (337 : Nat)) :: (Value.int (638 : Int) (0 : Nat)) :: (Value.int (281 : Int) (0 : Nat)) :: (Value.str (Str.ofString "/claim/cut.py") (639 : Nat)) :: []))) (List.toArray []))) ::
    (nat_lit 339, (Obj.mk (Value.type "function") (@none Nat) (Data.func (FuncData.mk (Str.ofString "_law_least_width") (Str.ofString "_law_least_width") a339 (FuncBody.stmts l339) s339 (3 : Nat) [] Value.none Value.none Value.none (Value.str (Str.ofString "law_ik0220_01") (615 : Nat)) (@none Nat) (Value.ref (338 : Nat)) Value.none (0 : Nat))) (List.toArray []))) ::
    (nat_lit 345, (Obj.mk (Value.type "code") (@none Nat) (Data.fields (List.toArray ((Value.str (Str.ofString "_law_read_from_the_end") (641 : Nat)) :: (Value.str (Str.ofString "_law_read_from_the_end") (642 : Nat)) :: (Value.str (Str.ofString "/claim/cut.py") (643 : Nat)) :: (Value.int (293 : Int) (0 : Nat)) :: (Value.int (1 : Int) (0 : Nat)) :: (Value.int (0 : Int) (0 : Nat)) :: (Value.int (0 : Int) (0 : Nat)) :: (Value.int (3 : Int) (0 : Nat)) :: (Value.ref (340 : Nat)) :: (Value.bool Bool.true) :: (Value.int (181 : Int) (0 : Nat)) :: (Value.ref (341 : Nat)) :: Value.none :: (Value.ref (342 : Nat)) :: (Value.ref (343 : Nat)) :: (Value.ref (344 : Nat)) :: (Value.int (648 : Int) (0 : Nat)) :: (Value.int (293 : Int) (0 : Nat)) :: (Value.str (Str.ofString "/claim/cut.py") (649 : Nat)) :: []))) (List.toArray []))) ::
    (nat_lit 346, (Obj.mk (Value.type "function") (@none Nat) (Data.func (FuncData.mk (Str.ofString "_law_read_from_the_end") (Str.ofString "_law_read_from_the_end") a346 (FuncBody.stmts l346) s346 (3 : Nat) [] Value.none Value.none Value.none (Value.str (Str.ofString "law_ik0220_01") (615 : Nat)) (@none Nat) (Value.ref (345 : Nat)) Value.none (0 : Nat))) (List.toArray []))) ::
    (nat_lit 350, (Obj.mk (Value.type "code") (@none Nat) (Data.fields (List.toArray ((Value.str (Str.ofString "_law_rows_hold") (651 : Nat)) :: (Value.str (Str.ofString "_law_rows_hold") (652 : Nat)) :: (Value.str (Str.ofString "/claim/cut.py") (653 : Nat)) :: (Value.int (304 : Int) (0 : Nat)) :: (Value.int (2 : Int) (0 : Nat)) :: (Value.int (0 : Int) (0 : Nat)) :: (Value.int (0 : Int) (0 : Nat)) :: (Value.int (3 : Int) (0 : Nat)) :: (Value.ref (347 : Nat)) :: (Value.bool Bool.true) :: (Value.int (181 : Int) (0 : Nat)) :: (Value.ref (348 : Nat)) :: Value.none :: Value.none :: Value.none :: (Value.ref (349 : Nat)) :: (Value.int (654 : Int) (0 : Nat)) :: (Value.int (304 : Int) (0 : Nat)) :: (Value.str (Str.ofString "/claim/cut.py") (655 : Nat)) :: []))) (List.toArray []))) ::
    (nat_lit 351, (Obj.mk (Value.type "function") (@none Nat) (Data.func (FuncData.mk (Str.ofString "_law_rows_hold") (Str.ofString "_law_rows_hold") a351 (FuncBody.stmts l351) s351 (3 : Nat) [] Value.none Value.none Value.none (Value.str (Str.ofString "law_ik0220_01") (615 : Nat)) (@none Nat) (Value.ref (350 : Nat)) Value.none (0 : Nat))) (List.toArray []))) ::
    (nat_lit 355, (Obj.mk (Value.type "code") (@none Nat) (Data.fields (List.toArray ((Value.str (Str.ofString "law") (657 : Nat)) :: (Value.str (Str.ofString "law") (658 : Nat)) :: (Value.str (Str.ofString "/claim/cut.py") (659 : Nat)) :: (Value.int (315 : Int) (0 : Nat)) :: (Value.int (1 : Int) (0 : Nat)) :: (Value.int (0 : Int) (0 : Nat)) :: (Value.int (0 : Int) (0 : Nat)) :: (Value.int (3 : Int) (0 : Nat)) :: (Value.ref (352 : Nat)) :: (Value.bool Bool.true) :: (Value.int (181 : Int) (0 : Nat)) :: (Value.ref (353 : Nat)) :: Value.none :: Value.none :: Value.none :: (Value.ref (354 : Nat)) :: (Value.int (660 : Int) (0 : Nat)) :: (Value.int (315 : Int) (0 : Nat)) :: (Value.str (Str.ofString "/claim/cut.py") (661 : Nat)) :: []))) (List.toArray []))) ::
    (nat_lit 356, (Obj.mk (Value.type "function") (@none Nat) (Data.func (FuncData.mk (Str.ofString "law") (Str.ofString "law") a356 (FuncBody.stmts l356) s356 (3 : Nat) [] Value.none Value.none Value.none (Value.str (Str.ofString "law_ik0220_01") (615 : Nat)) (@none Nat) (Value.ref (355 : Nat)) Value.none (0 : Nat))) (List.toArray []))) :: [] : Frag)) _ _ _ _ _ _ _ _ _ _ _ _ _ _ _ _ _ _ _ _ _ _ _ _ _ _ _ _ _ _ _ _ _ _ _ _ _ _ _ _ _ _ _ _ _ _ _ _ _ _ _ _ _ _ _ _ _ _ _ _ _ _ _ _ _ _ _ _ _ _ _ _ _ _ _ _ _ _ _ _ _ _ _ _ _ _ _ _ _ _ _ _ _ _ _ _ _ _ _ _ _ _ _ _ _ _ _ _ _ _ _ _ _ _ _ _ _ _ _ _ _ _ _ _ _ _ _ _ _ _ _ _ _ _ _ _ _ _ _ _ _ _ _ _ _ _ _ _ _ _ _ _ _ _ _ _ _ _ _ _ _ _ _ _ _ _ _ _
  all_goals try (show _ = _; conv => rhs; whnf)
  all_goals try exact rfl
end Mine
namespace Mine
abbrev rowR : OpenRow := PySem.Challenge.rw_ik0220_01.row
abbrev vw : Program := view rowR.prog [33]
abbrev LS1 : List Str := [Str.ofString "_wall", Str.ofString "NL", Str.ofString "EMPTYSTRING", Str.ofString "_ValueFormatter", Str.ofString "_Accumulator", Str.ofString "heappush", Str.ofString "heappop", Str.ofString "_siftdown", Str.ofString "_siftup", Str.ofString "_plain_name", Str.ofString "ABCMeta", Str.ofString "_ABCLike", Str.ofString "_abc_plain_meta", Str.ofString "fspath", Str.ofString "_check_arg_types", Str.ofString "_get_sep", Str.ofString "join", Str.ofString "split", Str.ofString "splitroot", Str.ofString "normpath", Str.ofString "_law_folded", Str.ofString "_law_least_width", Str.ofString "_law_read_from_the_end", Str.ofString "_law_rows_hold"]
noncomputable abbrev HK : Hook := kmHook heapK [2, 3, 34, 35, 41, 42, 55, 56, 90, 91, 93, 94, 102, 107, 108, 114, 115, 121, 122, 123, 129, 130, 131, 137, 138, 144, 145, 151, 152, 153, 159, 160, 166, 167, 168, 174, 175, 177, 178, 188, 189, 195, 196, 202, 203, 209, 210, 282, 283, 296, 297, 303, 304, 310, 311, 317, 318, 324, 325, 331, 332, 338, 339, 345, 346, 350, 351, 355, 356] (fun _ => by kernel_rfl) [140, 147]
theorem said1 : PySem.Challenge.rw_ik0220_01.wellSaid = true := by kernel_rfl
theorem left1 : LeftO rowR.prog vw LS1 (fun s => xlAt vw [] s && recOk (RowW.records rowR.toRowW) s) (Hook.obs HK) (Hook.val HK) 4552 := by
  intro w
  kernel_rfl
end Mine
namespace Mine
abbrev amb (dp un : Nat) (gd : Option (List Code)) (fr : List Env) : Around := { handled := none, depth := dp, frames := some fr, guards := gd, units := un }
theorem no_mem {α : Type} {a : α} {p : Prop} (h : a ∈ ([] : List α)) : p := (List.not_mem_nil h).elim
abbrev FF : Value → Shared → Prop := fun _ _ => False
def Keep (D : List Addr) (h h' : Heap) : Prop := ∀ b o, b ∉ D → h.get? b = some o → h'.get? b = some o
theorem Keep.refl {D : List Addr} {h : Heap} : Keep D h h := fun _ _ _ e => e
theorem Keep.trans {D : List Addr} {h h' h'' : Heap} (x : Keep D h h') (y : Keep D h' h'') : Keep D h h'' := fun b o hb e => y b o hb (x b o hb e)
theorem Keep.mono {D D' : List Addr} {h h' : Heap} (x : Keep D h h') (s : ∀ a ∈ D, a ∈ D') : Keep D' h h' := fun b o hb e => x b o (fun q => hb (s _ q)) e
theorem keep_of {D : List (Addr × Obj)} {ys : List Addr} {h g h' : Heap} (hD : ∀ q ∈ D, h.get? q.1 = some q.2) (KP : Keep (D.map Prod.fst) h g) (kg : ∀ b o, g.get? b = some o → h'.get? b = some o)
    (hs : ∀ q ∈ D, q.1 ∉ ys → h'.get? q.1 = some q.2) : Keep ys h h' := fun b o hb e => by
  by_cases hm : b ∈ D.map Prod.fst
  · obtain ⟨q, hq, rfl⟩ := List.mem_map.mp hm
    rw [hD q hq] at e; cases e
    exact hs q hq hb
  · exact kg b o (KP b o hm e)
theorem Keep.nil {h h' : Heap} (k : Keep [] h h') : ∀ b o, h.get? b = some o → h'.get? b = some o := fun b o e => k b o List.not_mem_nil e
theorem keep2 {c d : Addr} {oc od : Obj} {ys : List Addr} {h g h' : Heap} (hc : h.get? c = some oc) (hd : h.get? d = some od) (KP : Keep (List.map Prod.fst [(c, oc), (d, od)]) h g) (kg : ∀ b o, g.get? b = some o → h'.get? b = some o)
    (h1 : c ∉ ys → h'.get? c = some oc) (h2 : d ∉ ys → h'.get? d = some od) : Keep ys h h' :=
  keep_of (D := [(c, oc), (d, od)]) (fun q hq => by rcases List.mem_cons.mp hq with rfl | hq; exact hc; rw [List.mem_singleton.mp hq]; exact hd) KP kg fun q hq hn => by
    rcases List.mem_cons.mp hq with rfl | hq
    · exact h1 hn
    · rw [List.mem_singleton.mp hq] at hn ⊢; exact h2 hn
theorem snoc_of {α : Type} {vs : List α} (h : vs ≠ []) : ∃ l v, vs = l ++ [v] := ⟨vs.dropLast, vs.getLast h, (List.dropLast_concat_getLast h).symm⟩
section
variable {g h h' : Heap} {L : Addr} {m : Str → Option Value} {news : List (Addr × Obj)} {D : List Addr}
theorem Fr.kept (F : Fr g L h m) (k : Keep D h h') (hD : ∀ a ∈ D, g.get? a = none) (hL : L ∉ D) : Fr g L h' m := by
  obtain ⟨oL, es, ep, hl, r⟩ := F.ns
  exact ⟨⟨oL, es, ep, k L oL hL hl, r⟩, fun b o e => k b o (fun q => by rw [hD b q] at e; cases e) (F.keep b o e), F.above⟩
theorem News.kept (N : News g L h news) (k : Keep D h h') (off : ∀ p ∈ news, p.1 ∉ D) : News g L h' news :=
  fun p hp => ⟨k _ _ (off p hp) (N p hp).1, (N p hp).2⟩
theorem News.cons {a : Addr} {o : Obj} (N : News g L h news) (ho : h.get? a = some o) (hg : g.get? a = none) (hL : a ≠ L) : News g L h ((a, o) :: news) :=
  fun p hp => by
    rcases List.mem_cons.mp hp with rfl | hp
    · exact ⟨ho, hL, hg⟩
    · exact N p hp
theorem News.sub {news' : List (Addr × Obj)} (N : News g L h news) (s : ∀ p ∈ news', p ∈ news) : News g L h news' := fun p hp => N p (s p hp)
end

section
variable {prog : Program} {w : World} {K : Frag} {p : Program} {loose : List Str} {mean : ExcName → Option Value} {mg mb : Str → Option Value}
theorem enterF {base : Heap} {dp un : Nat} {gd : Option (List Code)} {fr : List Env} {s : Shared} {R : Result → Shared → Prop} {name qual : Str} {params : Arguments} {body : List Stmt} {scope : Scope} {dV kV doc pm cdv ct oc : Value} {an od : Option Addr} {osl : Array (Option Value)} {f : Addr} {args : Args} {binds : List (Str × Value)} (rb : List (Str × Value))
    (D : List (Addr × Obj)) (X : K.In base) (T : Top p loose mean mg mb base) (hS : base.StaysIn s.heap) (hD : ∀ q ∈ D, s.heap.get? q.1 = some q.2 ∧ base.get? q.1 = none)
    (ho : K.lookup f = some ⟨oc, od, .func (fnOf name qual params body scope dV kV doc pm an cdv ct), osl⟩) (hcd : codeIn K cdv qual = true) (hroom : dp < recursionLimit)
    (hbind : BindsTo s (fnOf name qual params body scope dV kV doc pm an cdv ct) args binds) (hloc : ∀ y ∈ binds, scope.names.lookup y.1 = some .local) (hrb : binds.reverse = rb)
    (h : ∀ g L h₁ fr' tk, Fr g L h₁ (fun y => rb.lookup y) → News g L h₁ D → K.In g → Top p loose mean mg mb g → Keep (D.map Prod.fst) s.heap g → (∀ b o, s.heap.get? b = some o → b < L) →
      wpAny (model prog w) (amb (dp + 1) (un + 3) gd fr') (execs body (envOf qual scope L f cdv)) (fun fl s' => R (.ok (.ret (match fl with | .ret v => v | _ => .none))) s') FF { s with heap := h₁, toks := tk })
    (hco : scope.isCoroutine = false) (hgen : scope.isGenerator = false) (hk : scope.kind = .function)
    (hcell : ∀ x ∈ scope.names, x.2 ≠ .cell) : codeAny (model prog w) (amb dp un gd fr) (.call (.ref f) args) R s := by
  have XS := X.keeps hS
  refine codeAny_call_def (fd := fnOf name qual params body scope dV kV doc pm an cdv ct) (body := body) (binds := binds) hroom (XS _ _ ho) rfl (T.nolimit.keeps hS) (codeRec_of XS hcd) rfl hbind hcell hloc (fun h₁ hns hk₁ => ?_) hco hgen hk
  have st : base.StaysIn (hideAll s.heap (D.map Prod.fst)) := fun b o e => hideAll_get _ (hS b o e) fun q => by
    obtain ⟨q', hq, rfl⟩ := List.mem_map.mp q
    rw [(hD q' hq).2] at e; cases e
  exact wpAny_mono (h (hideAll s.heap (D.map Prod.fst)) s.heap.objs.size h₁ _ _
    ⟨hrb ▸ hns, fun b o e => hk₁ b o (of_hideAll _ e), Nat.le_of_eq (hideAll_size _ _)⟩
    (fun q hq => ⟨hk₁ _ _ (hD q hq).1, Nat.ne_of_lt (Heap.lt_size (hD q hq).1), hideAll_none _ (List.mem_map_of_mem (f := Prod.fst) hq)⟩) (X.keeps st) (T.keeps st) (fun b o hb e => hideAll_get _ e hb) (fun b o e => Heap.lt_size e)) (fun _ _ x => x) fun _ _ x => x.elim
end

section
variable {prog : Program} {w : World} {A : Around} {s : Shared} {env : Env} {test : PySem.Expr} {body orelse : List Stmt} {Q : Flow → Shared → Prop}
theorem while_inv {pos : Pos} (I : Nat → Shared → Prop) (n : Nat) (h0 : I n s)
    (turn : ∀ n s, I n s → wpAny (model prog w) A (isTrue test env (eval test env)) (fun b s₂ => WhlIf b
      (wpAny (model prog w) A (execs body env) (fun f s₃ => match f with | .next => ∃ k, k < n ∧ I k s₃ | .cont => ∃ k, k < n ∧ I k s₃ | .brk => Q .next s₃ | .ret v => Q (.ret v) s₃) FF s₂)
      (wpAny (model prog w) A (execs orelse env) Q FF s₂)) FF s) :
    wpAny (model prog w) A (exec (.While test body orelse pos) env) Q FF s := by
  refine whl_start 0 (?_ : WhlRest prog w A FF env test body orelse Q 0 s)
  have all : ∀ n s, I n s → WhlRest prog w A FF env test body orelse Q 0 s := by
    intro n
    induction n using Nat.strongRecOn with
    | ind n ih =>
      intro s hI
      have base := whl_turn (prog := prog) (w := w) (A := A) (env := env) (test := test) (body := body) (orelse := orelse) (Q := Q) (E := FF) (s := s) (k := 0) PassesOwn.never
      refine base (wpAny_mono (turn n s hI) (fun b s₂ h₂ => ?_) fun _ _ x => x)
      cases b with
      | false => exact h₂
      | true =>
        refine WhlIf.yes rfl ?_
        have h₃ : wpAny (model prog w) A (execs body env) _ FF s₂ := h₂
        refine wpAny_mono h₃ (fun f s₃ h₄ => ?_) fun _ _ x => x
        cases f with
        | next => obtain ⟨k, hk, hI⟩ := h₄; exact ih k hk s₃ hI
        | cont => obtain ⟨k, hk, hI⟩ := h₄; exact ih k hk s₃ hI
        | brk => exact h₄
        | ret v => exact h₄
  exact all n s h0
end
end Mine
namespace Mine
def KF (kn : List (Str × Value)) (u : Str → Option Value) : Str → Option Value := fun y => match kn.lookup y with
  | some v => some v
  | none => u y
def KFs (m : Str → Option Value) : List (Str × Value) → Prop
  | [] => True
  | p :: r => m p.1 = some p.2 ∧ KFs m r
theorem KFs.mem {m : Str → Option Value} {y : Str} {v : Value} : ∀ {kn : List (Str × Value)}, KFs m kn → kn.lookup y = some v → m y = some v
  | [], _, h => by cases h
  | (x, w) :: r, k, h => by
    rw [List.lookup_cons] at h
    by_cases e : (y == x) = true
    · rw [e] at h
      have e' := eq_of_beq e
      simp only [Option.some.injEq] at h
      subst h; subst e'
      exact k.1
    · have e' : (y == x) = false := by simpa using e
      rw [e'] at h
      exact KFs.mem k.2 h
theorem KF_of {m : Str → Option Value} {kn : List (Str × Value)} (k : KFs m kn) : KF kn m = m := by
  funext y
  unfold KF
  cases h : kn.lookup y with
  | none => rfl
  | some v => exact (k.mem h).symm
theorem toKF {g h : Heap} {L : Addr} {m : Str → Option Value} (kn : List (Str × Value)) (F : Fr g L h m) (k : KFs m kn) : Fr g L h (KF kn m) := by
  rw [KF_of k]; exact F
end Mine
namespace Mine
section
variable {prog : Program} {w : World} {A : Around} {s : Shared} {env : Env} {test : PySem.Expr} {body : List Stmt} {Q : Flow → Shared → Prop}
def WhlP (I : Nat → Shared → Prop) (D : Shared → Prop) (Q : Flow → Shared → Prop) (n : Nat) (f : Flow) (s : Shared) : Prop := match f with
  | .next => ∃ k, k < n ∧ I k s
  | .cont => ∃ k, k < n ∧ I k s
  | .brk => D s
  | .ret v => Q (.ret v) s
theorem WhlP.cont {I : Nat → Shared → Prop} {D : Shared → Prop} {n : Nat} (k : Nat) (hk : k < n) (h : I k s) : WhlP I D Q n .cont s := ⟨k, hk, h⟩
theorem WhlP.next {I : Nat → Shared → Prop} {D : Shared → Prop} {n : Nat} (k : Nat) (hk : k < n) (h : I k s) : WhlP I D Q n .next s := ⟨k, hk, h⟩
theorem WhlP.brk {I : Nat → Shared → Prop} {D : Shared → Prop} {n : Nat} (h : D s) : WhlP I D Q n .brk s := h
theorem while_D {pos : Pos} (I : Nat → Shared → Prop) (D : Shared → Prop) (n : Nat) (h0 : I n s)
    (turn : ∀ n s, I n s → wpAny (model prog w) A (isTrue test env (eval test env)) (fun b s₂ => WhlIf b (wpAny (model prog w) A (execs body env) (WhlP I D Q n) FF s₂) (D s₂)) FF s)
    (fin : ∀ s', D s' → Q .next s') :
    wpAny (model prog w) A (exec (.While test body [] pos) env) Q FF s := by
  refine while_inv I n h0 fun n s hI => wpAny_mono (turn n s hI) (fun b s₂ h₂ => ?_) fun _ _ x => x
  cases b with
  | false => exact WhlIf.no rfl (wpAny_execs_nil (fin _ h₂))
  | true =>
    refine WhlIf.yes rfl ?_
    have h₃ : wpAny (model prog w) A (execs body env) (WhlP I D Q n) FF s₂ := h₂
    refine wpAny_mono h₃ (fun f s₃ h₄ => ?_) fun _ _ x => x
    cases f with
    | next => exact h₄
    | cont => exact h₄
    | brk => exact fin _ h₄
    | ret v => exact h₄
end
end Mine
namespace Mine
/-- plain values within tuples -/
inductive Pv where
  | i (n : Int)
  | s (x : Str)
  deriving DecidableEq
inductive IsPv : Value → Pv → Prop
  | i (n : Int) (t : Tok) : IsPv (.int n t) (.i n)
  | s (x : Str) (t : Tok) : IsPv (.str x t) (.s x)
inductive PvsAre : List Value → List Pv → Prop
  | nil : PvsAre [] []
  | cons {v : Value} {d : Pv} {vs : List Value} {ds : List Pv} : IsPv v d → PvsAre vs ds → PvsAre (v :: vs) (d :: ds)
def Pv.lt : Pv → Pv → Bool
  | .i a, .i b => decide (a < b)
  | .s x, .s y => decide (x.cps.toList < y.cps.toList)
  | _, _ => false
def Pv.isI : Pv → Bool
  | .i _ => true
  | .s _ => false
def lexLt : List Pv → List Pv → Bool
  | x :: xs, y :: ys => if x = y then lexLt xs ys else Pv.lt x y
  | [], _ :: _ => true
  | _, [] => false
abbrev tupOf (vs : List Value) (n : Nat) : Obj := { cls := .type "tuple", data := .seq vs.toArray n }
def TupAt (h : Heap) (v : Value) (d : List Pv) : Prop := ∃ a vs n, v = .ref a ∧ h.get? a = some (tupOf vs n) ∧ PvsAre vs d
theorem TupAt.keeps {h h' : Heap} {v : Value} {d : List Pv} (x : TupAt h v d) (k : ∀ b o, h.get? b = some o → h'.get? b = some o) : TupAt h' v d := by
  obtain ⟨a, vs, n, e, g, p⟩ := x
  exact ⟨a, vs, n, e, k _ _ g, p⟩
/-- a change of lists alone leaves tuples -/
theorem TupAt.kept {h h' : Heap} {v : Value} {d : List Pv} {D : List Addr} (x : TupAt h v d) (k : Keep D h h') (hD : ∀ a ∈ D, ∀ o, h.get? a = some o → o.cls ≠ .type "tuple") : TupAt h' v d := by
  obtain ⟨a, vs, n, e, g, p⟩ := x
  exact ⟨a, vs, n, e, k _ _ (fun q => hD a q _ g rfl) g, p⟩
theorem PvsAre.length {vs : List Value} {ds : List Pv} (h : PvsAre vs ds) : vs.length = ds.length := by
  induction h with
  | nil => rfl
  | cons _ _ ih => simp [ih]
theorem IsPv.inj {v : Value} {d e : Pv} (h : IsPv v d) (k : IsPv v e) : d = e := by cases h <;> cases k <;> rfl
theorem PvsAre.inj {vs : List Value} {ds es : List Pv} (h : PvsAre vs ds) (k : PvsAre vs es) : ds = es := by
  induction h generalizing es with
  | nil => cases k; rfl
  | cons h1 _ ih => cases k with
    | cons k1 k2 => rw [h1.inj k1, ih k2]
inductive AllAt (P : Value → List Pv → Prop) : List Value → List (List Pv) → Prop
  | nil : AllAt P [] []
  | cons {v : Value} {d : List Pv} {vs : List Value} {ds : List (List Pv)} : P v d → AllAt P vs ds → AllAt P (v :: vs) (d :: ds)
section
variable {P P' : Value → List Pv → Prop} {vs ws : List Value} {ds es : List (List Pv)}
theorem AllAt.mono (h : AllAt P vs ds) (k : ∀ v d, P v d → P' v d) : AllAt P' vs ds := by
  induction h with
  | nil => exact .nil
  | cons h1 _ ih => exact .cons (k _ _ h1) ih
theorem AllAt.length (h : AllAt P vs ds) : vs.length = ds.length := by
  induction h with
  | nil => rfl
  | cons _ _ ih => simp [ih]
theorem AllAt.get (h : AllAt P vs ds) : ∀ {i : Nat} (hi : i < ds.length), ∃ v, vs[i]? = some v ∧ P v (ds[i]'hi) := by
  induction h with
  | nil => intro i hi; exact absurd hi (Nat.not_lt_zero _)
  | cons h1 _ ih =>
    intro i hi
    cases i with
    | zero => exact ⟨_, rfl, h1⟩
    | succ i => exact ih (Nat.lt_of_succ_lt_succ hi)
theorem AllAt.getV (h : AllAt P vs ds) : ∀ {i : Nat} {v : Value}, vs[i]? = some v → ∃ d, ds[i]? = some d ∧ P v d := by
  induction h with
  | nil => intro i v hi; simp at hi
  | cons h1 _ ih =>
    intro i v hi
    cases i with
    | zero => simp at hi; subst hi; exact ⟨_, rfl, h1⟩
    | succ i => exact ih (by simpa using hi)
theorem AllAt.set (h : AllAt P vs ds) {v : Value} {d : List Pv} (hv : P v d) : ∀ i : Nat, AllAt P (vs.set i v) (ds.set i d) := by
  induction h with
  | nil => intro i; exact .nil
  | cons h1 h2 ih =>
    intro i
    cases i with
    | zero => exact .cons hv h2
    | succ i => exact .cons h1 (ih i)
theorem AllAt.append (h : AllAt P vs ds) (k : AllAt P ws es) : AllAt P (vs ++ ws) (ds ++ es) := by
  induction h with
  | nil => exact k
  | cons h1 _ ih => exact .cons h1 ih
theorem AllAt.dropLast (h : AllAt P vs ds) : AllAt P vs.dropLast ds.dropLast := by
  induction h with
  | nil => exact .nil
  | cons h1 h2 ih =>
    cases h2 with
    | nil => exact .nil
    | cons a b => exact .cons h1 ih
end

section
variable {prog : Program} {w : World} {A : Around} {E : Value → Shared → Prop} {s : Shared}
theorem eqBool_pv {u v : Value} {x y : Pv} {Q : Bool → Shared → Prop} (hx : IsPv u x) (hy : IsPv v y) (hk : x.isI = y.isI) (h : Q (decide (x = y)) s) : wpAny (model prog w) A (eqBool u v) Q E s := by
  cases hx with
  | i a t => cases hy with
    | i b t' =>
      refine wpAny_eqBool_int ?_
      have e : (a == b) = decide (Pv.i a = Pv.i b) := by
        by_cases q : a = b <;> simp [q]
      rw [e]; exact h
    | s b t' => cases hk
  | s a t => cases hy with
    | i b t' => cases hk
    | s b t' =>
      refine wpAny_eqBool_str ?_
      have e : decide (a = b) = decide (Pv.s a = Pv.s b) := by
        by_cases q : a = b <;> simp [q]
      rw [e]; exact h
theorem lt_pv {u v : Value} {x y : Pv} {Q : Value → Shared → Prop} (hx : IsPv u x) (hy : IsPv v y) (hk : x.isI = y.isI) (h : Q (.bool (Pv.lt x y)) s) : wpAny (model prog w) A (richCompare .Lt u v) Q E s := by
  cases hx with
  | i a t => cases hy with
    | i b t' => exact PySem.wpAny_lt_int h
    | s b t' => cases hk
  | s a t => cases hy with
    | i b t' => cases hk
    | s b t' => exact PySem.P.lt_str h

theorem tuple_lt_tree {xs ys : List Pv} {us vs : List Value} {a b : Addr} {na nb : Nat} {P : Fin → Shared → Prop} (ha : s.heap.get? a = some (tupOf us na)) (hb : s.heap.get? b = some (tupOf vs nb))
    (hx : PvsAre us xs) (hy : PvsAre vs ys) (hk : xs.map Pv.isI = ys.map Pv.isI) (h : P (.done (.ret (.bool (lexLt xs ys)))) s) :
    wpAny (model prog w) A (Builtin.«tuple.__lt__» ⟨[.ref a, .ref b], []⟩) P E s := by
  have hTb : s.TypeIs (.ref b) "tuple" := ⟨_, hb, rfl⟩
  show wpAny _ _ (isInstance (.ref b) (.type "tuple") >>= _) _ _ s
  refine wpAny_bind (wpAny_isInstance hTb isSubtype_tuple_tuple ?_)
  simp only [Bool.not_true, Bool.false_eq_true, if_false]
  refine wpAny_bind (wpAny_tupleItemsOf ha rfl ?_)
  refine wpAny_bind (wpAny_tupleItemsOf hb rfl ?_)
  refine wpAny_bind ?_
  refine wpAny_forIn_list _
    (fun rest r s' => r.1 = none ∧ s' = s ∧ ∃ x' y' xs' ys', rest = List.zip xs' ys' ∧ PvsAre xs' x' ∧ PvsAre ys' y' ∧ x'.map Pv.isI = y'.map Pv.isI ∧ lexLt x' y' = lexLt xs ys ∧ ((decide (us.length < vs.length)) = true → lexLt x' y' = lexLt xs ys) ∧ (us.length = vs.length))
    _ ?_ ?_ _ _ ⟨rfl, rfl, xs, ys, us, vs, by simp, hx, hy, hk, rfl, fun _ => rfl, by rw [hx.length, hy.length]; simpa using congrArg List.length hk⟩
  · rintro ⟨u, v⟩ rest r s' ⟨hr, rfl, x', y', xs', ys', hz, hx', hy', hk', hdec, _, hlen⟩
    cases hx' with
    | nil => simp at hz
    | @cons u' k1 xs'' x'' h1 hx'' =>
      cases hy' with
      | nil => simp at hz
      | @cons v' k2 ys'' y'' h2 hy'' =>
        simp only [List.zip_cons_cons, List.cons.injEq, Prod.mk.injEq] at hz
        obtain ⟨⟨rfl, rfl⟩, rfl⟩ := hz
        simp only [List.map_cons, List.cons.injEq] at hk'
        refine wpAny_bind (eqBool_pv h1 h2 hk'.1 ?_)
        by_cases hkk : k1 = k2
        · subst hkk
          rw [decide_eq_true rfl]
          simp only [Bool.not_true, Bool.false_eq_true, if_false]
          refine wpAny_pure ⟨rfl, rfl, x'', y'', xs'', ys'', rfl, hx'', hy'', hk'.2, ?_, fun _ => ?_, hlen⟩
          · rw [← hdec]; simp [lexLt]
          · rw [← hdec]; simp [lexLt]
        · rw [decide_eq_false hkk]
          simp only [Bool.not_false, if_true]
          have hf : lexLt xs ys = Pv.lt k1 k2 := by rw [← hdec]; simp [lexLt, hkk]
          rw [hf] at h
          exact wpAny_bind (wpAny_rule (wpAny_bind (lt_pv h1 h2 hk'.1 (wpAny_bind (wpAny_pure (wpAny_pure (wpAny_pure h)))))))
  · rintro ⟨r1, r2⟩ s' ⟨hr, rfl, x', y', xs', ys', hz, hx', hy', hk', hdec, _, hlen⟩
    simp only at hr
    subst hr
    refine wpAny_pure ?_
    show P (.done (.ret (.bool (decide (us.toArray.size < vs.toArray.size))))) s'
    have e : decide (us.toArray.size < vs.toArray.size) = lexLt xs ys := by
      rw [← hdec]
      have hf : decide (us.toArray.size < vs.toArray.size) = false := by simp [hlen]
      rw [hf]
      cases hx' with
      | nil =>
        cases hy' with
        | nil => rfl
        | cons _ _ => simp at hk'
      | cons _ _ =>
        cases hy' with
        | nil => simp at hk'
        | cons _ _ => simp at hz
    rw [e]; exact h

theorem cmp_tup {u v : Value} {xs ys : List Pv} {Q : Value → Shared → Prop} (hx : TupAt s.heap u xs) (hy : TupAt s.heap v ys) (hk : xs.map Pv.isI = ys.map Pv.isI) (hu : A.units < cLine) (h : Q (.bool (lexLt xs ys)) s) :
    wpAny (model prog w) A (compareOp .Lt u v) Q E s := by
  obtain ⟨a, us, na, rfl, ga, pa⟩ := hx
  obtain ⟨b, vs, nb, rfl, gb, pb⟩ := hy
  have ta : s.TypeIs (.ref a) "tuple" := ⟨_, ga, rfl⟩
  have tb : s.TypeIs (.ref b) "tuple" := ⟨_, gb, rfl⟩
  exact wpAny_richCompare_same_room (op := .Lt) ta tb F.slot_tuple_lt
      (wpAny_call_entry F.slot_tuple_lt ta F.entry_tuple_lt (tuple_lt_tree ga gb pa pb hk ⟨_, rfl, (fun e => nomatch e), h⟩) (F.args_tuple_lt_2 _ _)) hu

theorem sub_list {value slice : PySem.Expr} {a : Addr} {vs : List Value} {n : Nat} {k : Int} {u : Tok} {v : Value} {Q : Value → Shared → Prop} (ha : s.heap.get? a = some (listOf vs.toArray n))
    (h0 : 0 ≤ k) (hfit : k < 2 ^ 63) (hx : vs[k.toNat]? = some v) (h : Q v s)
    (hs : subscripted slice false (.ref a) (.int k u) = operate [.ref a, .int k u] (getItem (.ref a) (.int k u)) := by with_unfolding_all rfl) :
    wpAny (model prog w) A (subscriptTail value slice (.ref a) (.int k u)) Q E s :=
  tail_any (PySem.IsL.isList (n := n) ha).typeIs slot_list_getitem.lookup (wpAny_getItem_list (PySem.IsL.isList (n := n) ha) h0 hfit (by simpa using hx) h) hs
theorem set_list {g : Heap} {L : Addr} {m : Str → Option Value} {a : Addr} {vs : List Value} {n : Nat} {k : Int} {u : Tok} {v : Value} {rest : List (Addr × Obj)} {Q : Unit → Shared → Prop} (F : Fr g L s.heap m) (N : News g L s.heap ((a, listOf vs.toArray n) :: rest)) (off : ∀ p ∈ rest, p.1 ≠ a)
    (h0 : 0 ≤ k) (hfit : k < 2 ^ 63) (hk : k < vs.length)
    (h : ∀ h', Fr g L h' m → News g L h' ((a, listOf (vs.set k.toNat v).toArray n) :: rest) → Q () { s with heap := h' }) : wpAny (model prog w) A (setItem (.ref a) (.int k u) v) Q E s := by
  have z := N _ (List.mem_cons_self ..)
  have hs : Heap.SameBut a s.heap (s.heap.update a (Obj.mapSeq (·.setIfInBounds k.toNat v))) := Heap.SameBut.update ..
  refine ki_setAt z.1 h0 hfit (by simpa using hk) (h _ (F.change hs z.2.1 z.2.2) (fun p hp => ?_))
  rcases List.mem_cons.mp hp with rfl | hp
  · refine ⟨?_, z.2⟩
    rw [Heap.get?_update_self _ z.1 (by rfl)]
    show some (Obj.mapSeq _ (listOf vs.toArray n)) = _
    simp [Obj.mapSeq]
  · exact ⟨(hs.2 _ (off p hp)).trans (N p (List.mem_cons_of_mem _ hp)).1, (N p (List.mem_cons_of_mem _ hp)).2⟩
theorem len_li {a : Addr} {vs : List Value} {n : Nat} {Q : Value → Shared → Prop} (ha : s.heap.get? a = some (listOf vs.toArray n)) (hsz : vs.length < 2 ^ 40)
    (h : ∀ t tk, Q (.int (vs.length : Int) t) { s with toks := tk }) : wpAny (model prog w) A (call (.builtin "len") [.ref a]) Q E s :=
  len_list (PySem.IsL.isList (n := n) ha) (by simp; omega) (by simpa using h _ _)
section
variable {g : Heap} {L : Addr} {m : Str → Option Value} {a : Addr} {vs : List Value} {n : Nat} {rest : List (Addr × Obj)} {Q : Value → Shared → Prop}
theorem append_li {x : Value} (F : Fr g L s.heap m) (N : News g L s.heap ((a, listOf vs.toArray n) :: rest)) (off : ∀ p ∈ rest, p.1 ≠ a) (hsz : vs.length < 10000000)
    (h : ∀ h', Fr g L h' m → News g L h' ((a, listOf (vs ++ [x]).toArray (n + 1)) :: rest) → Q .none { s with heap := h' }) : wpAny (model prog w) A (call (.builtin "list.append") [.ref a, x]) Q E s :=
  append_K F N (Upd.head off) (fun h' F' N' => h h' F' (by simpa using N')) (by rw [List.size_toArray, sizeLine_eq]; omega)
theorem pop_li {y : Value} (F : Fr g L s.heap m) (N : News g L s.heap ((a, listOf (vs ++ [y]).toArray n) :: rest)) (off : ∀ p ∈ rest, p.1 ≠ a) (hsz : vs.length < 10000000)
    (h : ∀ h', Fr g L h' m → News g L h' ((a, listOf vs.toArray (n + 1)) :: rest) → Q y { s with heap := h' }) : wpAny (model prog w) A (call (.builtin "list.pop") [.ref a]) Q E s :=
  kl_pop F N (p := vs) (y := y) (kpa_last y vs) (Upd.head off) (by rw [sizeLine_eq]; simp; omega) h
end
end
end Mine
namespace Mine
abbrev DD := List Pv
abbrev nth (ds : List DD) (i : Nat) : DD := ds.getD i []
def Par (i : Nat) : Nat := (i - 1) / 2
structure LtOk (P : DD → Prop) (lt : DD → DD → Bool) : Prop where
  irr : ∀ a, P a → lt a a = false
  neg : ∀ a b c, P a → P b → P c → lt b a = false → lt c b = false → lt c a = false
  asym : ∀ a b, P a → P b → lt a b = true → lt b a = false
structure DInv (lt : DD → DD → Bool) (ds : List DD) (pos : Nat) (x : DD) : Prop where
  a : ∀ i, 0 < i → i < ds.length → i ≠ pos → Par i ≠ pos → lt (nth ds i) (nth ds (Par i)) = false
  b : ∀ i, 0 < i → i < ds.length → Par i = pos → lt (nth ds i) x = false
  c : 0 < pos → ∀ i, 0 < i → i < ds.length → Par i = pos → lt (nth ds i) (nth ds (Par pos)) = false
structure UInv (lt : DD → DD → Bool) (ds : List DD) (pos : Nat) : Prop where
  a : ∀ i, 0 < i → i < ds.length → i ≠ pos → Par i ≠ pos → lt (nth ds i) (nth ds (Par i)) = false
  c : 0 < pos → ∀ i, 0 < i → i < ds.length → Par i = pos → lt (nth ds i) (nth ds (Par pos)) = false
def HeapOk (lt : DD → DD → Bool) (ds : List DD) : Prop := ∀ i, 0 < i → i < ds.length → lt (nth ds i) (nth ds (Par i)) = false
theorem nth_set_eq {ds : List DD} {i : Nat} {x : DD} (h : i < ds.length) : nth (ds.set i x) i = x := by
  simp [nth, List.getD_eq_getElem?_getD, h]
theorem nth_set_ne {ds : List DD} {i j : Nat} {x : DD} (h : i ≠ j) : nth (ds.set i x) j = nth ds j := by
  simp [nth, List.getD_eq_getElem?_getD, List.getElem?_set_ne h]
theorem par_lt {i : Nat} (h : 0 < i) : Par i < i := by unfold Par; omega
theorem nth_mem {ds : List DD} {i : Nat} (h : i < ds.length) : nth ds i ∈ ds := by
  simp [nth, List.getD_eq_getElem?_getD, h]
theorem set_mem_all {P : DD → Prop} {ds : List DD} {i : Nat} {x : DD} (h : ∀ d ∈ ds, P d) (hx : P x) : ∀ d ∈ ds.set i x, P d := fun d hd => by
  rcases List.mem_or_eq_of_mem_set hd with h1 | h1
  · exact h d h1
  · exact h1 ▸ hx

theorem Pv.total {x y : Pv} (k : x.isI = y.isI) (h1 : Pv.lt x y = false) (h2 : Pv.lt y x = false) : x = y := by
  cases x with
  | i a => cases y with
    | i b => simp [Pv.lt] at h1 h2; congr 1; omega
    | s b => cases k
  | s a => cases y with
    | i b => cases k
    | s b =>
      simp only [Pv.lt, decide_eq_false_iff_not] at h1 h2
      have e := List.le_antisymm (List.not_lt.mp h2) (List.not_lt.mp h1)
      have e' : a.cps = b.cps := Array.toList_inj.mp e
      cases a; cases b
      simp only at e'
      subst e'; rfl
theorem Pv.neg {x y z : Pv} (k1 : x.isI = y.isI) (k2 : y.isI = z.isI) (h1 : Pv.lt y x = false) (h2 : Pv.lt z y = false) : Pv.lt z x = false := by
  cases x with
  | i a => cases y with
    | i b => cases z with
      | i c => simp [Pv.lt] at h1 h2 ⊢; omega
      | s c => cases k2
    | s b => cases k1
  | s a => cases y with
    | i b => cases k1
    | s b => cases z with
      | i c => cases k2
      | s c =>
        simp only [Pv.lt, decide_eq_false_iff_not] at h1 h2 ⊢
        exact List.not_lt.mpr (List.le_trans (List.not_lt.mp h1) (List.not_lt.mp h2))
theorem Pv.irr (x : Pv) : Pv.lt x x = false := by
  cases x with
  | i a => simp [Pv.lt]
  | s a => simp only [Pv.lt, decide_eq_false_iff_not]; exact List.lt_irrefl _
theorem Pv.asym {x y : Pv} (h : Pv.lt x y = true) : Pv.lt y x = false := by
  cases x with
  | i a => cases y with
    | i b => simp [Pv.lt] at h ⊢; omega
    | s b => rfl
  | s a => cases y with
    | i b => rfl
    | s b =>
      simp only [Pv.lt, decide_eq_true_eq, decide_eq_false_iff_not] at h ⊢
      exact fun h2 => List.lt_irrefl _ (List.lt_trans h h2)
theorem lexLt_irr : ∀ a : DD, lexLt a a = false
  | [] => rfl
  | x :: xs => by simp [lexLt, lexLt_irr xs]
theorem lexLt_neg : ∀ (sh : List Bool) (a b c : DD), a.map Pv.isI = sh → b.map Pv.isI = sh → c.map Pv.isI = sh → lexLt b a = false → lexLt c b = false → lexLt c a = false
  | _, [], [], [], _, _, _, _, _ => rfl
  | sh, [], _ :: _, _, h1, h2, _, _, _ => by rw [← h1] at h2; simp at h2
  | sh, [], [], _ :: _, h1, _, h3, _, _ => by rw [← h1] at h3; simp at h3
  | sh, _ :: _, [], _, h1, h2, _, _, _ => by rw [← h1] at h2; simp at h2
  | sh, _ :: _, _ :: _, [], h1, _, h3, _, _ => by rw [← h1] at h3; simp at h3
  | sh, x :: xs, y :: ys, z :: zs, h1, h2, h3, e1, e2 => by
    have k1 : x.isI = y.isI ∧ xs.map Pv.isI = ys.map Pv.isI := by rw [← h1] at h2; simpa using h2.symm
    have k2 : y.isI = z.isI ∧ ys.map Pv.isI = zs.map Pv.isI := by rw [← h2] at h3; simpa using h3.symm
    simp only [lexLt] at e1 e2 ⊢
    by_cases q1 : y = x
    · subst q1
      rw [if_pos rfl] at e1
      by_cases q2 : z = y
      · subst q2
        rw [if_pos rfl] at e2 ⊢
        exact lexLt_neg _ xs ys zs rfl k1.2.symm (k2.2.symm.trans k1.2.symm) e1 e2
      · rw [if_neg q2] at e2 ⊢; exact e2
    · rw [if_neg q1] at e1
      by_cases q2 : z = y
      · subst q2
        rw [if_neg q1]; exact e1
      · rw [if_neg q2] at e2
        by_cases q3 : z = x
        · subst q3
          exact absurd (Pv.total k1.1.symm e1 e2) q1
        · rw [if_neg q3]; exact Pv.neg k1.1 k2.1 e1 e2
theorem lexLt_asym : ∀ (a b : DD), lexLt a b = true → lexLt b a = false
  | [], [], h => by cases h
  | [], _ :: _, _ => rfl
  | _ :: _, [], h => by cases h
  | x :: xs, y :: ys, h => by
    simp only [lexLt] at h ⊢
    by_cases q : x = y
    · subst q
      rw [if_pos rfl] at h ⊢
      exact lexLt_asym xs ys h
    · rw [if_neg q] at h
      rw [if_neg (Ne.symm q)]
      exact Pv.asym h
theorem lexLt_ok (sh : List Bool) : LtOk (fun d => d.map Pv.isI = sh) lexLt :=
  ⟨fun a _ => lexLt_irr a, fun a b c h1 h2 h3 => lexLt_neg sh a b c h1 h2 h3, fun a b _ _ => lexLt_asym a b⟩
section
variable {P : DD → Prop} {lt : DD → DD → Bool} {ds : List DD} {pos : Nat} {x : DD}
theorem DInv.done (h : DInv lt ds pos x) (hp : pos < ds.length) (e : pos = 0 ∨ lt x (nth ds (Par pos)) = false) : HeapOk lt (ds.set pos x) := by
  intro i h0 hi
  rw [List.length_set] at hi
  by_cases h1 : i = pos
  · subst h1
    rw [nth_set_eq hp, nth_set_ne (Nat.ne_of_gt (par_lt h0))]
    rcases e with e | e
    · (clear hi hp; omega)
    · exact e
  · rw [nth_set_ne (Ne.symm h1)]
    by_cases h2 : Par i = pos
    · rw [h2, nth_set_eq hp]
      exact h.b i h0 hi h2
    · rw [nth_set_ne (Ne.symm h2)]
      exact h.a i h0 hi h1 h2
theorem DInv.step (K : LtOk P lt) (hP : ∀ d ∈ ds, P d) (hx : P x) (h : DInv lt ds pos x) (hp : pos < ds.length) (h0 : 0 < pos) (e : lt x (nth ds (Par pos)) = true) : DInv lt (ds.set pos (nth ds (Par pos))) (Par pos) x := by
  have hq := par_lt h0
  have hql : Par pos < ds.length := Nat.lt_trans hq hp
  have Pq := hP _ (nth_mem hql)
  have hxq : lt (nth ds (Par pos)) x = false := K.asym _ _ hx Pq e
  refine ⟨fun i i0 hi h1 h2 => ?_, fun i i0 hi h1 => ?_, fun q0 i i0 hi h1 => ?_⟩
  · rw [List.length_set] at hi
    by_cases h3 : i = pos
    · subst h3; exact absurd rfl h2
    · rw [nth_set_ne (Ne.symm h3)]
      by_cases h4 : Par i = pos
      · rw [h4, nth_set_eq hp]
        exact h.c h0 i i0 hi h4
      · rw [nth_set_ne (Ne.symm h4)]
        exact h.a i i0 hi h3 h4
  · rw [List.length_set] at hi
    by_cases h3 : i = pos
    · subst h3
      rw [nth_set_eq hp]; exact hxq
    · rw [nth_set_ne (Ne.symm h3)]
      have h4 : Par i ≠ pos := by rw [h1]; exact Nat.ne_of_lt hq
      have h5 := h.a i i0 hi h3 h4
      rw [h1] at h5
      exact K.neg _ _ _ hx Pq (hP _ (nth_mem hi)) hxq h5
  · rw [List.length_set] at hi
    have hqq := par_lt q0
    rw [nth_set_ne (show pos ≠ Par (Par pos) by (clear hp h0 hql q0 i0 hi; omega))]
    have h6 : lt (nth ds (Par pos)) (nth ds (Par (Par pos))) = false := h.a (Par pos) q0 hql (by (clear hp h0 hql q0 i0 hi hqq; omega)) (by (clear hp h0 hql q0 i0 hi; omega))
    by_cases h3 : i = pos
    · subst h3
      rw [nth_set_eq hp]; exact h6
    · rw [nth_set_ne (Ne.symm h3)]
      have h4 : Par i ≠ pos := by rw [h1]; exact Nat.ne_of_lt hq
      have h5 := h.a i i0 hi h3 h4
      rw [h1] at h5
      exact K.neg _ _ _ (hP _ (nth_mem (by (clear h0 hql q0 i0 hi h3 h4; omega)))) Pq (hP _ (nth_mem hi)) h6 h5
theorem DInv.push (h : HeapOk lt ds) (x : DD) : DInv lt (ds ++ [x]) ds.length x := by
  have hl : (ds ++ [x]).length = ds.length + 1 := by simp
  refine ⟨fun i i0 hi h1 _ => ?_, fun i i0 hi h1 => ?_, fun _ i i0 hi h1 => ?_⟩
  · rw [hl] at hi
    have hi' : i < ds.length := by (clear hl i0; omega)
    have hp' : Par i < ds.length := Nat.lt_trans (par_lt i0) hi'
    have e1 : nth (ds ++ [x]) i = nth ds i := by simp [nth, List.getD_eq_getElem?_getD, List.getElem?_append_left hi']
    have e2 : nth (ds ++ [x]) (Par i) = nth ds (Par i) := by simp [nth, List.getD_eq_getElem?_getD, List.getElem?_append_left hp']
    rw [e1, e2]; exact h i i0 hi'
  · have := par_lt i0; (clear i0; omega)
  · have := par_lt i0; (clear i0; omega)
theorem DInv.any {y : DD} (h : DInv lt ds pos x) : DInv lt (ds.set pos y) pos x := by
  refine ⟨fun i i0 hi h1 h2 => ?_, fun i i0 hi h1 => ?_, fun p0 i i0 hi h1 => ?_⟩
  · rw [List.length_set] at hi
    rw [nth_set_ne (Ne.symm h1), nth_set_ne (Ne.symm h2)]; exact h.a i i0 hi h1 h2
  · rw [List.length_set] at hi
    have := par_lt i0
    rw [nth_set_ne (show pos ≠ i by (clear i0 hi; omega))]; exact h.b i i0 hi h1
  · rw [List.length_set] at hi
    have := par_lt i0
    have := par_lt p0
    rw [nth_set_ne (show pos ≠ i by (clear p0 i0 hi this; omega)), nth_set_ne (show pos ≠ Par pos by (clear p0 i0 hi; omega))]; exact h.c p0 i i0 hi h1
theorem UInv.start (h : HeapOk lt ds) (x : DD) : UInv lt (ds.set 0 x) 0 := by
  refine ⟨fun i i0 hi h1 h2 => ?_, fun p0 => absurd p0 (Nat.lt_irrefl _)⟩
  rw [List.length_set] at hi
  rw [nth_set_ne (Ne.symm h1), nth_set_ne (Ne.symm h2)]; exact h i i0 hi
theorem UInv.leaf (h : UInv lt ds pos) (e : ds.length ≤ 2 * pos + 1) (x : DD) : DInv lt ds pos x := by
  refine ⟨h.a, fun i i0 hi h1 => ?_, fun p0 i i0 hi h1 => ?_⟩
  · unfold Par at h1; omega
  · unfold Par at h1; (clear p0; omega)
theorem UInv.step (h : UInv lt ds pos) (hp : pos < ds.length) (c : Nat) (hc : c < ds.length) (hpc : Par c = pos) (hc0 : 0 < c) (hmin : ∀ j, 0 < j → j < ds.length → Par j = pos → lt (nth ds j) (nth ds c) = false) :
    UInv lt (ds.set pos (nth ds c)) c := by
  have hlt : pos < c := hpc ▸ par_lt hc0
  refine ⟨fun i i0 hi h1 h2 => ?_, fun _ i i0 hi h1 => ?_⟩
  · rw [List.length_set] at hi
    by_cases h3 : i = pos
    · subst h3
      have hp2 := par_lt i0
      rw [nth_set_eq hp, nth_set_ne (by (clear hc hc0 i0 hi h1 h2 hp hlt; omega))]
      exact h.c i0 c hc0 hc hpc
    · rw [nth_set_ne (Ne.symm h3)]
      by_cases h4 : Par i = pos
      · rw [h4, nth_set_eq hp]
        exact hmin i i0 hi h4
      · rw [nth_set_ne (Ne.symm h4)]
        exact h.a i i0 hi h3 h4
  · rw [List.length_set] at hi
    have hic := par_lt i0
    rw [hpc, nth_set_eq hp, nth_set_ne (show pos ≠ i by (clear hp hc hc0 i0 hi; omega))]
    have h5 := h.a i i0 hi (by (clear hp hc hc0 i0 hi; omega)) (by (clear hp hc hc0 i0 hi hic; omega))
    rw [h1] at h5
    exact h5
theorem HeapOk.root (K : LtOk P lt) (hP : ∀ d ∈ ds, P d) (h : HeapOk lt ds) : ∀ i, i < ds.length → lt (nth ds i) (nth ds 0) = false := by
  intro i
  induction i using Nat.strongRecOn with
  | ind i ih =>
    intro hi
    rcases Nat.eq_zero_or_pos i with e | i0
    · subst e; exact K.irr _ (hP _ (nth_mem hi))
    · have hp := par_lt i0
      exact K.neg _ _ _ (hP _ (nth_mem (by (clear hp; omega)))) (hP _ (nth_mem (by (clear i0; omega)))) (hP _ (nth_mem hi)) (ih _ hp (by (clear i0; omega))) (h i i0 hi)
theorem HeapOk.rootMem (K : LtOk P lt) (hP : ∀ d ∈ ds, P d) (h : HeapOk lt ds) : ∀ d ∈ ds, lt d (nth ds 0) = false := by
  intro d hd
  obtain ⟨i, hi, rfl⟩ := List.mem_iff_getElem.mp hd
  have := h.root K hP i hi
  simpa [nth, List.getD_eq_getElem?_getD, hi] using this
theorem HeapOk.dropLast (h : HeapOk lt ds) : HeapOk lt ds.dropLast := by
  intro i i0 hi
  have hl : ds.dropLast.length = ds.length - 1 := List.length_dropLast
  have hp := par_lt i0
  have e : ∀ j, j < ds.length - 1 → nth ds.dropLast j = nth ds j := fun j hj => by
    have hj' : j < ds.length := by (clear i0 hi hl hp; omega)
    simp [nth, List.getD_eq_getElem?_getD, hj, hj']
  rw [hl] at hi
  rw [e i hi, e _ (by (clear i0; omega))]
  exact h i i0 (by (clear hp; omega))
theorem HeapOk.nil : HeapOk lt [] := fun _ _ h => absurd h (Nat.not_lt_zero _)
theorem HeapOk.one : HeapOk lt [x] := fun i i0 h => by simp at h; omega
end
theorem set_perm : ∀ {l : List DD} {i : Nat}, i < l.length → ∀ x : DD, (l.set i x).Perm (x :: l.eraseIdx i)
  | [], _, h, _ => absurd h (Nat.not_lt_zero _)
  | a :: l, 0, _, x => List.Perm.refl _
  | a :: l, i + 1, h, x => ((set_perm (Nat.lt_of_succ_lt_succ h) x).cons a).trans (List.Perm.swap x a _)
theorem set_swap_perm {l : List DD} {i j : Nat} (hi : i < l.length) (hj : j < l.length) (hij : i ≠ j) (x : DD) : ((l.set i (nth l j)).set j x).Perm (l.set i x) := by
  have e : nth l j = l[j] := by simp [nth, List.getD_eq_getElem?_getD, hj]
  rw [e]
  have hj' : j < (l.set i l[j]).length := by simpa using hj
  have p1 : ((l.set i l[j]).set j x).Perm (x :: (l.set i l[j]).eraseIdx j) := set_perm hj' x
  have p2 : (l.set i x).Perm (x :: l.eraseIdx i) := set_perm hi x
  have p3 : (l.set i l[j]).Perm (l[j] :: l.eraseIdx i) := set_perm hi _
  have p4 : ((l.set i l[j])[j] :: (l.set i l[j]).eraseIdx j).Perm (l.set i l[j]) := by
    have q := (set_perm hj' (l.set i l[j])[j]).symm
    rw [List.set_getElem_self] at q
    exact q
  have e2 : (l.set i l[j])[j] = l[j] := by rw [List.getElem_set_ne hij]
  rw [e2] at p4
  exact p1.trans (((p4.trans p3).cons_inv.cons x).trans p2.symm)
end Mine
namespace Mine
abbrev bnd (kd id : String) (x : Addr) : Obj := { cls := .type kd, data := .fields #[.builtin id, .ref x] }
theorem slot_wget : Slot "wrapper_descriptor" "__get__" "wrapper_descriptor.__get__" :=
  .of (owner := "wrapper_descriptor") (n := "__get__") (by rw [typeLookup_type, builtinLookup_eq_fast]; kernel_rfl) (by decide +kernel) (by decide +kernel) (by decide +kernel)
    (by first | exact .inl (by decide +kernel) | exact .inr (by decide +kernel)) (by rw [isSubtype_type]; kernel_rfl)
theorem slot_mget : Slot "method_descriptor" "__get__" "method_descriptor.__get__" :=
  .of (owner := "method_descriptor") (n := "__get__") (by rw [typeLookup_type, builtinLookup_eq_fast]; kernel_rfl) (by decide +kernel) (by decide +kernel) (by decide +kernel)
    (by first | exact .inl (by decide +kernel) | exact .inr (by decide +kernel)) (by rw [isSubtype_type]; kernel_rfl)
theorem entry_wget : entryFor table "wrapper_descriptor.__get__" = some Builtin.«wrapper_descriptor.__get__» := entryFor_of_tree (by kernel_rfl)
theorem entry_mget : entryFor table "method_descriptor.__get__" = some Builtin.«method_descriptor.__get__» := entryFor_of_tree (by kernel_rfl)
theorem args_wget (a b c : Value) : argsOk "wrapper_descriptor.__get__" ⟨[a, b, c], []⟩ := by unfold argsOk; kernel_rfl
theorem args_mget (a b c : Value) : argsOk "method_descriptor.__get__" ⟨[a, b, c], []⟩ := by unfold argsOk; kernel_rfl
theorem type_llen : typeOf (.builtin "list.__len__") = pure (.type "wrapper_descriptor") := by show builtinType _ = _; rw [builtinType_eq_fast]; kernel_rfl
theorem type_linit : typeOf (.builtin "list.__init__") = pure (.type "wrapper_descriptor") := by show builtinType _ = _; rw [builtinType_eq_fast]; kernel_rfl
theorem type_lpop : typeOf (.builtin "list.pop") = pure (.type "method_descriptor") := by show builtinType _ = _; rw [builtinType_eq_fast]; kernel_rfl
/-- what the walk wants of a descriptor of list's -/
structure LDesc (id kd tn gid : String) (B : Builtin) : Prop where
  type : typeOf (.builtin id) = pure (.type tn)
  slot : Slot tn "__get__" gid
  entry : entryFor table gid = some B
  args : ∀ a b c, argsOk gid ⟨[a, b, c], []⟩
  tree : ∀ {M : Model} {A : Around} {E : Value → Shared → Prop} {s : Shared} {x C : Addr} {P : Fin → Shared → Prop}, Looks M s.heap (isInstance (.ref x) (.type "list")) true →
    P (.done (.ret (.ref s.heap.objs.size))) { s with heap := s.heap.push (bnd kd id x) } → wpAny M A (B ⟨[.builtin id, .ref x, .ref C], []⟩) P E s
theorem bind_tree {kd id : String} {n : Str} {M : Model} {A : Around} {E : Value → Shared → Prop} {s : Shared} {x : Addr} {P : Fin → Shared → Prop} (hn : (kfb_private% "nameAndClass") (.builtin id) = pure (n, .type "list"))
    (hI : Looks M s.heap (isInstance (.ref x) (.type "list")) true) (h : P (.done (.ret (.ref s.heap.objs.size))) { s with heap := s.heap.push (bnd kd id x) }) :
    wpAny M A ((kfb_private% "bindBuiltin") kd (.builtin id) (some (.ref x))) P E s := by
  show wpAny M A ((kfb_private% "checkInstance") (.builtin id) (.ref x) >>= fun _ => (newFields kd [.builtin id, .ref x] >>= fun v => ret v)) P E s
  refine wpAny_bind ?_
  show wpAny M A ((kfb_private% "nameAndClass") (.builtin id) >>= _) _ E s
  rw [hn]
  refine wpAny_bind (wpAny_pure ?_)
  refine wpAny_bind (hI.here ?_)
  simp only [Bool.not_true, Bool.false_eq_true, if_false]
  exact wpAny_pure (wpAny_bind (wpAny_newObj_type (wpAny_pure h)))
theorem d_len : LDesc "list.__len__" "method-wrapper" "wrapper_descriptor" "wrapper_descriptor.__get__" Builtin.«wrapper_descriptor.__get__» :=
  ⟨type_llen, slot_wget, entry_wget, args_wget, fun hI h => by
    unfold Builtin.«wrapper_descriptor.__get__»
    refine wpAny_bind (wpAny_of_eq (a := (.builtin "list.__len__", some (.ref _), some (.ref _))) (by first | rfl | kernel_rfl) ?_)
    exact bind_tree (n := Str.ofString "__len__") (by first | rfl | kernel_rfl) hI h⟩
theorem d_init : LDesc "list.__init__" "method-wrapper" "wrapper_descriptor" "wrapper_descriptor.__get__" Builtin.«wrapper_descriptor.__get__» :=
  ⟨type_linit, slot_wget, entry_wget, args_wget, fun hI h => by
    unfold Builtin.«wrapper_descriptor.__get__»
    refine wpAny_bind (wpAny_of_eq (a := (.builtin "list.__init__", some (.ref _), some (.ref _))) (by first | rfl | kernel_rfl) ?_)
    exact bind_tree (n := Str.ofString "__init__") (by first | rfl | kernel_rfl) hI h⟩
theorem told_pop : Manifest.toldItsClass.contains "list.pop" = false := by decide +kernel
theorem d_pop : LDesc "list.pop" "builtin_function_or_method" "method_descriptor" "method_descriptor.__get__" Builtin.«method_descriptor.__get__» :=
  ⟨type_lpop, slot_mget, entry_mget, args_mget, fun hI h => by
    unfold Builtin.«method_descriptor.__get__»
    refine wpAny_bind (wpAny_of_eq (a := (.builtin "list.pop", some (.ref _), some (.ref _))) (by first | rfl | kernel_rfl) ?_)
    dsimp only
    rw [told_pop]
    simp only [Bool.false_eq_true, if_false]
    exact bind_tree (n := Str.ofString "pop") (by first | rfl | kernel_rfl) hI h⟩
section
variable {prog : Program} {w : World} {A : Around} {E : Value → Shared → Prop} {h : Heap} {g : Array GenState} {d : Drawn} {t : Nat} {os : OsState}
theorem sup_ga {id kd tn gid : String} {B : Builtin} (Ld : LDesc id kd tn gid B) {so D x C : Addr} {l₀ l : List Value} {K : Frag} {name : Str} {tk : Tok} {Q : Fin → Shared → Prop}
    (hso : h.get? so = some { cls := .type "super", dict := none, data := .fields #[.ref D, .ref x, .ref C], slots := #[] }) (hno : Looks (model prog w) h (opaqueClassAbove (.ref C)) none)
    (hC : Looks (model prog w) h (mroOf (.ref C)) l₀) (hl : (l₀.dropWhile (· != .ref D)).drop 1 = l) (X : K.In h)
    (hf : alongIn K name l = some (some (.builtin id))) (hI : Looks (model prog w) h (isInstance (.ref x) (.type "list")) true) (hxC : x ≠ C) (hn : (name == ("__class__" : Str)) = false)
    (hq : Q (.done (.ret (.ref h.objs.size))) ⟨h.push (bnd kd id x), g, d, t, os⟩) :
    wpAny (model prog w) A (Builtin.«super.__getattribute__» ⟨[.ref so, .str name tk], []⟩) Q E ⟨h, g, d, t, os⟩ := by
  have hlk := Ld.slot.lookup
  have hne : (Value.ref x == Value.ref C) = false := by simp [hxC]
  have hTf : (⟨h, g, d, t, os⟩ : Shared).TypeIs (.builtin id) tn := Ld.type
  have hdt : ({ cls := .type "super", dict := none, data := .fields #[.ref D, .ref x, .ref C], slots := #[] } : Obj).data = .fields #[.ref D, .ref x, .ref C] := rfl
  have f0 : (#[.ref D, .ref x, .ref C] : Array Value)[0]? = some (.ref D) := rfl
  have f1 : (#[.ref D, .ref x, .ref C] : Array Value)[1]? = some (.ref x) := rfl
  have f2 : (#[.ref D, .ref x, .ref C] : Array Value)[2]? = some (.ref C) := rfl
  unfold Builtin.«super.__getattribute__»
  repeat (first
    | (with_reducible refine wpAny_field hso hdt f0 ?_) | (with_reducible refine wpAny_field hso hdt f1 ?_) | (with_reducible refine wpAny_field hso hdt f2 ?_)
    | (with_reducible refine ks_wpAny_notOpaque hno ?_)
    | (with_reducible refine Looks.at hC ?_; rw [hl])
    | (refine ks_forIn_along X (fun _ _ => rfl) rfl ?_ hf)
    | (with_reducible refine wpAny_typeOf hTf ?_)
    | (with_reducible refine wpAny_call_entry Ld.slot hTf Ld.entry (Ld.tree hI ?_) (Ld.args _ _ _))
    | (with_reducible refine ⟨_, rfl, ?_⟩)
    | (simp only [hn, hne, Bool.or_false, Bool.false_eq_true, if_false])
    | wp_step
    | dsimp only)
  all_goals exact hq
theorem sup_getMethod {id kd tn gid : String} {B : Builtin} (Ld : LDesc id kd tn gid B) {so D x C : Addr} {l₀ l : List Value} {K : Frag} {name : Str} {pl : Sem Bool} {Q : Value × List Value → Shared → Prop}
    (hso : h.get? so = some { cls := .type "super", dict := none, data := .fields #[.ref D, .ref x, .ref C], slots := #[] }) (hno : Looks (model prog w) h (opaqueClassAbove (.ref C)) none)
    (hC : Looks (model prog w) h (mroOf (.ref C)) l₀) (hl : (l₀.dropWhile (· != .ref D)).drop 1 = l) (X : K.In h)
    (hf : alongIn K name l = some (some (.builtin id))) (hI : Looks (model prog w) h (isInstance (.ref x) (.type "list")) true) (hxC : x ≠ C) (hn : (name == ("__class__" : Str)) = false)
    (hq : Q (.ref h.objs.size, []) ⟨h.push (bnd kd id x), g, d, t + 1, os⟩) :
    wpAny (model prog w) A (getMethod (.ref so) name pl) Q E ⟨h, g, d, t, os⟩ := by
  have hlk := F.ks_slot_super_ga.lookup
  have hcan := F.ks_canon_super_ga
  have hT : ∀ t', (⟨h, g, d, t', os⟩ : Shared).TypeIs (.ref so) "super" := fun _ => ⟨_, hso, rfl⟩
  unfold getMethod
  refine wpAny_bind (wpAny_specialOf (hT _) hlk ?_)
  show wpAny _ _ (if (Manifest.canonical "super.__getattribute__" != "object.__getattribute__") = true then _ else _) _ _ _
  rw [if_pos hcan]
  unfold getAttr getAttrBy
  refine wpAny_bind (wpAny_bind (wpAny_mkText (wpAny_holding (wpAny_bind (wpAny_typeOf (hT _) (wpAny_bind (wpAny_of_eq hlk ?_)))))))
  show wpAny _ _ (getAttrByItsOwn (.ref so) (.str name t) (.type "super") (.builtin "super.__getattribute__") true false) _ _ _
  unfold getAttrByItsOwn hookBefore callGetattribute boundAndCalled
  refine wpAny_bind (wpAny_of_eq (show (if onTheHeap (.type "super") then typeLookup (.type "super") "__getattr__" else pure none) = pure none from rfl) ?_)
  refine wpAny_bind (wpAny_attempt (wpAny_holding ?_))
  show wpAny _ _ (bindSpecial (.builtin "super.__getattribute__") (.ref so) >>= _) _ _ _
  refine wpAny_bind (wpAny_of_eq (F.ks_slot_super_ga.bind _) ?_)
  refine wpAny_mono (Q := fun v s' => v = .ref h.objs.size ∧ s' = ⟨h.push (bnd kd id x), g, d, t + 1, os⟩) (E := fun _ _ => False)
    (wpAny_call_entry F.ks_slot_super_ga (hT _) F.ks_entry_super_ga (sup_ga Ld hso hno hC hl X hf hI hxC hn ⟨_, rfl, rfl, rfl⟩) (F.ks_gaArgs_super _ _)) (fun v s' hv => ?_) fun _ _ z => z.elim
  obtain ⟨rfl, rfl⟩ := hv
  exact wpAny_pure (wpAny_pure hq)
end
section
variable {prog : Program} {w : World} {M : Model} {A : Around} {E : Value → Shared → Prop} {s : Shared} {h₀ : Heap} {L : Addr} {m : Str → Option Value} {news : List (Addr × Obj)} {K : Frag}
theorem sup_method {id kd tn gid : String} {B : Builtin} (Ld : LDesc id kd tn gid B) {x C D so : Addr} {ox : Obj} {odx : Option Obj} {name : Str} {pl : Sem Bool} {Q : Value × List Value → Shared → Prop}
    (F : Fr h₀ L s.heap m) (X₀ : K.In h₀) (N : News h₀ L s.heap news) (hso : (so, ks_superObj D x C) ∈ news) (I : InstAt s.heap x ox C odx) (ho : nsIn K cStatics "thirdparty.any" = some none)
    (hm : ks_superIn K C D name = some (some (.builtin id))) (hi : mroIn K C (.type "list") = some true) (hn : (name == ("__class__" : Str)) = false)
    (h : ∀ q h', Fr h₀ L h' m → News h₀ L h' ((q, bnd kd id x) :: news) → (∀ p ∈ news, p.1 < q) → Q (.ref q, []) { s with heap := h', toks := s.toks + 1 }) : wpAny (model prog w) A (getMethod (.ref so) name pl) Q E s := by
  have X : K.In s.heap := X₀.keeps F.keep
  obtain ⟨hh, g, d, t, os⟩ := s
  cases hc : clsIn K C with
  | none => unfold ks_superIn at hm; rw [hc] at hm; cases hm
  | some cd =>
    unfold ks_superIn at hm
    rw [hc] at hm
    refine sup_getMethod Ld (N _ hso).1 (looks_opaque X ho) (l₀ := cd.mro) ?_ rfl X hm (I.type.andThen (looks_mroIn X hi)) (ks_ne X I hc) hn ?_
    · exact fun A Q E s k q => wpAny_bind ((looks_clsIn X hc) A _ E s k (wpAny_pure q))
    · obtain ⟨F', N', l'⟩ := ks_newsPush (s := ⟨hh, g, d, t, os⟩) (o := bnd kd id x) F N rfl (Heap.get?_push_at rfl rfl) (fun b o e => Heap.get?_push_of_some _ e)
      exact h _ _ F' N' l'
/-- a call of the bound one -/
theorem bnd_call {kd id : String} {q x : Addr} {B : Builtin} {args : List Value} {Q : Value → Shared → Prop} (hq : s.heap.get? q = some (bnd kd id x)) (hk : (Value.type kd == .type "method" || Value.type kd == .type "builtin_function_or_method" || Value.type kd == .type "method-wrapper") = true) (hk2 : (Value.type kd != .type "method") = true)
    (hc : ∀ {Q' : Unit → Shared → Prop} {A' : Around}, Q' () s → wpAny (model prog w) A' (checkBoundCall id ⟨.ref x :: args, []⟩) Q' E s) (he : entryFor table id = some B) (hqt : ∀ as, (Code.builtin id as).quiet = true)
    (ht : ∀ A' : Around, wpAny (model prog w) A' (B ⟨.ref x :: args, []⟩) (fun fin s' => ∃ v, fin = .done (.ret v) ∧ Q v s') E s) : wpAny (model prog w) A (call (.ref q) args) Q E s := by
  refine wpAny_call (codeAny_of_tree ?_)
  show wpAny _ A.in1 (callAny (.ref q) ⟨args, []⟩) _ _ s
  simp only [callAny]
  refine wpAny_bind (wpAny_load hq ?_)
  simp only [bnd]
  rw [if_pos hk]
  have e0 : (#[Value.builtin id, Value.ref x] : Array Value)[0]? = some (.builtin id) := rfl
  have e1 : (#[Value.builtin id, Value.ref x] : Array Value)[1]? = some (.ref x) := rfl
  rw [e0, e1]
  dsimp only
  rw [if_pos hk2]
  refine wpAny_bind (hc ?_)
  refine wpAny_bind (wpAny_pure (wpAny_pure ?_))
  refine ⟨hqt _, codeAny_builtin he (wpAny_mono (ht _) (fun fin s' h => ?_) fun _ _ z => z)⟩
  obtain ⟨v, rfl, hv⟩ := h
  exact hv
def BndAt (kd id : String) (q x : Addr) (h : Heap) : Prop := h.get? q = some (bnd kd id x)
theorem bnd_callWith {kd id : String} {pos : Pos} {u x : Addr} {args : List (Bool × Sem Value)} {Q : Value → Shared → Prop} (hk : (Value.type kd == .type "builtin_function_or_method" || Value.type kd == .type "method-wrapper") = true) (hk2 : (Value.type kd != .type "method") = true) (hplain : args.any (·.1) = false)
    (h : wpAny M A (evalArgs (.ref u) true args []) (fun y s₁ => BndAt kd id u x s₁.heap ∧ wpAny M A (call (.ref u) y.pos y.kw) Q E s₁) E s) : wpAny M A (callWith pos (.ref u) [] args []) Q E s := by
  unfold callWith
  refine wpAny_bind (wpAny_holding (wpAny_mono h (fun y s₁ h₁ => wpAny_bind (wpAny_standAt ?_)) fun _ _ x => x))
  obtain ⟨ho, hcall⟩ := h₁
  simp only [hplain, List.any_nil, Bool.or_false]
  refine wpAny_bind (m := keeperOf (.ref u)) ?_
  unfold keeperOf
  refine wpAny_bind (wpAny_load ho ?_)
  simp only [bnd, hk, hk2, if_true]
  refine wpAny_pure ?_
  exact wpAny_bind (wpAny_mono hcall (fun r s₂ hr => wpAny_bind (wpAny_holding (wpAny_point (wpAny_pure hr)))) fun _ _ x => x)
theorem bnd_callWith0 {kd id : String} {pos : Pos} {u x : Addr} {env : Env} {Q : Value → Shared → Prop} (hk : (Value.type kd == .type "builtin_function_or_method" || Value.type kd == .type "method-wrapper") = true) (hk2 : (Value.type kd != .type "method") = true)
    (hb : s.heap.get? u = some (bnd kd id x)) (h : wpAny M A (call (.ref u) []) Q E s) : wpAny M A (callWith pos (.ref u) [] (backTo pos (starEach [] env)) []) Q E s :=
  bnd_callWith (kd := kd) (id := id) (x := x) hk hk2 rfl (evalArgs_nil3 ⟨hb, h⟩)
end
section
variable {prog : Program} {w : World} {K : Frag} {p : Program} {loose : List Str} {mean : ExcName → Option Value} {mg mb : Str → Option Value}
theorem enterS {base : Heap} {dp un : Nat} {gd : Option (List Code)} {fr : List Env} {s : Shared} {R : Result → Shared → Prop} {name qual : Str} {params : Arguments} {body : List Stmt} {scope : Scope} {cl : List (Str × Addr)} {dV kV doc pm cdv ct oc : Value} {an od : Option Addr} {osl : Array (Option Value)} {f : Addr} {args : Args} {binds : List (Str × Value)} (rb : List (Str × Value))
    (D : List (Addr × Obj)) (X : K.In base) (T : Top p loose mean mg mb base) (hS : base.StaysIn s.heap) (hD : ∀ q ∈ D, s.heap.get? q.1 = some q.2 ∧ base.get? q.1 = none)
    (ho : K.lookup f = some ⟨oc, od, .func (fnX name qual params body scope cl dV kV doc pm an cdv ct), osl⟩) (hcd : codeIn K cdv qual = true) (hroom : dp < recursionLimit)
    (hbind : BindsTo s (fnX name qual params body scope cl dV kV doc pm an cdv ct) args binds) (hloc : ∀ y ∈ binds, scope.names.lookup y.1 = some .local) (hrb : binds.reverse = rb)
    (h : ∀ g L h₁ tk, Fr g L h₁ (fun y => rb.lookup y) → News g L h₁ D → K.In g → Top p loose mean mg mb g → Keep (D.map Prod.fst) s.heap g → (∀ b o, s.heap.get? b = some o → b < L) →
      _root_.PySem.wpAt (model prog w) (amb (dp + 1) (un + 3) gd (envX qual scope L f cdv cl :: fr)) (.func body (envX qual scope L f cdv cl)) (execs body (envX qual scope L f cdv cl)) (fun fl s' => R (.ok (.ret (match fl with | .ret v => v | _ => .none))) s') FF { s with heap := h₁, toks := tk })
    (hco : scope.isCoroutine = false) (hgen : scope.isGenerator = false) (hk : scope.kind = .function)
    (hcell : ∀ x ∈ scope.names, x.2 ≠ .cell) : codeAny (model prog w) (amb dp un gd fr) (.call (.ref f) args) R s := by
  have XS := X.keeps hS
  refine ks_codeAny_call_defAt (fd := fnX name qual params body scope cl dV kV doc pm an cdv ct) (body := body) (binds := binds) hroom (XS _ _ ho) rfl (T.nolimit.keeps hS) (codeRec_of XS hcd) rfl hbind hcell hloc (fun h₁ hns hk₁ => ?_) hco hgen hk
  have st : base.StaysIn (hideAll s.heap (D.map Prod.fst)) := fun b o e => hideAll_get _ (hS b o e) fun q => by
    obtain ⟨q', hq, rfl⟩ := List.mem_map.mp q
    rw [(hD q' hq).2] at e; cases e
  exact ks_wpAt_mono (h (hideAll s.heap (D.map Prod.fst)) s.heap.objs.size h₁ _
    ⟨hrb ▸ hns, fun b o e => hk₁ b o (of_hideAll _ e), Nat.le_of_eq (hideAll_size _ _)⟩
    (fun q hq => ⟨hk₁ _ _ (hD q hq).1, Nat.ne_of_lt (Heap.lt_size (hD q hq).1), hideAll_none _ (List.mem_map_of_mem (f := Prod.fst) hq)⟩) (X.keeps st) (T.keeps st) (fun b o hb e => hideAll_get _ e hb) (fun b o e => Heap.lt_size e)) (fun _ _ x => x) fun _ _ x => x.elim
end
section
variable {prog : Program} {w : World} {A : Around} {E : Value → Shared → Prop} {s : Shared}
theorem quiet_llen (as : Args) : (Code.builtin "list.__len__" as).quiet = true := Code.quiet_builtin _ (by decide +kernel)
theorem quiet_linit (as : Args) : (Code.builtin "list.__init__" as).quiet = true := Code.quiet_builtin _ (by decide +kernel)
theorem quiet_lpop (as : Args) : (Code.builtin "list.pop" as).quiet = true := Code.quiet_builtin _ (by decide +kernel)
theorem check_llen (x : Addr) : checkBoundCall "list.__len__" ⟨[.ref x], []⟩ = pure () := by first | rfl | kernel_rfl
theorem check_linit (x : Addr) : checkBoundCall "list.__init__" ⟨[.ref x], []⟩ = pure () := by first | rfl | kernel_rfl
theorem seqSize_at {a : Addr} {o : Obj} {vs : Array Value} {n : Nat} {Q : Nat → Shared → Prop} (ho : s.heap.get? a = some o) (hd : o.data = .seq vs n) (h : Q vs.size s) : wpAny (model prog w) A (seqSize a) Q E s := by
  unfold seqSize
  refine wpAny_bind (wpAny_loadPart ho ?_)
  rw [hd]
  exact wpAny_pure h
theorem llen_tree {a : Addr} {o : Obj} {vs : Array Value} {n : Nat} {P : Fin → Shared → Prop} (ho : s.heap.get? a = some o) (hd : o.data = .seq vs n) (h : ∀ t tk, P (.done (.ret (.int (vs.size : Int) t))) { s with toks := tk }) :
    wpAny (model prog w) A (Builtin.«list.__len__» ⟨[.ref a], []⟩) P E s := by
  unfold Builtin.«list.__len__»
  refine wpAny_bind (wpAny_of_eq (a := (.ref a, [])) (by first | rfl | kernel_rfl) ?_)
  dsimp only
  exact wpAny_bind (seqSize_at ho hd (wpAny_bind (wpAny_mkInt (wpAny_pure (h _ _)))))
theorem sup_len {a q : Addr} {o : Obj} {vs : Array Value} {n : Nat} {Q : Value → Shared → Prop} (hq : s.heap.get? q = some (bnd "method-wrapper" "list.__len__" a)) (ho : s.heap.get? a = some o) (hd : o.data = .seq vs n) (h : ∀ t tk, Q (.int (vs.size : Int) t) { s with toks := tk }) :
    wpAny (model prog w) A (call (.ref q) []) Q E s :=
  bnd_call hq (by decide) (by decide) (fun h => wpAny_of_eq (check_llen a) h) (entryFor_of_tree (by kernel_rfl)) quiet_llen (fun _ => llen_tree ho hd fun t tk => ⟨_, rfl, h t tk⟩)
end
end Mine
namespace Mine
section
variable {prog : Program} {w : World} {M : Model} {A : Around} {E : Value → Shared → Prop} {s : Shared} {K : Frag} {x C : Addr} {ox : Obj} {od : Option Obj} {items : Array Value} {n : Nat}
theorem special_bi {id : String} {name : Str} {args : List Value} {kw : List (Str × Value)} {Q : Option Value → Shared → Prop} (X : K.In s.heap) (I : InstAt s.heap x ox C od) (hs : findIn K (.ref C) name = some (some (.builtin id))) (hb : bindSpecial (.builtin id) (.ref x) = pure (.builtin id, [.ref x]))
    (h : wpAny M A (call (.builtin id) (.ref x :: args) kw) (fun v => Q (some v)) E s) : wpAny M A (callSpecial? (.ref x) name args kw) Q E s := by
  unfold callSpecial? specialOf
  refine wpAny_bind (wpAny_bind (I.type.here ((looks_findIn X hs).here ?_)))
  simp only [hb]
  exact wpAny_holding (wpAny_bind (wpAny_pure (wpAny_bind (wpAny_mono h (fun v s' h' => wpAny_pure h') fun _ _ h' => h'))))
theorem check_meth {i owner n : String} {self : Value} {rest : List Value} {kw : List (Str × Value)} {Q : Unit → Shared → Prop}
    (hk : builtinKind i = some .method) (hs : splitId i = some (owner, n)) (hi : Looks M s.heap (isInstance self (.type owner)) true) (ha : argsOk i ⟨self :: rest, kw⟩) (q : Q () s) :
    wpAny M A (checkBuiltinCall i ⟨self :: rest, kw⟩) Q E s := by
  simp only [checkBuiltinCall, hk, hs]
  refine wpAny_bind (hi.here ?_)
  simp only [Bool.not_true, Bool.false_eq_true, if_false]
  cases hsig : Manifest.signature? i with
  | none => exact wpAny_pure q
  | some sig =>
    simp only [argsOk, hsig] at ha
    have h2 : Bind.checkArgs i sig ⟨self :: rest, kw⟩ = pure () := ha
    show wpAny M A (Bind.checkArgs i sig ⟨self :: rest, kw⟩) Q E s
    rw [h2]; exact wpAny_pure q
/-- a method or a slot of list's, called on an instance of a class below list -/
theorem call_bi {id n : String} {B : Builtin} {rest : List Value} {Q : Value → Shared → Prop} (X : K.In s.heap) (I : InstAt s.heap x ox C od) (hm : mroIn K C (.type "list") = some true)
    (hk : builtinKind id = some .method ∨ builtinKind id = some .slot) (hs : splitId id = some ("list", n)) (hp : plainId id = true) (he : entryFor table id = some B) (ha : argsOk id ⟨.ref x :: rest, []⟩)
    (ht : wpAny (model prog w) A.in1 (B ⟨.ref x :: rest, []⟩) (fun fin s' => ∃ v, fin = .done (.ret v) ∧ Q v s') E s) : wpAny (model prog w) A (call (.builtin id) (.ref x :: rest)) Q E s := by
  have hI : Looks (model prog w) s.heap (isInstance (.ref x) (.type "list")) true := I.type.andThen (looks_mroIn X hm)
  refine wpAny_call (codeAny_call_builtin hp he ?_)
  have fin : wpAny (model prog w) A.in1 (B ⟨.ref x :: rest, []⟩) (fun fin s' => match fin with
      | .done f => (match (Except.ok f : Result) with | .ok (.ret v) => Q v s' | .ok _ => False | .error e => E e s')
      | .again c' => c'.quiet = true ∧ codeAny (model prog w) A c' (fun (r : Result) s' => match r with | .ok (.ret v) => Q v s' | .ok _ => False | .error e => E e s') s') E s :=
    wpAny_mono ht (fun fin s' h' => by obtain ⟨v, rfl, hv⟩ := h'; exact hv) fun _ _ h' => h'
  rcases hk with hk | hk
  · exact check_meth hk hs hI ha fin
  · exact check_slot hk hs hI ha fin
theorem getitem_int_tree {k : Int} {t : Tok} {y : Value} {P : Fin → Shared → Prop} (ho : s.heap.get? x = some ox) (hd : ox.data = .seq items n) (h0 : 0 ≤ k) (hfit : k < 2 ^ 63) (hx : items[k.toNat]? = some y) (h : P (.done (.ret y)) s) :
    wpAny M A (Builtin.«list.__getitem__» ⟨[.ref x, .int k t], []⟩) P E s := by
  show wpAny _ _ (Builtin.List.listSubscript? (.int k t) >>= _) _ _ s
  refine wpAny_bind (wpAny_listSubscript_int (fitsIndex_of h0 hfit) ?_)
  clear hfit
  obtain ⟨j, rfl⟩ := Int.eq_ofNat_of_zero_le h0
  have hx' : items[j]? = some y := hx
  show wpAny _ _ ((seqItemAt x j >>= fun r => pure (r.map (j, ·))) >>= _) _ _ s
  refine wpAny_bind (wpAny_bind (wpAny_seqItemAt ho hd (wpAny_pure ?_)))
  rw [hx']
  first
    | exact wpAny_bind (wpAny_pure (wpAny_pure h))
    | exact wpAny_pure h
theorem slice_parts {sl : Addr} {vl vu : Value} {lo hi : Option Int} {Q : Value × Value × Value → Shared → Prop} (hs : s.heap.IsSliceOf sl vl vu .none) (pl : IsPart vl lo) (pu : IsPart vu hi) (h : Q (rawPart lo, rawPart hi, rawPart none) s) :
    wpAny M A (Builtin.List.listSliceParts (.ref sl)) Q E s := by
  obtain ⟨os, hos, hcs, hds⟩ := hs
  rw [listSliceParts_eq]
  refine wpAny_bind (wpAny_field hos hds (x := .none) rfl (wpAny_bind (wpAny_listPart (k := none) .none ?_)))
  rw [if_neg (show ¬ ((rawPart none == rawInt 0) = true) from Bool.false_ne_true)]
  refine wpAny_bind (wpAny_field hos hds (x := vl) rfl (wpAny_bind (wpAny_listPart pl ?_)))
  exact wpAny_bind (wpAny_field hos hds (x := vu) rfl (wpAny_bind (wpAny_listPart pu (wpAny_pure h))))
theorem no_subscript {sl : Addr} {vl vu : Value} {Q : Option Int → Shared → Prop} (hs : s.heap.IsSliceOf sl vl vu .none) (h : Q none s) : wpAny M A (Builtin.List.listSubscript? (.ref sl)) Q E s := by
  obtain ⟨os, hos, hcs, hds⟩ := hs
  have hTs : s.TypeIs (.ref sl) "slice" := ⟨os, hos, hcs⟩
  unfold Builtin.List.listSubscript?
  refine wpAny_bind (wpAny_specialOf hTs slice_no_index ?_)
  simp only [Option.isNone_none, if_true]
  exact wpAny_pure h
theorem items_at {Q : Array Value → Shared → Prop} (ho : s.heap.get? x = some ox) (hd : ox.data = .seq items n) (h : Q items s) : wpAny M A (Builtin.List.listItems (.ref x)) Q E s := by
  unfold Builtin.List.listItems
  exact wpAny_bind (wpAny_seqItems ho hd (wpAny_pure h))
theorem getitem_slice_tree {sl : Addr} {vl vu : Value} {lo hi : Option Int} {P : Fin → Shared → Prop} (ho : s.heap.get? x = some ox) (hd : ox.data = .seq items n) (hs : s.heap.IsSliceOf sl vl vu .none) (pl : IsPart vl lo) (pu : IsPart vu hi) (hsz : items.size ≤ sizeLine)
    (h : P (.done (.ret (.ref s.heap.objs.size))) { s with heap := s.heap.push (listOf (slicePick items lo hi none) 0) }) :
    wpAny M A (Builtin.«list.__getitem__» ⟨[.ref x, .ref sl], []⟩) P E s := by
  have hTs : s.TypeIs (.ref sl) "slice" := ⟨_, hs.choose_spec.1, hs.choose_spec.2.1⟩
  show wpAny _ _ (Builtin.List.listSubscript? (.ref sl) >>= _) _ _ s
  refine wpAny_bind (no_subscript hs ?_)
  show wpAny _ _ (typeOf (.ref sl) >>= _) _ _ s
  refine wpAny_bind (wpAny_typeOf hTs ?_)
  rw [if_neg (by decide)]
  refine wpAny_bind (slice_parts hs pl pu ?_)
  refine wpAny_bind (items_at ho hd ?_)
  refine wpAny_bind (wpAny_of_eq (sliceIndices_raw lo hi none items.size (fun e => nomatch e)) ?_)
  exact wpAny_bind (wpAny_newObj_type (wpAny_pure h) (Nat.le_trans (slicePick_size_le items lo hi none) hsz))
/-- what a slice store leaves -/
def sliceSet (items new : Array Value) (lo hi : Option Int) : Array Value :=
  items.extract 0 (sliceBounds lo hi none items.size).1.toNat ++ new ++ items.extract (max (sliceBounds lo hi none items.size).1 (sliceBounds lo hi none items.size).2.1).toNat items.size
theorem cut_room {a b n m : Nat} (h : n + m ≤ 1000000) : min a n - 0 + m + (min n n - b) ≤ 16777216 + 1 := by omega
theorem setitem_slice_tree {sl e : Addr} {oe : Obj} {new : Array Value} {ne : Nat} {vl vu : Value} {lo hi : Option Int} {P : Fin → Shared → Prop} (ho : s.heap.get? x = some ox) (hd : ox.data = .seq items n) (hs : s.heap.IsSliceOf sl vl vu .none) (pl : IsPart vl lo) (pu : IsPart vu hi)
    (he : s.heap.get? e = some oe) (hec : oe.cls = .type "list") (hed : oe.data = .seq new ne) (hxe : x ≠ e) (hsz : items.size + new.size ≤ 1000000)
    (h : P (.done (.ret .none)) { s with heap := s.heap.update x (Obj.mapSeq fun xs => xs.extract 0 (sliceBounds lo hi none items.size).1.toNat ++ new ++ xs.extract (max (sliceBounds lo hi none items.size).1 (sliceBounds lo hi none items.size).2.1).toNat xs.size) }) :
    wpAny M A (Builtin.«list.__setitem__» ⟨[.ref x, .ref sl, .ref e], []⟩) P E s := by
  have hTs : s.TypeIs (.ref sl) "slice" := ⟨_, hs.choose_spec.1, hs.choose_spec.2.1⟩
  have hTe : s.TypeIs (.ref e) "list" := ⟨_, he, hec⟩
  unfold Builtin.«list.__setitem__»
  refine wpAny_bind (wpAny_of_eq (a := (.ref x, [.ref sl, .ref e])) (by first | rfl | kernel_rfl) ?_)
  dsimp only
  refine wpAny_bind (no_subscript hs ?_)
  refine wpAny_bind (wpAny_typeOf hTs ?_)
  rw [if_neg (by decide)]
  refine wpAny_bind (slice_parts hs pl pu ?_)
  have hne : Builtin.List.listSameRef (.ref x) (.ref e) = false := by
    show (x == e) = false
    simp [hxe]
  rw [hne]
  simp only [Bool.false_eq_true, if_false]
  refine wpAny_bind ?_
  · unfold Builtin.List.listAllItems
    refine wpAny_bind (wpAny_typeOf hTe ?_)
    rw [if_pos (by decide)]
    refine items_at he hed ?_
    refine wpAny_bind (items_at ho hd ?_)
    refine wpAny_bind (wpAny_of_eq (sliceIndices_raw lo hi none items.size (fun e => nomatch e)) ?_)
    have h1 : ((sliceBounds lo hi none items.size).2.2 == (1 : Int)) = true := rfl
    rw [if_pos h1]
    refine wpAny_bind (wpAny_rule ?_)
    have h2 : Builtin.List.listTooLong (items.size + new.size) = false := by
      unfold Builtin.List.listTooLong
      rw [decide_eq_false_iff_not, sizeLine_eq]; (clear hxe; omega)
    rw [h2]
    simp only [Bool.false_eq_true, if_false]
    refine wpAny_bind ?_
    show wpAny _ _ (updateSeq x _) _ _ _
    refine wpAny_updateSeq ho hd ?_ (by rw [sizeLine_eq]; (clear hxe; omega)) (by simp only [Array.size_append, Array.size_extract, sizeLine_eq]; exact cut_room hsz)
    refine wpAny_bind (wpAny_letGo ?_)
    exact wpAny_bind (wpAny_pure (wpAny_pure h))
end
end Mine
namespace Mine
def SeqAt (h : Heap) (a : Addr) (items : Array Value) : Prop := ∃ o n, h.get? a = some o ∧ o.data = .seq items n
theorem SeqAt.extBut {h h' : Heap} {a b : Addr} {items : Array Value} (x : SeqAt h a items) (k : Heap.ExtBut b h h') (hne : a ≠ b) : SeqAt h' a items :=
  let ⟨o, n, e, r⟩ := x; ⟨o, n, k a o hne e, r⟩
theorem SeqAt.keeps {h h' : Heap} {a : Addr} {items : Array Value} (x : SeqAt h a items) (k : ∀ o, h.get? a = some o → h'.get? a = some o) : SeqAt h' a items :=
  let ⟨o, n, e, r⟩ := x; ⟨o, n, k o e, r⟩
theorem SeqAt.lt {h : Heap} {a : Addr} {items : Array Value} (x : SeqAt h a items) : a < h.objs.size := let ⟨_, _, e, _⟩ := x; Heap.lt_size e
section
variable {prog : Program} {w : World} {A : Around} {E : Value → Shared → Prop} {s : Shared}
theorem next_item {it l : Addr} {i : Nat} {items : Array Value} {x : Value} {Q : Option Value → Shared → Prop} (hit : s.heap.IsListIter it l i) (hl : SeqAt s.heap l items) (hx : items[i]? = some x)
    (hQ : ∀ h', h'.IsListIter it l (i + 1) → Heap.SameBut it s.heap h' → Q (some x) { s with heap := h' }) : wpAny (model prog w) A (pyNext (.ref it)) Q E s := by
  obtain ⟨oi, hoi, hci, hdi⟩ := id hit
  obtain ⟨ol, nl, hol, hdl⟩ := hl
  unfold pyNext
  refine wpAny_bind (wpAny_attempt (wpAny_callSpecial?_slot (name := Str.ofString "__next__") hit.typeIs slot_listiter_next (wpAny_call_entry slot_listiter_next hit.typeIs entry_listiter_next ?_ (args_listiter_next _))))
  show wpAny _ _ (field (.ref it) 0 >>= _) _ _ s
  refine wpAny_bind (wpAny_field hoi hdi (x := .ref l) rfl ?_)
  show wpAny _ _ (if (Value.ref l == Value.none) = true then _ else _) _ _ s
  rw [if_neg (show ¬ ((Value.ref l == Value.none) = true) from Bool.false_ne_true)]
  show wpAny _ _ (field (.ref it) 1 >>= _) _ _ s
  refine wpAny_bind (wpAny_field hoi hdi (x := .int i 0) rfl ?_)
  show wpAny _ _ (seqItems? (.ref l) >>= _) _ _ s
  refine wpAny_bind (wpAny_seqItems hol hdl ?_)
  simp only [Int.toNat_natCast, hx]
  refine wpAny_bind (wpAny_setField hoi hdi (by simp) (wpAny_pure ⟨x, rfl, wpAny_pure (hQ _ ?_ (Heap.SameBut.update ..))⟩))
  refine ⟨_, Heap.get?_update_self _ hoi (Obj.isFreed_of_fields (Obj.data_mapFields hdi _)), (Obj.cls_mapFields ..).trans hci, ?_⟩
  rw [Obj.data_mapFields hdi]
  simp [rawInt]
theorem next_end {it l : Addr} {i : Nat} {items : Array Value} {Q : Option Value → Shared → Prop} (hh : A.handled = none) (hit : s.heap.IsListIter it l i) (hl : SeqAt s.heap l items) (hx : items[i]? = none)
    (hQ : ∀ h', Heap.ExtBut it s.heap h' → Q none { s with heap := h' }) : wpAny (model prog w) A (pyNext (.ref it)) Q E s := by
  obtain ⟨oi, hoi, hci, hdi⟩ := id hit
  obtain ⟨ol, nl, hol, hdl⟩ := hl
  unfold pyNext
  refine wpAny_bind (wpAny_attempt (wpAny_callSpecial?_slot (name := Str.ofString "__next__") hit.typeIs slot_listiter_next (wpAny_call_entry slot_listiter_next hit.typeIs entry_listiter_next ?_ (args_listiter_next _))))
  show wpAny _ _ (field (.ref it) 0 >>= _) _ _ s
  refine wpAny_bind (wpAny_field hoi hdi (x := .ref l) rfl ?_)
  show wpAny _ _ (if (Value.ref l == Value.none) = true then _ else _) _ _ s
  rw [if_neg (show ¬ ((Value.ref l == Value.none) = true) from Bool.false_ne_true)]
  show wpAny _ _ (field (.ref it) 1 >>= _) _ _ s
  refine wpAny_bind (wpAny_field hoi hdi (x := .int i 0) rfl ?_)
  show wpAny _ _ (seqItems? (.ref l) >>= _) _ _ s
  refine wpAny_bind (wpAny_seqItems hol hdl ?_)
  simp only [Int.toNat_natCast, hx]
  refine wpAny_bind (wpAny_rule (wpAny_bind (wpAny_setField hoi hdi (by simp) ?_)))
  show wpAny _ _ (newExc (.type "StopIteration") [] >>= _) _ _ _
  refine wpAny_bind ?_
  simp only [newExc, newTuple]
  refine wpAny_bind (wpAny_newObj_type ?_ (by size_fits))
  refine wpAny_bind (m := firstArgMember _ _) (wpAny_of_eq (a := Value.none) (by first | rfl | (simp only [firstArgMember]; rfl)) ?_)
  refine wpAny_newObj_type ?_ (by size_fits)
  simp only [raiseNew]
  refine wpAny_bind (wpAny_handled ?_)
  rw [show A.in1.handled = none from hh]
  refine wpAny_bind (wpAny_pure (wpAny_throw ?_))
  refine wpAny_bind (wpAny_isInstance (T := "StopIteration") (b := true) ⟨_, Heap.get?_push_size _ rfl, rfl⟩ isSubtype_stop ?_)
  exact wpAny_pure (hQ _ (((Heap.SameBut.update ..).extBut.push _).push _))
end
theorem seqTuples {prog : Program} {w : World} {A : Around} (hh : A.handled = none) (I ax : Addr) (hne : ax ≠ I) (items : Array Value) (Ts : Nat → Addr) (vals : Nat → Array Value)
    (hit : ∀ j, j < items.size → items[j]? = some (.ref (Ts j))) (hTI : ∀ j, j < items.size → Ts j ≠ I) :
    WalksU prog w A I (I :: ax :: (List.range items.size).map Ts) [I] items.size (fun j v => j < items.size ∧ v = vals j)
      (fun j h => h.IsListIter I ax j ∧ SeqAt h ax items ∧ ∀ k, k < items.size → h.IsTuple (Ts k) (vals k))
      (fun j T h => (j < items.size ∧ T = Ts j) ∧ h.IsListIter I ax (j + 1) ∧ SeqAt h ax items ∧ ∀ k, k < items.size → h.IsTuple (Ts k) (vals k)) where
  sub := fun b hb => by simp at hb; simp [hb]
  frame := fun _ _ _ st hk => ⟨st.1.at fun o e => hk I (by simp) o e, st.2.1.keeps fun o e => hk ax (by simp) o e,
    fun k hk' => (st.2.2 k hk').at fun o e => hk (Ts k) (List.mem_cons_of_mem _ (List.mem_cons_of_mem _ (List.mem_map.mpr ⟨k, List.mem_range.mpr hk', rfl⟩))) o e⟩
  item := fun i s Q E hi st hQ => by
    refine next_item st.1 st.2.1 (x := .ref (Ts i)) (hit i hi) fun h' hit' hs' => ?_
    have tup : ∀ k, k < items.size → h'.IsTuple (Ts k) (vals k) := fun k hk' => (st.2.2 k hk').extBut hs'.extBut (hTI k hk')
    exact hQ (Ts i) (vals i) h' s.toks ⟨hi, rfl⟩ (tup i hi) ⟨⟨hi, rfl⟩, hit', st.2.1.extBut hs'.extBut hne, tup⟩ fun b o hb e => hs'.extBut b o (fun h => hb (by simp [h])) e
  go := fun _ _ _ _ _ s Q _ hm hQ => wpAny_letOwnedTupleGo_listiter hm.2.1 (hQ s.heap hm.2 fun _ _ _ e => e)
  apart := fun j T _ hm hmem => by
    rcases List.mem_cons.mp hmem with e | e
    · exact hTI j hm.1.1 (hm.1.2 ▸ e)
    · cases e
  done := fun s Q E st hQ => next_end hh st.1 st.2.1 (by simp) fun h' he' => hQ h' s.toks fun b o hb e => he' b o (fun h => hb (by simp [h])) e
  self := fun _ _ _ _ st hQ => wpAny_pyIter_listiter st.1 hQ
section
variable {prog : Program} {w : World} {A : Around} {E : Value → Shared → Prop} {s : Shared} {K : Frag} {x C : Addr} {ox : Obj} {od : Option Obj}
theorem iter_inst {Q : Value → Shared → Prop} (X : K.In s.heap) (I : InstAt s.heap x ox C od) (hm : mroIn K C (.type "list") = some true) (hs : findIn K (.ref C) "__iter__" = some (some (.builtin "list.__iter__")))
    (hQ : Q (.ref s.heap.objs.size) { s with heap := s.heap.push { cls := .type "list_iterator", data := .fields #[.ref x, .int 0 0] } }) : wpAny (model prog w) A (pyIter (.ref x)) Q E s := by
  have hcall : wpAny (model prog w) A (call (.builtin "list.__iter__") [.ref x]) (fun v s' => wpAny (model prog w) A (specialOf v "__next__" >>= fun r => match r with
      | none => (do rule "iter.non-iterator"; raiseError "TypeError" s!"iter() returned non-iterator of type '{← typeNameOf v}'")
      | some _ => pure v) Q E s') E s := by
    refine call_bi (n := "__iter__") X I hm (by first | exact .inl (by decide +kernel) | exact .inr (by decide +kernel)) (by decide +kernel) (by decide +kernel) entry_list_iter (args_list_iter _) ?_
    show wpAny _ _ (do ret (← newFields "list_iterator" [.ref x, rawInt 0])) _ _ s
    exact wpAny_bind (wpAny_newObj_type (wpAny_pure ⟨_, rfl, wpAny_bind (wpAny_specialOf (T := "list_iterator") ⟨_, Heap.get?_push_size _ rfl, rfl⟩ slot_listiter_next.lookup (wpAny_pure hQ))⟩))
  unfold pyIter specialOf
  refine wpAny_bind (wpAny_bind (I.type.here ((looks_findIn X hs).here ?_)))
  show wpAny _ _ (callSpecialIfBoundUnlessNone? _ _ _ >>= _) _ _ _
  refine wpAny_bind ?_
  simp only [callSpecialIfBoundUnlessNone?, bindSpecialIfBound?, specialOf]
  refine wpAny_holding (wpAny_bind (wpAny_bind (wpAny_bind (I.type.here ((looks_findIn X hs).here ?_)))))
  simp only [slot_list_iter.bind]
  have fin : ∀ (refuse : Sem Value), wpAny (model prog w) A (if (Value.builtin "list.__iter__" == Value.none) = true then (refuse >>= fun v => pure (some v)) else (call (.builtin "list.__iter__") [.ref x] >>= fun v => pure (some v))) (fun r s' => wpAny (model prog w) A (match r with
      | some it => (specialOf it "__next__" >>= fun r => match r with
        | none => (do rule "iter.non-iterator"; raiseError "TypeError" s!"iter() returned non-iterator of type '{← typeNameOf it}'")
        | some _ => pure it)
      | none => (do
        match ← bindSpecialIfBound? (.ref x) "__getitem__" with
        | none => rule "iter.not-iterable"; raiseError "TypeError" s!"'{← typeNameOf (.ref x)}' object is not iterable"
        | some _ => rule "iter.getitem-fallback"; newFields "iterator" [.ref x, ← mkInt 0])) Q E s') E s := fun refuse => by
    rw [if_neg (show ¬ ((Value.builtin "list.__iter__" == Value.none) = true) from by decide)]
    exact wpAny_bind (wpAny_mono hcall (fun v s' h' => wpAny_pure h') fun _ _ h' => h')
  refine wpAny_bind (wpAny_askSetting (wpAny_ite ?_))
  split
  · exact wpAny_bind (wpAny_pure (wpAny_pure (fin _)))
  · exact wpAny_tryCatch (wpAny_bind (wpAny_pure (wpAny_pure (fin _))))
end
end Mine
namespace Mine
section
variable {prog : Program} {w : World} {A : Around} {I : Addr} {fp wr : List Addr} {G : Array GenState → Array GenState → Prop} {n : Nat} {P : Nat → Value → Prop} {St : Nat → Shared → Prop}
def shP (P : Nat → Value → Prop) : Nat → Value → Prop
  | 0, _ => False
  | i + 1, v => P i v
def shS (St : Nat → Shared → Prop) : Nat → Shared → Prop
  | 0, _ => False
  | i + 1, s => St i s
def shV (st : Int) (val : Nat → Int) : Nat → Int
  | 0 => st
  | i + 1 => val i
theorem preSum_sh (st : Int) (val : Nat → Int) : ∀ j, preSum (shV st val) (j + 1) = st + preSum val j
  | 0 => by simp [preSum, shV]
  | j + 1 => by
    have := preSum_sh st val j
    rw [preSum, this]
    simp [preSum, shV]; (clear this; omega)
theorem walks_sh (W : WalksS prog w A I fp wr G n P St) : WalksS prog w A I fp wr G (n + 1) (shP P) (shS St) where
  sub := W.sub
  grefl := W.grefl
  gtrans := W.gtrans
  frame := fun i s h' tk st ht hk => by
    cases i with
    | zero => exact st.elim
    | succ i => exact W.frame i s h' tk st ht hk
  item := fun i s Q E hi st hQ => by
    cases i with
    | zero => exact st.elim
    | succ i => exact W.item i s Q E (Nat.lt_of_succ_lt_succ hi) st hQ
  done := fun s Q E st hQ => W.done s Q E st hQ
  self := fun i s Q E st hQ => by
    cases i with
    | zero => exact st.elim
    | succ i => exact W.self i s Q E st hQ
theorem walks_imp {P' : Nat → Value → Prop} (W : WalksS prog w A I fp wr G n P St) (h : ∀ j y, P j y → P' j y) : WalksS prog w A I fp wr G n P' St where
  sub := W.sub
  grefl := W.grefl
  gtrans := W.gtrans
  frame := W.frame
  item := fun i s Q E hi st hQ => W.item i s Q E hi st fun v s' hP => hQ v s' (h _ _ hP)
  done := W.done
  self := W.self
end
theorem args_sum2 (a b : Value) : argsOk "sum" ⟨[a, b], []⟩ := by unfold argsOk; kernel_rfl
def GenH (prog : Program) (w : World) (A : Around) (sz a : Nat) (n : Nat) (Fv : Nat → Value → Prop) (s : Shared) : Prop :=
  ∃ fp wr g St, WalksS prog w A.in4 a fp wr (GenOnlyQ g) n Fv St ∧ St 0 s ∧ (∀ i s', St i s' → s'.TypeIs (.ref a) "generator") ∧ a ∈ fp ∧ (∀ b ∈ fp, b < s.heap.objs.size) ∧ ∀ b ∈ wr, sz ≤ b
section
variable {prog : Program} {w : World} {A : Around} {E : Value → Shared → Prop} {s : Shared} {sz a n : Nat} {Fv : Nat → Value → Prop} {Q : Value → Shared → Prop}
theorem GenH.toks {tk : Nat} (X : GenH prog w A sz a n Fv s) (h : s.toks ≤ tk) : GenH prog w A sz a n Fv { s with toks := tk } := by
  obtain ⟨fp, wr, g, St, W, hst, hT, ha, hfp, hwr⟩ := X
  exact ⟨fp, wr, g, St, W, W.frame 0 s s.heap tk hst h (fun _ _ _ e => e), hT, ha, hfp, hwr⟩
theorem GenH.grow {tk : Nat} {h' : Heap} (X : GenH prog w A sz a n Fv s) (h : s.toks ≤ tk) (hz : s.heap.objs.size ≤ h'.objs.size) (hk : ∀ b o, s.heap.get? b = some o → h'.get? b = some o) : GenH prog w A sz a n Fv { s with heap := h', toks := tk } := by
  obtain ⟨fp, wr, g, St, W, hst, hT, ha, hfp, hwr⟩ := X
  exact ⟨fp, wr, g, St, W, W.frame 0 s h' tk hst h (fun b _ o e => hk b o e), hT, ha, fun b hb => Nat.lt_of_lt_of_le (hfp b hb) hz, hwr⟩
theorem sum_gen {st : Int} {t : Tok} (X : GenH prog w A sz a n Fv s) (G : AllBare s.gens) (val : Nat → Int) (hval : ∀ j v, Fv j v → ∃ t, v = .int (val j) t) (hst0 : InLong st) (hfit : ∀ j, j < n → InLong (val j) ∧ InLong (st + preSum val (j + 1)))
    (hQ : ∀ h' g' tk' t', AllBare g' → (∀ b o, b < sz → s.heap.get? b = some o → h'.get? b = some o) → Q (.int (st + preSum val n) t') { s with heap := h', gens := g', toks := tk' }) :
    wpAny (model prog w) A (call (.builtin "sum") [.ref a, .int st t]) Q E s := by
  obtain ⟨fp, wr, g, St, W4, hst, hT, ha, hfp, hwr⟩ := X
  have W := walks_sh W4.in4_1
  refine call_function_tree F.kind_sum F.plain_sum F.entry_sum (args_sum2 _ _) ?_
  unfold Builtin.«sum»
  simp only [List.length_cons, List.length_nil]
  rw [if_neg (by decide)]
  refine wpAny_bind (wpAny_of_eq (show Builtin.Builtins.bindParams "sum" ["start"] 0 ⟨[.int st t], []⟩ = pure [some (.int st t)] from rfl) ?_)
  dsimp only
  refine wpAny_bind (W4.in4_1.self 0 _ _ _ hst ?_)
  have hc : (decide (-(2 ^ 63) ≤ st) && decide (st < 2 ^ 63)) = true := by
    obtain ⟨f1, f2⟩ := hst0
    simp only [Bool.and_eq_true, decide_eq_true_eq]
    exact ⟨f1, f2⟩
  show wpAny _ _ (if (_ : Bool) = true then _ else _) _ _ _
  split
  · refine wpAny_bind (wpAny_rule (wpAny_bind (wpAny_mkInt ?_)))
    refine wpAny_bind (wpAny_pure ?_)
    simp only [List.forIn_cons, List.forIn_nil]
    refine wpAny_bind (wpAny_bind (wpAny_bind (wpAny_isInstance (T := "int") (b := false) (typeIs_int _ _ _) PySem.sub_int_str ?_)))
    simp only [Bool.false_eq_true, if_false]
    refine wpAny_pure (wpAny_bind (wpAny_bind (wpAny_isInstance (T := "int") (b := false) (typeIs_int _ _ _) PySem.sub_int_bytes ?_)))
    simp only [Bool.false_eq_true, if_false]
    refine wpAny_pure (wpAny_bind (wpAny_bind (wpAny_isInstance (T := "int") (b := false) (typeIs_int _ _ _) PySem.sub_int_bytearray ?_)))
    simp only [Bool.false_eq_true, if_false]
    refine wpAny_pure (wpAny_pure ?_)
    refine wpAny_bind (wpAny_newObj_type ?_)
    have hSf : s.heap.objs.size ∉ fp := fun hm => Nat.lt_irrefl _ (hfp _ hm)
    have e1 : preSum (shV st val) 1 = st := by simp [preSum, shV]
    refine wpAny_pure ⟨plainId_quiet F.plain_sum_loop _, codeAny_sum_loopS W (shV st val) (fun i v hP => ?_) (fun j hj => ?_) s.heap.objs.size hSf n 1 _ s.toks 0 (by (clear hSf e1; omega)) (by (clear hSf e1; omega))
      (W.frame 1 s _ _ hst (by first | exact Nat.le_refl _ | exact Nat.le_succ _ | omega) fun b _ o e => Heap.get?_push_of_some _ e) (by rw [e1]; exact Heap.get?_push_size _ rfl) fun s' t' hm => ?_⟩
    · cases i with
      | zero => exact hP.elim
      | succ i => exact hval i v hP
    · cases j with
      | zero => rw [e1]; exact ⟨hst0, hst0⟩
      | succ j => rw [preSum_sh]; exact hfit j (Nat.lt_of_succ_lt_succ hj)
    · have hm' := hm.drop_new (by first | exact Nat.le_refl _ | exact Nat.le_succ _ | omega)
      rw [preSum_sh]
      have gb := G.movedS hm'
      obtain ⟨h', g', d', tk', o'⟩ := s'
      have ed : d' = s.drawn := hm'.drawn
      have eo : o' = s.os := hm'.os
      subst ed; subst eo
      exact hQ h' g' tk' t' gb fun b o hb e => hm'.heap b o (fun hw => by have := hwr b hw; (clear hSf e1; omega)) e
  · rename_i hneg
    exact absurd hc hneg
end
end Mine
namespace Mine
/-- the table of a code with one generator expression: bare, or with it -/
def TabOk (pos : Pos) (ps : Array Value) : Prop := ps = #[] ∨ ∃ c' : Addr, ps = #[rawInt pos.line, rawInt pos.col, .ref c']
theorem TabOk.triples {pos : Pos} {ps : Array Value} (h : TabOk pos ps) : TriplesOk ps.toList := by
  rcases h with rfl | ⟨c', rfl⟩
  · trivial
  · simp [TriplesOk, rawInt]
theorem TabOk.cases {pos : Pos} {ps : Array Value} (h : TabOk pos ps) : (ps = #[] ∧ codeAmong pos ps.toList = none) ∨ ∃ c' : Addr, codeAmong pos ps.toList = some (.ref c') := by
  rcases h with rfl | ⟨c', rfl⟩
  · exact .inl ⟨rfl, rfl⟩
  · exact .inr ⟨c', by simp [codeAmong, rawInt]⟩
section
variable {prog : Program} {w : World} {A : Around} {E : Value → Shared → Prop} {s : Shared} {h₀ : Heap} {L : Addr} {m mg mb : Str → Option Value} {news : List (Addr × Obj)} {p : Program} {loose : List Str} {mean : ExcName → Option Value}
theorem genT {env : Env} {elt iter : PySem.Expr} {xa xb : Str} {pa pb pt : Pos} {kt : Nat} {scope : Scope} {cl : List (Str × Addr)} {pos : Pos} {Q : Value → Shared → Prop} {x c P : Addr} {ps items : Array Value} {Ts : Nat → Addr} {va vb : Nat → Value} {Fv : Nat → Value → Prop}
    (Fm : Fr h₀ L s.heap m) (N : News h₀ L s.heap ((P, tabObj ps) :: news)) (hnP : ∀ q ∈ news, q.1 ≠ P) (G : AllBare s.gens) (T : Top p loose mean mg mb h₀) (C : CodeHd h₀ c P) (ht : TabOk pos ps)
    (hev : ∀ Q' : Value → Shared → Prop, Q' (.ref x) s → wpAny (model prog w) A (eval iter env) Q' E s)
    (hit : ∀ Q' : Value → Shared → Prop, Q' (.ref s.heap.objs.size) { s with heap := s.heap.push { cls := .type "list_iterator", data := .fields #[.ref x, .int 0 0] } } → wpAny (model prog w) A (pyIter (.ref x)) Q' E s)
    (hx : SeqAt s.heap x items) (hxP : x ≠ P) (hat : ∀ j, j < items.size → items[j]? = some (.ref (Ts j))) (htup : ∀ j, j < items.size → s.heap.IsTuple (Ts j) #[va j, vb j])
    (helt : ∀ (c' C : Addr) (t : Shared) m₂ i E' (A' : Around), A'.handled = none → A'.depth ≤ A.depth + 1 → A'.units ≤ A.units + 8 → i < items.size → Fr h₀ C t.heap m₂ → m₂ xa = some (va i) → m₂ xb = some (vb i) →
      wpAny (model prog w) A' (eval elt (genEnv scope cl C (.ref c') builtinsNs env)) (fun y s₃ => Fv i y ∧ Keeps t s₃) E' t)
    (h : ∀ a h' g' tk' ps', Fr h₀ L h' m → News h₀ L h' ((P, tabObj ps') :: news) → TabOk pos ps' → AllBare g' → (∀ b o, b ≠ P → s.heap.get? b = some o → h'.get? b = some o) → s.heap.objs.size ≤ h'.objs.size →
      GenH prog w A s.heap.objs.size a items.size Fv { s with heap := h', gens := g', toks := tk' } → Q (.ref a) { s with heap := h', gens := g', toks := tk' })
    (hh : A.handled = none := by rfl) (hcode : env.code = .ref c := by rfl) (hglob : env.globals = mainGlobals := by rfl) (hco : scope.isCoroutine = false := by rfl) (hclos : closureFor scope env = pure cl := by rfl) (hcell : ∀ y ∈ scope.names, y.2 ≠ .cell := by decide)
    (h0 : scope.names.lookup (".0" : Str) = some NameKind.local := by rfl) (hxa : scope.names.lookup xa = some .local := by rfl) (hxb : scope.names.lookup xb = some .local := by rfl) (hab : xa ≠ xb := by decide) (hkind : scope.kind = .function := by rfl) (hroom : A.depth < recursionLimit)
    (hs : ∀ x, genFold iter env x = pure x := by intro _; rfl) :
    wpAny (model prog w) A (eval (.GeneratorExp elt [⟨.Tuple [.Name xa pa, .Name xb pb] kt pt, iter, [], 0⟩] scope pos) env) Q E s := by
  have hP := (N _ (.head _)).1
  have hPL : P ≠ L := (N _ (.head _)).2.1
  have hP0 : h₀.get? P = none := (N _ (.head _)).2.2
  have hPlt : P < s.heap.objs.size := Heap.lt_size hP
  have hzP : s.heap.objs.size ≠ P := Nat.ne_of_gt hPlt
  obtain ⟨bm, ob, hb1, hb2, hb3, hb4, hb5, hb6⟩ := T.bmain
  have k2 : ∀ b o, s.heap.get? b = some o → (s.heap.push { cls := .type "list_iterator", data := .fields #[.ref x, .int 0 0] }).get? b = some o := fun b o e => Heap.get?_push_of_some _ e
  have hcs : cStatics ≠ P := fun e => by
    obtain ⟨_, hns, _⟩ := T.nolimit
    obtain ⟨o, es, ep, ho, hd, _⟩ := hns
    rw [e, hP0] at ho; cases ho
  refine wpAny_GeneratorExp_walksQTD hh hco hclos hcell h0 hxa hxb hab hkind hroom (hev _ (hit _ ⟨(T.nolimit.keeps Fm.keep).push _, ?_⟩)) hs
  have main : ∀ (c' : Addr) (h₃ : Heap) (tk₃ : Nat) (ps' : Array Value), Heap.ExtBut P (s.heap.push { cls := .type "list_iterator", data := .fields #[.ref x, .int 0 0] }) h₃ → (s.heap.push { cls := .type "list_iterator", data := .fields #[.ref x, .int 0 0] }).objs.size ≤ h₃.objs.size →
      h₃.get? P = some (tabObj ps') → TabOk pos ps' → wpAny (model prog w) A (builtinsFor env.globals env.builtins) (fun bi s₄ =>
        ∃ I fp wr n₀ Pt St₀ Mid pz F, Value.ref s.heap.objs.size = .ref I ∧ (∀ A' : Around, A'.handled = none → WalksU prog w A' I fp wr n₀ Pt St₀ Mid) ∧ (∀ i vals, Pt i vals → ∃ va vb, vals = #[va, vb]) ∧ St₀ 0 s₄.heap ∧ (∀ b ∈ fp, b < s₄.heap.objs.size) ∧ s₄.heap.NoLimit ∧ cStatics ∉ wr ∧
          (∀ href : Heap, (∀ b o, s₄.heap.get? b = some o → href.get? b = some o) →
            QuietGenTD prog w (genEnv scope cl s₄.heap.objs.size (.ref c') bi env) xa xb [] elt (List.range s₄.heap.objs.size) wr Pt pz F href (A.depth + 1) (A.units + 8)) ∧
          (∀ a h₅ tk gs, gs.bare = true → s₄.heap.objs.size < a → h₅.objs.size = a + 1 → (∀ b o, s₄.heap.get? b = some o → h₅.get? b = some o) →
            WalksS prog w A.in4 a (a :: s₄.heap.objs.size :: List.range s₄.heap.objs.size) (s₄.heap.objs.size :: wr) (GenOnlyQ s₄.gens.size) (passing pz n₀ 0).length
              (fun j y => ∃ i, (passing pz n₀ 0)[j]? = some i ∧ F i y) (GenAt prog w A.in4 a s₄.gens.size s₄.heap.objs.size (List.range s₄.heap.objs.size) wr pz n₀ F) →
            GenAt prog w A.in4 a s₄.gens.size s₄.heap.objs.size (List.range s₄.heap.objs.size) wr pz n₀ F 0 { s₄ with gens := s₄.gens.push gs, toks := tk, heap := h₅ } →
            Q (.ref a) { s₄ with gens := s₄.gens.push gs, toks := tk, heap := h₅ })) E { s with heap := h₃, toks := tk₃ } := by
    intro c' h₃ tk₃ ps' hx₃ hz₃ hP₃ ht₃
    rw [Heap.size_push] at hz₃
    have k3 : ∀ b o, b ≠ P → s.heap.get? b = some o → h₃.get? b = some o := fun b o hb e => hx₃ b o hb (k2 b o e)
    have k0 : ∀ b o, h₀.get? b = some o → h₃.get? b = some o := fun b o e => k3 b o (fun q => by rw [q, hP0] at e; cases e) (Fm.keep b o e)
    rw [hglob]
    refine wpAny_builtinsFor (T.g.keeps k0) hb1 hb2 (k0 _ _ hb3) hb4 hb5 hb6 ?_
    have hlx : x < s.heap.objs.size := hx.lt
    have hTP : ∀ j, j < items.size → Ts j ≠ P := fun j hj e => by
      obtain ⟨o, ho, hc, _⟩ := htup j hj
      rw [e, hP] at ho; cases ho; cases hc
    have hTlt : ∀ j, j < items.size → Ts j < s.heap.objs.size := fun j hj => by obtain ⟨o, ho, _⟩ := htup j hj; exact Heap.lt_size ho
    refine ⟨s.heap.objs.size, _, _, _, _, _, _, fun _ => true, Fv, rfl, fun A' hA => seqTuples hA s.heap.objs.size x (Nat.ne_of_lt hlx) items Ts (fun j => #[va j, vb j]) hat fun j hj => Nat.ne_of_lt (hTlt j hj), fun i vals hv => ⟨_, _, hv.2⟩, ?_, ?_, ?_, ?_, ?_, ?_⟩
    · exact ⟨⟨_, hx₃ _ _ hzP (Heap.get?_push_size _ rfl), rfl, rfl⟩, hx.keeps fun o e => k3 x o hxP e, fun k hk => (htup k hk).at fun o e => k3 _ o (hTP k hk) e⟩
    · intro b hb
      show b < h₃.objs.size
      rcases List.mem_cons.mp hb with rfl | hb
      · exact hz₃
      · rcases List.mem_cons.mp hb with rfl | hb
        · exact Nat.lt_trans hlx hz₃
        · obtain ⟨j, hj, rfl⟩ := List.mem_map.mp hb
          exact Nat.lt_trans (hTlt j (List.mem_range.mp hj)) hz₃
    · exact T.nolimit.keeps k0
    · intro hm
      obtain ⟨_, hns, _⟩ := T.nolimit
      have h1 : cStatics < h₀.objs.size := hns.lt
      have h2 := Nat.lt_of_lt_of_le h1 Fm.above
      have h3 := Fm.ns.lt
      rw [List.mem_singleton.mp hm] at h2
      exact Nat.lt_irrefl _ (Nat.lt_trans h2 h3)
    · intro href hhref
      have inB : ∀ (t : Shared) m₂, t.heap.Ns h₃.objs.size m₂ → (∀ b ∈ List.range h₃.objs.size, b ∉ [s.heap.objs.size] → ∀ o, href.get? b = some o → t.heap.get? b = some o) → Fr h₀ h₃.objs.size t.heap m₂ := fun t m₂ hn hkp =>
        ⟨hn, fun b o e => hkp b (List.mem_range.mpr (Heap.lt_size (k0 b o e))) (fun hm => by
          have h2 := Nat.lt_of_lt_of_le (Heap.lt_size e) Fm.above
          have h3 := Fm.ns.lt
          rw [List.mem_singleton.mp hm] at h2
          exact Nat.lt_irrefl _ (Nat.lt_trans h2 h3)) o (hhref b o (k0 b o e)), Nat.le_of_lt (Nat.lt_trans (Nat.lt_of_le_of_lt Fm.above Fm.ns.lt) hz₃)⟩
      refine ⟨fun A' E' i u v t m₂ hA hD hU hPt hn hma hmb hkp => ?_, fun A' E' i u v t m₂ hA hD hU hPt _ hn hma hmb hkp => ?_⟩
      · simp only [List.forIn_nil]
        exact wpAny_pure ⟨rfl, t.heap, t.toks, rfl, fun _ _ e => e⟩
      · obtain ⟨hi, e⟩ := hPt
        have e1 : u = va i ∧ v = vb i := by simpa using congrArg Array.toList e
        obtain ⟨rfl, rfl⟩ := e1
        exact helt c' h₃.objs.size t m₂ i E' A' hA hD hU hi (inB t m₂ hn hkp) hma hmb
    · intro a h₅ tk gs hgb hag hsz₅ hk₅ W hat
      have k5 : ∀ b o, b ≠ P → s.heap.get? b = some o → h₅.get? b = some o := fun b o hb e => hk₅ b o (k3 b o hb e)
      have hpass : passing (fun _ => true) items.size 0 = List.range items.size := by unfold passing; simp
      rw [hpass] at W
      have hl : (List.range items.size).length = items.size := List.length_range
      rw [hl] at W
      refine h a h₅ _ tk ps' ⟨Fm.ns.at fun o e => k5 L o hPL.symm e, fun b o e => hk₅ b o (k0 b o e), Fm.above⟩ (fun q hq => ?_) ht₃ (G.push hgb) k5 (by rw [hsz₅]; exact Nat.le_of_lt (Nat.lt_succ_of_lt (Nat.lt_trans hz₃ hag))) ?_
      · rcases List.mem_cons.mp hq with rfl | hq
        · exact ⟨hk₅ _ _ hP₃, hPL, hP0⟩
        · have z := N q (.tail _ hq)
          exact ⟨k5 _ _ (hnP q hq) z.1, z.2⟩
      · refine ⟨_, _, _, _, walks_imp W (fun j y hy => ?_), hat, (fun i s' st => st.1.typeIs), List.mem_cons_self, ?_, ?_⟩
        · obtain ⟨i, hi, hF⟩ := hy
          rw [List.getElem?_eq_some_iff] at hi
          obtain ⟨hj, e⟩ := hi
          rw [List.getElem_range] at e
          rw [e]; exact hF
        · intro b hb
          show b < h₅.objs.size
          rw [hsz₅]
          rcases List.mem_cons.mp hb with rfl | hb
          · exact Nat.lt_succ_self _
          · rcases List.mem_cons.mp hb with rfl | hb
            · exact Nat.lt_succ_of_lt hag
            · exact Nat.lt_succ_of_lt (Nat.lt_trans (List.mem_range.mp hb) hag)
        · intro b hb
          rcases List.mem_cons.mp hb with rfl | hb
          · exact Nat.le_of_lt hz₃
          · rw [List.mem_singleton.mp hb]; exact Nat.le_refl _
  have C2 : CodeHd (s.heap.push { cls := .type "list_iterator", data := .fields #[.ref x, .int 0 0] }) c P := C.keeps fun b o e => k2 b o (Fm.keep b o e)
  rcases ht.cases with ⟨rfl, hn⟩ | ⟨c', hf⟩
  · refine wpAny_genexprCodeX hcode (C2.code (k2 _ _ hP) ht.triples) (C2.tab (k2 _ _ hP)) hn fun c' h' tk hx₃ hge hlt _ _ htab _ => ?_
    exact main c' h' tk _ hx₃ (Nat.le_trans hge (Nat.le_of_lt hlt)) htab.2 (.inr ⟨c', by simp⟩)
  · refine wpAny_genexprCode_hit hcode (C2.code (k2 _ _ hP) ht.triples) hf ?_
    exact main c' _ s.toks ps (fun _ _ _ e => e) (Nat.le_refl _) (k2 _ _ hP) ht
end
section
variable {M : Model} {A : Around} {E : Value → Shared → Prop} {s : Shared} {h₀ : Heap} {C : Addr} {m mg mb : Str → Option Value} {p : Program} {loose : List Str} {K : Frag} {x : Str} {pos : Pos} {v code : Value} {scope : Scope} {cl : List (Str × Addr)} {env : Env} {Q : Value → Shared → Prop}
theorem genB (F : Fr h₀ C s.heap m) (X : K.In h₀) (T : TopRead p loose mg mb h₀) (e : nsIn K mainGlobals x = some none) (hv : bootBuiltins x = some v) (hn : x ≠ "__name__") (h : Q v s)
    (hg : env.globals = mainGlobals := by rfl) (hk : scope.kind = .function := by rfl) (hx : (genEnv scope cl C code builtinsNs env).kindOf x = some .globalImplicit := by rfl) (hd : (x == ("__debug__" : Str)) = false := by decide) :
    wpAny M A (eval (.Name x pos) (genEnv scope cl C code builtinsNs env)) Q E s :=
  Name_function_global hk hx (loadGlobal_builtin (env := genEnv scope cl C code builtinsNs env) (show s.heap.Ns env.globals mg from hg ▸ T.g.keeps F.keep) (mg_none_of X T.g e) (T.b.keeps F.keep) ((T.builtins x hn).trans hv) h) hd
theorem genK (F : Fr h₀ C s.heap m) (X : K.In h₀) (T : TopRead p loose mg mb h₀) (e : nsIn K mainGlobals x = some (some v)) (h : Q v s)
    (hg : env.globals = mainGlobals := by rfl) (hk : scope.kind = .function := by rfl) (hx : (genEnv scope cl C code builtinsNs env).kindOf x = some .globalImplicit := by rfl) (hd : (x == ("__debug__" : Str)) = false := by decide) :
    wpAny M A (eval (.Name x pos) (genEnv scope cl C code builtinsNs env)) Q E s :=
  Name_function_global hk hx (loadGlobal_global (env := genEnv scope cl C code builtinsNs env) (show s.heap.Ns env.globals mg from hg ▸ T.g.keeps F.keep) (mg_of X T.g e) h) hd
end
section
variable {prog : Program} {w : World} {A : Around} {E : Value → Shared → Prop} {s : Shared} {sz a n : Nat} {Fv : Nat → Value → Prop} {Q : Value → Shared → Prop}
theorem join_gen {sep : Str} {t : Tok} (X : GenH prog w A sz a n Fv s) (G : AllBare s.gens) (tx : Nat → Str) (htx : ∀ j v, Fv j v → ∃ u, v = .str (tx j) u) (hok : JoinOk sep ((List.range n).map tx) = true)
    (hQ : ∀ h' g' tk' t', AllBare g' → (∀ b o, b < sz → s.heap.get? b = some o → h'.get? b = some o) → Q (.str (Txt.join sep ((List.range n).map tx)) t') { s with heap := h', gens := g', toks := tk' })
    (hsz : n ≤ 1000000) : wpAny (model prog w) A (call (.builtin "str.join") [.str sep t, .ref a]) Q E s := by
  obtain ⟨fp, wr, g, St, W4, hst, hT, ha, hfp, hwr⟩ := X
  refine SC.joinGen W4.in4_2 hT hst hfp ha (fun j v hv => let ⟨u, e⟩ := htx j v hv; ⟨_, u, e⟩) (fun s' lt hm hacc => ?_) (by rw [sizeLine_eq]; omega)
  have hl : lt.map (·.1) = (List.range n).map tx := by
    have hsz : lt.length = n := by simpa [strValues] using hacc.1
    apply List.ext_getElem?
    intro j
    by_cases hj : j < n
    · have hj' : j < lt.length := hsz ▸ hj
      obtain ⟨u, hv⟩ := htx j _ (hacc.2 j (.str lt[j].1 lt[j].2) (by simp [strValues, List.getElem?_eq_getElem hj']))
      injection hv with h1 _
      simp [List.getElem?_eq_getElem hj', hj, h1]
    · rw [List.getElem?_eq_none (by simpa [hsz] using Nat.le_of_not_lt hj), List.getElem?_eq_none (by simpa using Nat.le_of_not_lt hj)]
  rw [hl]
  have gb := G.movedS hm
  refine ⟨hok, fun t' k => ?_⟩
  obtain ⟨h', g', d', tk', o'⟩ := s'
  have ed : d' = s.drawn := hm.drawn
  have eo : o' = s.os := hm.os
  subst ed; subst eo
  exact hQ h' g' k t' gb fun b o hb e => hm.heap b o (fun hw => by have := hwr b hw; (clear hsz; omega)) e
end
end Mine
namespace Mine
/-- a class just below list -/
def listOver (K : Frag) (C : Addr) : Bool := (clsIn K C).any fun cd => cd.mro == [.ref C, .type "list", .type "object"]
theorem list_passes (self : Value) : refuseLoop self "__setattr__" [.type "list", .type "object"] = pure () := by kernel_rfl
section
variable {prog : Program} {w : World} {A : Around} {E : Value → Shared → Prop} {s : Shared} {K : Frag} {x C dx L : Addr} {h₀ : Heap} {m : Str → Option Value} {news news' : List (Addr × Obj)} {ox : Obj} {es es' : List DictEntry} {n n' : Nat} {name : Str} {v : Value}
theorem setL {Q : Unit → Shared → Prop} (F : Fr h₀ L s.heap m) (X₀ : K.In h₀) (N : News h₀ L s.heap news) (I : InstAt s.heap x ox C (some (dictOf es n))) (hd : ox.dict = some dx)
    (hs : findIn K (.ref C) "__setattr__" = some (some (.builtin "object.__setattr__"))) (hp : listOver K C = true) (ht : takerIn K C name = some none) (hh : hasDictIn K C = true) (hl : (getL name es).isSome = true)
    (e : (putL name (PyData.keyHash w.params name) (.str name (s.toks + 1)) v es, putN name es n) = (es', n')) (U : Upd dx (dictOf es n) (dictOf es' n') news news') (hz : es'.length ≤ 1000)
    (h : ∀ h', Fr h₀ L h' m → News h₀ L h' news' → Q () { s with heap := h', toks := s.toks + 2 }) :
    wpAny (model prog w) A (setAttr (.ref x) name v) Q E s := by
  obtain ⟨pre, post, rfl, rfl, n1, n2⟩ := U.split
  obtain ⟨sh, sg, sd, st, so⟩ := s
  dsimp only at F N I e h
  obtain ⟨e1, e2⟩ := Prod.mk.inj e
  have X := X₀.keeps F.keep
  have SF := PySem.F.store_object
  obtain ⟨cd, hc, hd'⟩ := any_some hh
  have hmro : cd.mro = [.ref C, .type "list", .type "object"] := by
    unfold listOver at hp
    rw [hc] at hp
    exact beq_iff_eq.mp hp
  have sub : Looks (model prog w) sh (isInstance (.ref x) (.type "object")) true := I.type.andThen (looks_mroIn X (by unfold mroIn; rw [hc, Option.bind_some, hmro]; rfl))
  have hm : Looks (model prog w) sh (mroOf (.ref C)) [.ref C, .type "list", .type "object"] := hmro ▸ (looks_clsIn X hc).andThen .now
  obtain ⟨attr, ha, hr⟩ := Option.bind_eq_some_iff.mp ht
  have L3 : Looks (model prog w) sh (Builtin.ObjectAttr.storeTaker? attr) none := by
    cases attr with
    | none => cases hr; exact .now
    | some a =>
      obtain ⟨b, hb, q⟩ := Option.map_eq_some_iff.mp hr
      refine (looks_takesIn X hb).andThen ?_
      cases b with
      | true => cases q
      | false => exact .now
  have e' : Obj.putName name (PyData.keyHash w.params name) (.str name (st + 1)) v (dictOf es n) = dictOf es' n' := by rw [putName_dict, e1, e2]
  obtain ⟨U1, U2⟩ := news_upd (f := Obj.putName name (PyData.keyHash w.params name) (.str name (st + 1)) v) F N n1 n2 e' rfl
  have D := (N (dx, dictOf es n) (by simp)).1
  have D' := (U2 (dx, dictOf es' n') (by simp)).1
  obtain ⟨hx, hcl, hn, -⟩ := id I
  obtain ⟨oc, odi, oda, osl⟩ := ox
  dsimp only at hcl hd
  subst hcl hd
  refine set_plain X I hs (codeAny_call_builtin SF.slot.plain SF.entry (@check_slot (model prog w) _ _ _ "object.__setattr__" "object" "__setattr__" (.ref x) [.str name st, v] [] _ SF.kind SF.split sub (SF.args (.ref x) (.str name st) v) ?_))
  rw [osa_eq, refuse_eq]
  refine wpAny_bind (wpAny_bind (I.type.here (wpAny_bind (hm.here ?_))))
  rw [refuseLoop_ref, list_passes]
  refine wpAny_pure (wpAny_bind (I.type.here (wpAny_bind ((looks_findIn X ha).here (wpAny_bind (L3.here ?_))))))
  show wpAny _ _ (Builtin.ObjectAttr.storeInOwnDict (.ref x) (.ref C) (.str name st) name v _) _ _ _
  refine wpAny_bind (wpAny_pure (wpAny_bind (wpAny_bind (wpAny_loadPart hx (wpAny_bind ((looks_clsIn X hc).here ?_))))))
  rw [hd']
  refine wpAny_pure (a := some dx) (wpAny_bind (wpAny_pure (wpAny_bind ?_)))
  unfold nsSet
  refine wpAny_bind (wpAny_bind (wpAny_askSetting (wpAny_pure (wpAny_bind (wpAny_mkText (wpAny_bind (wpAny_loadPart D ?_)))))))
  have c : (!es.toArray.any (·.key.isStr name) && es.toArray.any (·.refKey)) = false := by
    rw [← Array.any_toList, ← Array.any_toList]
    unfold getL at hl
    split at hl
    · rename_i en he
      rw [List.any_eq_true.mpr ⟨en, List.mem_of_find?_eq_some he, List.find?_some he⟩]; rfl
    · split at hl
      · cases hl
      · rename_i z; rw [Bool.not_eq_true] at z; rw [z, Bool.and_false]
  dsimp only
  rw [aRefKeyMayBeTheName_at, c]
  refine wpAny_updatePart D ?_
  refine wpAny_bind (wpAny_lookBehind D' (pastItsLine_dict (by rw [List.size_toArray, sizeLine_eq]; (clear e2; omega))) ?_)
  exact wpAny_pure (h _ U1 U2)
end
end Mine
namespace Mine
theorem ty_append : typeOf (.builtin "list.append") = pure (.type "method_descriptor") := by show builtinType _ = _; rw [builtinType_eq_fast]; kernel_rfl
section
variable {prog : Program} {w : World} {M : Model} {A : Around} {E : Value → Shared → Prop} {s : Shared} {K : Frag} {x C L : Addr} {ox : Obj} {od : Option Obj} {h₀ : Heap} {m : Str → Option Value} {news news' : List (Addr × Obj)} {name : Str} {pl : Sem Bool}
theorem method_go {f : Value} {T : String} {Q : Value × List Value → Shared → Prop} (X : K.In s.heap) (I : InstAt s.heap x ox C od) (hga : findIn K (.ref C) "__getattribute__" = some (some (.builtin "list.__getattribute__"))) (hk : findIn K (.ref C) "__getattr__" = some none)
    (hf : findIn K (.ref C) name = some (some f)) (hT : Looks M s.heap (typeOf f) (.type T)) (hT2 : T = "function" ∨ T = "method_descriptor") (hs : shadowIn od name = some false) (h : Q (f, [.ref x]) s) :
    wpAny M A (getMethod (.ref x) name pl) Q E s := by
  have hcan : (Manifest.canonical "list.__getattribute__" != "object.__getattribute__") = false := by decide +kernel
  unfold getMethod specialOf
  refine wpAny_bind (wpAny_bind (I.type.here ((looks_findIn X hga).here ?_)))
  dsimp only
  rw [hcan, if_neg (by decide)]
  refine wpAny_bind (wpAny_bind (I.type.here ((looks_findIn X hk).here ?_)))
  refine wpAny_bind (wpAny_bind (I.type.here ((looks_findIn X hf).here (wpAny_bind (hT.here ?_)))))
  rw [if_neg (by rcases hT2 with rfl | rfl <;> decide +kernel)]
  refine wpAny_bind (wpAny_loadPart I.at_ ?_)
  have hd := I.dict
  cases e : ox.dict with
  | none => exact wpAny_bind (wpAny_rule (wpAny_pure h))
  | some dx =>
    cases od with
    | none => rw [e] at hd; exact hd.elim
    | some o =>
      rw [e] at hd
      obtain ⟨r, a, b⟩ := Option.map_eq_some_iff.mp hs
      refine wpAny_bind (wpAny_bind (wpAny_loadPart hd ?_))
      rw [nsLook_of a]
      refine wpAny_pure ?_
      rw [b]
      exact wpAny_bind (wpAny_rule (wpAny_pure h))
theorem method_bi {id : String} {Q : Value × List Value → Shared → Prop} (X : K.In s.heap) (I : InstAt s.heap x ox C od) (hga : findIn K (.ref C) "__getattribute__" = some (some (.builtin "list.__getattribute__"))) (hk : findIn K (.ref C) "__getattr__" = some none)
    (hf : findIn K (.ref C) name = some (some (.builtin id))) (hT : typeOf (.builtin id) = pure (.type "method_descriptor")) (hs : shadowIn od name = some false) (h : Q (.builtin id, [.ref x]) s) :
    wpAny M A (getMethod (.ref x) name pl) Q E s := method_go X I hga hk hf (Looks.of_pure hT) (.inr rfl) hs h
theorem method_fnL {f : Addr} {Q : Value × List Value → Shared → Prop} (X : K.In s.heap) (I : InstAt s.heap x ox C od) (hga : findIn K (.ref C) "__getattribute__" = some (some (.builtin "list.__getattribute__"))) (hk : findIn K (.ref C) "__getattr__" = some none)
    (hf : findIn K (.ref C) name = some (some (.ref f))) (ht : typeIn K (.ref f) = some (.type "function")) (hs : shadowIn od name = some false) (h : Q (.ref f, [.ref x]) s) :
    wpAny M A (getMethod (.ref x) name pl) Q E s := method_go X I hga hk hf (looks_typeIn X ht) (.inl rfl) hs h
theorem get_valueL {expr : Bool} {v : Value} {Q : Value → Shared → Prop} (X : K.In s.heap) (I : InstAt s.heap x ox C od) (hga : findIn K (.ref C) "__getattribute__" = some (some (.builtin "list.__getattribute__"))) (hk : findIn K (.ref C) "__getattr__" = some none) (hm : mroIn K C (.type "list") = some true)
    (hf : findObj K C od name = some (.value v)) (hh : handedIn v = true) (h : Q v { s with toks := s.toks + 1 }) : wpAny (model prog w) A (getAttr (.ref x) name expr) Q E s := by
  obtain ⟨sh, sg, sd, st, so⟩ := s
  have L0 := I.type (M := model prog w)
  have L1 := looks_findIn (M := model prog w) X hga
  have L2 := looks_findIn (M := model prog w) X hk
  unfold getAttr getAttrBy
  refine wpAny_bind (wpAny_mkText (wpAny_holding (wpAny_bind (L0.at (wpAny_bind (L1.at ?_))))))
  show wpAny _ _ (getAttrByItsOwn (.ref x) (.str name st) (.ref C) (.builtin "list.__getattribute__") true expr) _ _ _
  unfold getAttrByItsOwn hookBefore callGetattribute boundAndCalled
  rw [if_pos (show onTheHeap (.ref C) = true from rfl)]
  refine wpAny_bind (L2.at ?_)
  rw [if_neg (show ¬ (expr && onTheHeap (.builtin "list.__getattribute__")) = true by cases expr <;> decide)]
  refine wpAny_bind (wpAny_attempt (wpAny_holding ?_))
  refine wpAny_bind (wpAny_of_eq (F.slot_list_getattribute.bind _) ?_)
  refine call_bi (n := "__getattribute__") (s := ⟨sh, sg, sd, st + 1, so⟩) X I hm (by first | exact .inl (by decide +kernel) | exact .inr (by decide +kernel)) (by decide +kernel) (by decide +kernel) F.entry_list_ga (F.args_list_getattribute_2 _ _) ?_
  unfold Builtin.«object.__getattribute__»
  refine wpAny_bind (wpAny_of_eq (a := (.ref x, [.str name st])) (by first | rfl | kernel_rfl) ?_)
  dsimp only
  refine wpAny_bind (wpAny_of_eq (a := name) (by first | rfl | kernel_rfl) ?_)
  refine wpAny_bind (L0.at (wpAny_bind ((looks_find (M := model prog w) X I hf).at ?_)))
  refine wpAny_pure ⟨_, rfl, ?_⟩
  show wpAny _ _ (handedOut v) _ _ _
  rw [handedOut_of hh]; exact wpAny_pure h
theorem get_ownL {expr : Bool} {v : Value} {Q : Value → Shared → Prop} {attr : Option Value} {es : List DictEntry} {n : Nat} (F : Fr h₀ L s.heap m) (X₀ : K.In h₀) (I : InstAt s.heap x ox C (some (dictOf es n))) (hga : findIn K (.ref C) "__getattribute__" = some (some (.builtin "list.__getattribute__"))) (hk : findIn K (.ref C) "__getattr__" = some none) (hm : mroIn K C (.type "list") = some true)
    (hh : hasDictIn K C = true) (ha : findIn K (.ref C) name = some attr) (hn : noGet K attr = true) (hl : getL name es = some (some v)) (hv : handedIn v = true) (h : Q v { s with toks := s.toks + 1 }) :
    wpAny (model prog w) A (getAttr (.ref x) name expr) Q E s :=
  get_valueL (X₀.keeps F.keep) I hga hk hm (findObj_own hh ha hn hl) hv h
theorem seq_upd {c : Addr} {o o' : Obj} {xs : Array Value} {n : Nat} {f : Array Value → Array Value} {Q : Unit → Shared → Prop} (F : Fr h₀ L s.heap m) (N : News h₀ L s.heap news) (U : Upd c o o' news news') (hd : o.data = .seq xs n) (e : Obj.mapSeq f o = o') (h1 : xs.size ≤ 1000000) (h2 : (f xs).size ≤ 1000001)
    (h : ∀ h', Fr h₀ L h' m → News h₀ L h' news' → Q () { s with heap := h' }) : wpAny M A (updateSeq c f) Q E s := by
  obtain ⟨pre, post, rfl, rfl, n1, n2⟩ := U.split
  have hf : o'.isFreed = false := by
    obtain ⟨_, _, dd, _⟩ := o
    cases hd; subst e; rfl
  obtain ⟨U1, U2⟩ := news_upd (f := Obj.mapSeq f) F N n1 n2 e hf
  exact wpAny_updateSeq (N (c, o) (by simp)).1 hd (h _ U1 U2) (by rw [sizeLine_eq]; (clear h2; omega)) (by rw [sizeLine_eq]; (clear h1; omega))
theorem append_bi {c : Addr} {o o' : Obj} {vs : List Value} {n : Nat} {v : Value} {Q : Value → Shared → Prop} (F : Fr h₀ L s.heap m) (X₀ : K.In h₀) (N : News h₀ L s.heap news) (I : InstAt s.heap c o C od) (hm : mroIn K C (.type "list") = some true)
    (hd : o.data = .seq vs.toArray n) (e : Obj.mapSeq (·.push v) o = o') (U : Upd c o o' news news') (hz : vs.length < 1000000) (h : ∀ h', Fr h₀ L h' m → News h₀ L h' news' → Q .none { s with heap := h' }) :
    wpAny (model prog w) A (call (.builtin "list.append") [.ref c, v]) Q E s := by
  refine call_bi (n := "append") (X₀.keeps F.keep) I hm (.inl (by decide +kernel)) (by decide +kernel) (by decide +kernel) entry_list_append (args_list_append _ _) ?_
  unfold Builtin.«list.append»
  refine wpAny_bind (wpAny_of_eq (a := (.ref c, v)) (by first | rfl | kernel_rfl) ?_)
  dsimp only
  refine wpAny_bind ?_
  show wpAny _ _ (updateSeq c _) _ _ s
  exact seq_upd F N U hd e (by simp; omega) (by simp; omega) fun h' F' N' => wpAny_pure ⟨_, rfl, h h' F' N'⟩
theorem pop_sig : ∃ sig, Manifest.signature? "list.pop" = some sig ∧ ∀ (nm : String) (x : Addr), (nm != "*") = true → Bind.checkArgs "list.pop" { sig with full := nm } ⟨[.ref x], []⟩ = pure () :=
  ⟨(Manifest.signature? "list.pop").get (by decide +kernel), by simp, fun nm x h => by
    unfold Bind.checkArgs Bind.printed
    simp only [h, if_true]
    kernel_rfl⟩
theorem dotted (p q : String) : (toString p ++ toString "." ++ toString q != "*") = true := by
  rw [bne_iff_ne]
  intro h
  have h2 := congrArg String.toList h
  have h3 : '.' ∈ (toString p ++ toString "." ++ toString q).toList := by simp [toString]
  rw [h2] at h3
  simp at h3
theorem check_lpop {c : Addr} {o : Obj} {Q : Unit → Shared → Prop} (X : K.In s.heap) (I : InstAt s.heap c o C od) (hm : mroIn K C (.type "module") = some false) (ht : typeIn K (.ref C) = some (.type "type")) (hnc : ∀ k, o.data ≠ .cls k) (h : Q () s) :
    wpAny M A (checkBoundCall "list.pop" ⟨[.ref c], []⟩) Q E s := by
  unfold checkBoundCall
  obtain ⟨sig, hs, pop_args⟩ := pop_sig
  have hI : Looks M s.heap (isInstance (.ref c) (.type "module")) false := I.type.andThen (looks_mroIn X hm)
  have hk : builtinKind "list.pop" = some .method := by decide +kernel
  have hv : Manifest.varargsMethods.contains "list.pop" = false := by decide +kernel
  rw [hs, hk]
  dsimp only
  rw [if_neg (by decide)]
  refine wpAny_bind (hI.here ?_)
  rw [hv, if_neg (by decide)]
  obtain ⟨sh, sg, sd, st, so⟩ := s
  refine wpAny_bind (ks_wpAny_isType_inst I.at_ hnc ?_)
  rw [if_neg (by decide)]
  refine wpAny_bind (I.type.here ?_)
  cases hc : clsIn K C with
  | none => unfold mroIn at hm; rw [hc] at hm; cases hm
  | some cd =>
    refine wpAny_bind ((looks_clsIn X hc).here ?_)
    refine wpAny_bind ((looks_typeIn X ht).here ?_)
    rw [if_pos (by decide)]
    rw [pop_args _ _ (dotted _ _)]
    exact wpAny_pure h
theorem last_pop (vs : List Value) (v : Value) : ((vs ++ [v]).toArray.eraseIdxIfInBounds vs.length) = vs.toArray := by
  apply Array.toList_inj.mp
  simp [Array.eraseIdxIfInBounds, List.eraseIdx_append_of_length_le]
theorem pop_bnd {c q : Addr} {o o' : Obj} {vs : List Value} {n : Nat} {v : Value} {Q : Value → Shared → Prop} (F : Fr h₀ L s.heap m) (X₀ : K.In h₀) (N : News h₀ L s.heap news) (hq : s.heap.get? q = some (bnd "builtin_function_or_method" "list.pop" c)) (I : InstAt s.heap c o C od)
    (hm : mroIn K C (.type "module") = some false) (ht : typeIn K (.ref C) = some (.type "type"))
    (hd : o.data = .seq (vs ++ [v]).toArray n) (e : Obj.mapSeq (fun _ => vs.toArray) o = o') (U : Upd c o o' news news') (hz : vs.length < 1000000) (h : ∀ h', Fr h₀ L h' m → News h₀ L h' news' → Q v { s with heap := h' }) :
    wpAny (model prog w) A (call (.ref q) []) Q E s := by
  refine bnd_call (B := Builtin.«list.pop») hq (by decide) (by decide) (fun h => check_lpop (X₀.keeps F.keep) I hm ht (fun k q => by rw [hd] at q; cases q) h) (entryFor_of_tree (by kernel_rfl)) quiet_lpop fun A' => ?_
  unfold Builtin.«list.pop»
  refine wpAny_bind (wpAny_of_eq (a := (.ref c, [])) (by first | rfl | kernel_rfl) ?_)
  dsimp only
  refine wpAny_bind (wpAny_pure ?_)
  rw [if_neg (by decide)]
  refine wpAny_bind (items_at I.at_ hd ?_)
  rw [if_neg (by simp)]
  have ei : ((seqIndex? (-1) (vs ++ [v]).toArray.size).bind fun k => (vs ++ [v]).toArray[k]?.map (k, ·)) = some (vs.length, v) := by
    have e1 : seqIndex? (-1) (vs ++ [v]).toArray.size = some vs.length := by
      unfold seqIndex?
      simp
      try omega
    rw [e1]
    simp
  rw [ei]
  dsimp only
  refine wpAny_bind ?_
  show wpAny _ _ (updateSeq c _) _ _ s
  have e3 : Obj.mapSeq (fun xs => xs.eraseIdxIfInBounds vs.length) o = o' := by
    rw [← e]
    obtain ⟨oc, odi, oda, osl⟩ := o
    cases hd
    simp only [Obj.mapSeq, last_pop]
  exact seq_upd F N U hd e3 (by simp; omega) (by rw [last_pop]; simp; omega) fun h' F' N' => wpAny_pure ⟨_, rfl, h h' F' N'⟩
theorem init_bnd {c q : Addr} {o o' : Obj} {n : Nat} {Q : Value → Shared → Prop} (F : Fr h₀ L s.heap m) (N : News h₀ L s.heap news) (hq : s.heap.get? q = some (bnd "method-wrapper" "list.__init__" c)) (ho : s.heap.get? c = some o)
    (hd : o.data = .seq #[] n) (e : Obj.mapSeq (fun _ => #[]) o = o') (U : Upd c o o' news news') (h : ∀ h', Fr h₀ L h' m → News h₀ L h' news' → Q .none { s with heap := h' }) :
    wpAny (model prog w) A (call (.ref q) []) Q E s := by
  refine bnd_call (B := Builtin.«list.__init__») hq (by decide) (by decide) (fun h => wpAny_of_eq (check_linit c) h) (entryFor_of_tree (by kernel_rfl)) quiet_linit fun A' => ?_
  unfold Builtin.«list.__init__»
  simp only [List.isEmpty_nil, Bool.not_true, Bool.false_eq_true, if_false, List.length_nil, Nat.not_lt_zero]
  refine wpAny_bind (items_at ho hd ?_)
  refine wpAny_bind ?_
  show wpAny _ _ (updateSeq c _) _ _ s
  exact seq_upd F N U hd e (by simp) (by simp) fun h' F' N' => wpAny_bind (wpAny_letGo (wpAny_pure ⟨_, rfl, h h' F' N'⟩))
end
end Mine
namespace Mine
/-- chunks: (white space, text) -/
abbrev ckd (c : Str × Str) : List Pv := [.s c.1, .s c.2]
def clen (c : Str × Str) : Int := ((c.1.length + c.2.length : Nat) : Int)
def tlen (cs : List (Str × Str)) : Int := (cs.map clen).sum
/-- the text of a chunk; of all -/
def cone (c : Str × Str) : Str := Txt.join (Str.ofString "") [c.1, c.2]
def ctxt (cs : List (Str × Str)) : Str := Txt.join (Str.ofString "") (cs.map cone)
/-- strs as lists -/
abbrev sl (x : Str) := x.cps.toList
def joinL {α : Type} (sep : List α) : List (List α) → List α
  | [] => []
  | [x] => x
  | x :: y :: r => x ++ sep ++ joinL sep (y :: r)
theorem foldl_join {α : Type} (sep : List α) : ∀ (ys : List (List α)) (acc : List α), ys.foldl (fun acc p => acc ++ sep ++ p) acc = joinL sep (acc :: ys)
  | [], acc => rfl
  | y :: r, acc => by
    rw [List.foldl_cons, foldl_join sep r]
    cases r with
    | nil => simp [joinL]
    | cons z r => simp [joinL, List.append_assoc]
theorem foldl_cps (sep : Str) : ∀ (ps : List Str) (acc : Array _), (ps.foldl (fun acc p => acc ++ sep.cps ++ p.cps) acc).toList = (ps.map sl).foldl (fun acc p => acc ++ sl sep ++ p) acc.toList
  | [], acc => rfl
  | p :: r, acc => by
    rw [List.foldl_cons, foldl_cps sep r, List.map_cons, List.foldl_cons]
    simp [sl]
theorem sl_join (sep : Str) (ys : List Str) : sl (Txt.join sep ys) = joinL (sl sep) (ys.map sl) := by
  cases ys with
  | nil => rfl
  | cons y r =>
    show ((r.foldl (fun acc p => acc ++ sep.cps ++ p.cps) y.cps)).toList = _
    rw [foldl_cps, foldl_join]
    rfl
theorem sl_len (x : Str) : (sl x).length = x.length := by simp [sl, Str.length]
theorem joinL_nil {α : Type} : ∀ ys : List (List α), joinL [] ys = ys.flatten
  | [] => rfl
  | [x] => by simp [joinL]
  | x :: y :: r => by rw [joinL, joinL_nil (y :: r)]; simp
theorem sl_cone (c : Str × Str) : sl (cone c) = sl c.1 ++ sl c.2 := by
  unfold cone
  rw [sl_join]
  show joinL [] _ = _
  rw [joinL_nil]; simp
theorem cone_len (c : Str × Str) : (cone c).length = c.1.length + c.2.length := by
  rw [← sl_len, sl_cone, List.length_append, sl_len, sl_len]
theorem sl_ctxt (cs : List (Str × Str)) : sl (ctxt cs) = (cs.map fun c => sl c.1 ++ sl c.2).flatten := by
  unfold ctxt
  rw [sl_join]
  show joinL [] _ = _
  rw [joinL_nil, List.map_map]
  congr 1
  exact List.map_congr_left fun c _ => sl_cone c
theorem clen_nn (c : Str × Str) : 0 ≤ clen c := Int.natCast_nonneg _
theorem tlen_nn : ∀ cs : List (Str × Str), 0 ≤ tlen cs
  | [] => by simp [tlen]
  | c :: r => by have := tlen_nn r; have := clen_nn c; simp only [tlen, List.map_cons, List.sum_cons] at *; omega
theorem take_le (cs : List (Str × Str)) (j : Nat) : 0 ≤ ((cs.map clen).take j).sum ∧ ((cs.map clen).take j).sum ≤ tlen cs := by
  induction cs generalizing j with
  | nil => simp [tlen]
  | cons c r ih =>
    cases j with
    | zero => simp only [List.take_zero, List.sum_nil]; exact ⟨Int.le_refl _, tlen_nn _⟩
    | succ j =>
      have := ih j
      have := clen_nn c
      simp only [tlen, List.map_cons, List.take_succ_cons, List.sum_cons] at *
      omega
theorem clen_le {cs : List (Str × Str)} {c : Str × Str} (h : c ∈ cs) : clen c ≤ tlen cs := by
  induction cs with
  | nil => cases h
  | cons d r ih =>
    have h1 := tlen_nn r
    have h2 := clen_nn d
    simp only [tlen, List.map_cons, List.sum_cons] at *
    rcases List.mem_cons.mp h with rfl | h
    · (clear h2; omega)
    · have := ih h; (clear h1; omega)
theorem pvs_two {vs : List Value} {a b : Pv} (p : PvsAre vs [a, b]) : ∃ v1 v2, vs = [v1, v2] := by
  cases p with
  | cons _ p => cases p with
    | cons _ p => cases p; exact ⟨_, _, rfl⟩
theorem TupAt.pair {h : Heap} {v : Value} {c : Str × Str} (x : TupAt h v (ckd c)) : ∃ T t1 t2, v = .ref T ∧ h.IsTuple T #[.str c.1 t1, .str c.2 t2] := by
  obtain ⟨a, vs, n, rfl, g, p⟩ := x
  cases p with
  | cons h1 p =>
    cases p with
    | cons h2 p =>
      cases p
      cases h1; cases h2
      exact ⟨a, _, _, rfl, _, g, rfl, _, rfl⟩
theorem choose_ck {h : Heap} {vs : List Value} {cs : List (Str × Str)} (A : AllAt (TupAt h) vs (cs.map ckd)) :
    ∃ (Ts : Nat → Addr) (ta tb : Nat → Tok), ∀ j (c : Str × Str), cs[j]? = some c → vs[j]? = some (Value.ref (Ts j)) ∧ h.IsTuple (Ts j) #[Value.str c.1 (ta j), Value.str c.2 (tb j)] := by
  have one : ∀ j, ∃ q : Addr × Tok × Tok, ∀ c : Str × Str, cs[j]? = some c → vs[j]? = some (Value.ref q.1) ∧ h.IsTuple q.1 #[Value.str c.1 q.2.1, Value.str c.2 q.2.2] := fun j => by
    by_cases hj : j < cs.length
    · obtain ⟨v, hv, tv⟩ := A.get (i := j) (by simpa using hj)
      have e : (cs.map ckd)[j]'(by simpa using hj) = ckd cs[j] := by simp
      rw [e] at tv
      obtain ⟨T, t1, t2, rfl, ht⟩ := tv.pair
      refine ⟨(T, t1, t2), fun c hc => ?_⟩
      rw [List.getElem?_eq_getElem hj] at hc
      cases hc
      exact ⟨hv, ht⟩
    · exact ⟨(0, 0, 0), fun c hc => by rw [List.getElem?_eq_none (by omega)] at hc; cases hc⟩
  obtain ⟨f, hf⟩ := Classical.skolem.mp one
  exact ⟨fun j => (f j).1, fun j => (f j).2.1, fun j => (f j).2.2, hf⟩
theorem preSum_ck (cs : List (Str × Str)) (j : Nat) : preSum (fun i => (cs.map clen).getD i 0) j = ((cs.map clen).take j).sum := preSum_getD _ _
theorem ne_none {α : Type} {x : Option α} {o : α} (e : x = some o) (k : x = none) : False := by rw [e] at k; cases k
theorem keep3 {a c d : Addr} {oa oc od : Obj} {ys : List Addr} {h g h' : Heap} (ha : h.get? a = some oa) (hc : h.get? c = some oc) (hd : h.get? d = some od) (KP : Keep (List.map Prod.fst [(a, oa), (c, oc), (d, od)]) h g) (kg : ∀ b o, g.get? b = some o → h'.get? b = some o)
    (h0 : a ∉ ys → h'.get? a = some oa) (h1 : c ∉ ys → h'.get? c = some oc) (h2 : d ∉ ys → h'.get? d = some od) : Keep ys h h' :=
  keep_of (D := [(a, oa), (c, oc), (d, od)]) (fun q hq => by rcases List.mem_cons.mp hq with rfl | hq; exact ha; rcases List.mem_cons.mp hq with rfl | hq; exact hc; rw [List.mem_singleton.mp hq]; exact hd) KP kg fun q hq hn => by
    rcases List.mem_cons.mp hq with rfl | hq
    · exact h0 hn
    · rcases List.mem_cons.mp hq with rfl | hq
      · exact h1 hn
      · rw [List.mem_singleton.mp hq] at hn ⊢; exact h2 hn
theorem cone_sum : ∀ cs : List (Str × Str), ((((cs.map cone).map (·.length)).sum : Nat) : Int) = tlen cs
  | [] => rfl
  | c :: r => by
    have := cone_sum r
    simp only [List.map_cons, List.sum_cons, tlen, clen, cone_len] at *
    omega
theorem cone_ok {cs : List (Str × Str)} (h : tlen cs ≤ 1000000) : JoinOk (Str.ofString "") (cs.map cone) = true :=
  joinOk_of (by have := cone_sum cs; have e : (Str.ofString "").length = 0 := rfl; rw [e, Nat.mul_zero]; (clear e; omega))
section
variable {g h h' : Heap} {L a b : Addr} {o o' : Obj} {m : Str → Option Value} {D : List Addr} {news rest : List (Addr × Obj)} {p : Addr × Obj}
theorem News.re_keep (N : News g L h news) (k : Keep D h h') (hm : p ∈ news) (hn : p.1 ∉ D) (r : News g L h' rest) : News g L h' (p :: rest) := fun q hq => by
  rcases List.mem_cons.mp hq with rfl | hq
  · exact ⟨k _ _ hn (N _ hm).1, (N _ hm).2⟩
  · exact r q hq
theorem News.re_new (N : News g L h news) (hm : (a, o) ∈ news) (ha : h'.get? a = some o') (r : News g L h' rest) : News g L h' ((a, o') :: rest) := fun q hq => by
  rcases List.mem_cons.mp hq with rfl | hq
  · exact ⟨ha, (N _ hm).2⟩
  · exact r q hq
theorem off1 {x y : Nat} (h : x ≠ y) : (x : Addr) ∉ ([y] : List Addr) := fun q => h (List.mem_singleton.mp q)
theorem off2 {x y z : Nat} (h : x ≠ y) (k : x ≠ z) : (x : Addr) ∉ ([y, z] : List Addr) := fun q => by
  rcases List.mem_cons.mp q with q | q
  · exact h q
  · exact k (List.mem_singleton.mp q)
theorem off3 {x y z u : Nat} (h : x ≠ y) (k : x ≠ z) (j : x ≠ u) : (x : Addr) ∉ ([y, z, u] : List Addr) := fun q => by
  rcases List.mem_cons.mp q with q | q
  · exact h q
  · exact off2 k j q
theorem Fr.re1 (F : Fr g L h m) (N : News g L h news) (k : Keep [a] h h') (hm : (a, o) ∈ news) : Fr g L h' m :=
  Mine.Fr.kept F k (fun x hx => by rw [List.mem_singleton.mp hx]; exact (N _ hm).2.2) fun q => (N _ hm).2.1 (List.mem_singleton.mp q).symm
theorem Fr.re2 (F : Fr g L h m) (N : News g L h news) (k : Keep [a, b] h h') (hm : (a, o) ∈ news) (hm2 : (b, o') ∈ news) : Fr g L h' m :=
  Mine.Fr.kept F k (fun x hx => by rcases List.mem_cons.mp hx with rfl | hx; exact (N _ hm).2.2; rw [List.mem_singleton.mp hx]; exact (N _ hm2).2.2) fun q => by
    rcases List.mem_cons.mp q with q | q
    · exact (N _ hm).2.1 q.symm
    · exact (N _ hm2).2.1 (List.mem_singleton.mp q).symm
theorem keep4 {b c d : Addr} {oa ob oc od : Obj} {ys : List Addr} (ha : h.get? a = some oa) (hb : h.get? b = some ob) (hc : h.get? c = some oc) (hd : h.get? d = some od) (KP : Keep (List.map Prod.fst [(a, oa), (b, ob), (c, oc), (d, od)]) h g) (kg : ∀ b o, g.get? b = some o → h'.get? b = some o)
    (h0 : a ∉ ys → h'.get? a = some oa) (h1 : b ∉ ys → h'.get? b = some ob) (h2 : c ∉ ys → h'.get? c = some oc) (h3 : d ∉ ys → h'.get? d = some od) : Keep ys h h' :=
  keep_of (D := [(a, oa), (b, ob), (c, oc), (d, od)]) (fun q hq => by rcases List.mem_cons.mp hq with rfl | hq; exact ha; rcases List.mem_cons.mp hq with rfl | hq; exact hb; rcases List.mem_cons.mp hq with rfl | hq; exact hc; rw [List.mem_singleton.mp hq]; exact hd) KP kg fun q hq hn => by
    rcases List.mem_cons.mp hq with rfl | hq
    · exact h0 hn
    · rcases List.mem_cons.mp hq with rfl | hq
      · exact h1 hn
      · rcases List.mem_cons.mp hq with rfl | hq
        · exact h2 hn
        · rw [List.mem_singleton.mp hq] at hn ⊢; exact h3 hn
end
end Mine
namespace Mine
section
variable {prog : Program} {w : World} {A : Around} {E : Value → Shared → Prop} {s : Shared} {K : Frag} {x C f : Addr} {ox : Obj} {od : Option Obj}
/-- the truth of an instance that has a __len__ alone -/
theorem truthy_lenK {Q : Bool → Shared → Prop} (X : K.In s.heap) (I : InstAt s.heap x ox C od) (hb : findIn K (.ref C) "__bool__" = some none) (hs : findIn K (.ref C) "__len__" = some (some (.ref f))) (hf : isFn K (.ref f) = true)
    (h : wpAny (model prog w) A.in1 (call (.ref f) [.ref x]) (fun v s' => match v with | .int n _ => (0 ≤ n ∧ n < 2 ^ 63) ∧ Q (n != 0) { s' with toks := s'.toks + 1 } | _ => False) E s) : wpAny (model prog w) A (truthy (.ref x)) Q E s := by
  unfold truthy
  refine wpAny_bind (m := callSpecial? (.ref x) (Str.ofString "__bool__")) (wpAny_bind (wpAny_bind (I.type.here ((looks_findIn X hb).here (wpAny_pure ?_)))))
  refine wpAny_bind (wpAny_bind (I.type.here ((looks_findIn X hs).here ?_)))
  refine wpAny_bind (m := runValue (.builtin "len" ⟨[.ref x], []⟩)) (wpAny_runValue (codeAny_builtin entry_len ?_))
  rw [Around.under_plainId plain_len _]
  unfold Builtin.«len»
  refine wpAny_bind (m := oneArg "len" _) (wpAny_pure ?_)
  refine wpAny_bind (m := callSpecial? (.ref x) (Str.ofString "__len__")) (special_fn X I hs (beq_iff_eq.mp hf) (wpAny_mono h (fun r s' hr => ?_) fun _ _ y => y))
  cases r <;> first | exact hr.elim | skip
  rename_i n u
  obtain ⟨⟨h0, h1⟩, hq⟩ := hr
  refine wpAny_bind (wpAny_holding (wpAny_pure ?_))
  refine wpAny_bind (wpAny_letGo ?_)
  show wpAny _ _ (if n < 0 then _ else _) _ _ _
  rw [if_neg (by omega)]
  show wpAny _ _ (if n ≥ 2 ^ 63 then _ else _) _ _ _
  rw [if_neg (by omega)]
  exact wpAny_bind (wpAny_mkInt (wpAny_pure (wpAny_pure hq)))
end
end Mine
namespace Mine
section
variable {prog : Program} {w : World} {A : Around} {E : Value → Shared → Prop} {s : Shared} {K : Frag} {x C L : Addr} {ox : Obj} {od : Option Obj} {h₀ : Heap} {m : Str → Option Value} {news news' : List (Addr × Obj)}
theorem getItem_bi {v : Value} {Q : Value → Shared → Prop} (X : K.In s.heap) (I : InstAt s.heap x ox C od) (hm : mroIn K C (.type "list") = some true) (hq : noSeq K C = true) (hs : findIn K (.ref C) "__getitem__" = some (some (.builtin "list.__getitem__")))
    (ht : wpAny (model prog w) A.in1 (Builtin.«list.__getitem__» ⟨[.ref x, v], []⟩) (fun fin s' => ∃ r, fin = .done (.ret r) ∧ Q r s') E s) : wpAny (model prog w) A (getItem (.ref x) v) Q E s := by
  unfold getItem sequenceKey
  refine wpAny_holding (wpAny_bind (wpAny_bind (I.type.here ?_)))
  refine wpAny_bind ((anyM_none X hq).here ?_)
  rw [if_pos (show (!false) = true from rfl)]
  refine wpAny_pure (wpAny_bind (special_bi X I hs (slot_list_getitem.bind _) (call_bi (n := "__getitem__") X I hm (by first | exact .inl (by decide +kernel) | exact .inr (by decide +kernel)) (by decide +kernel) (by decide +kernel) entry_list_getitem (args_list_getitem _ _) (wpAny_mono ht (fun fin s' h => ?_) fun _ _ z => z))))
  obtain ⟨r, rfl, hr⟩ := h
  exact ⟨r, rfl, wpAny_pure hr⟩
theorem setItem_bi {i v : Value} {Q : Unit → Shared → Prop} (X : K.In s.heap) (I : InstAt s.heap x ox C od) (hm : mroIn K C (.type "list") = some true) (hq : noSeq K C = true) (hs : findIn K (.ref C) "__setitem__" = some (some (.builtin "list.__setitem__")))
    (ht : wpAny (model prog w) A.in1 (Builtin.«list.__setitem__» ⟨[.ref x, i, v], []⟩) (fun fin s' => ∃ r, fin = .done (.ret r) ∧ Q () s') E s) : wpAny (model prog w) A (setItem (.ref x) i v) Q E s := by
  unfold setItem sequenceKey
  refine wpAny_holding (wpAny_bind (wpAny_bind (I.type.here ?_)))
  refine wpAny_bind ((anyM_none X hq).here ?_)
  rw [if_pos (show (!false) = true from rfl)]
  refine wpAny_pure (wpAny_bind (special_bi X I hs (slot_list_setitem.bind _) (call_bi (n := "__setitem__") X I hm (by first | exact .inl (by decide +kernel) | exact .inr (by decide +kernel)) (by decide +kernel) (by decide +kernel) entry_list_setitem (args_list_setitem _ _ _) (wpAny_mono ht (fun fin s' h => ?_) fun _ _ z => z))))
  obtain ⟨r, rfl, hr⟩ := h
  exact ⟨r, rfl, wpAny_pure hr⟩
theorem sub_bi {value slice : PySem.Expr} {i : Value} {ops : List Value} {Q : Value → Shared → Prop} (X : K.In s.heap) (I : InstAt s.heap x ox C od) (hm : mroIn K C (.type "list") = some true) (hq : noSeq K C = true) (hs : findIn K (.ref C) "__getitem__" = some (some (.builtin "list.__getitem__")))
    (hsl : subscripted slice false (.ref x) i = operate ops (getItem (.ref x) i))
    (ht : wpAny (model prog w) A.in1 (Builtin.«list.__getitem__» ⟨[.ref x, i], []⟩) (fun fin s' => ∃ r, fin = .done (.ret r) ∧ Q r s') E s) : wpAny (model prog w) A (subscriptTail value slice (.ref x) i) Q E s := by
  unfold subscriptTail getitemInPython specialOf
  refine wpAny_bind (wpAny_bind (wpAny_bind (I.type.here ((looks_findIn X hs).here ?_))))
  have fin : wpAny (model prog w) A (subscripted slice false (.ref x) i) (fun r s₃ => wpAny (model prog w) A (letTemporaryGo value (.ref x) r >>= fun _ => pure r) Q E s₃) E s := by
    rw [hsl]
    refine wpAny_operating (getItem_bi X I hm hq hs (wpAny_mono ht (fun f s' h => ?_) fun _ _ z => z))
    obtain ⟨r, rfl, hr⟩ := h
    exact ⟨r, rfl, wpAny_bind (wpAny_letTemporaryGo (wpAny_pure hr))⟩
  first
    | exact wpAny_pure (wpAny_bind fin)
    | exact wpAny_bind (wpAny_pure (wpAny_bind fin))
    | exact wpAny_bind fin
end
theorem pick_from (vs : List Value) (i : Nat) : slicePick vs.toArray (some (i : Int)) none none = (vs.drop i).toArray := by
  have e : sliceBounds (some (i : Int)) none none vs.toArray.size = (((min i vs.toArray.size : Nat) : Int), ((vs.toArray.size : Nat) : Int), 1) := by
    simp only [sliceBounds, Option.getD_none, show (1 : Int) > 0 by decide, if_true, if_neg (show ¬ ((i : Int) < 0) by omega)]
    congr 1
    omega
  rw [kmk_pick_nat _ e]
  show ((vs.drop (min i vs.toArray.size)).take (vs.toArray.size - min i vs.toArray.size)).toArray = _
  rw [List.size_toArray, kmk_drop_min, List.take_of_length_le (by rw [List.length_drop]; omega)]
theorem cut_from (vs new : List Value) (i : Nat) (hi : i ≤ vs.length) : vs.toArray.extract 0 (sliceBounds (some (i : Int)) none none vs.toArray.size).1.toNat ++ new.toArray ++ vs.toArray.extract (max (sliceBounds (some (i : Int)) none none vs.toArray.size).1 (sliceBounds (some (i : Int)) none none vs.toArray.size).2.1).toNat vs.toArray.size = (vs.take i ++ new).toArray := by
  have e : sliceBounds (some (i : Int)) none none vs.toArray.size = ((i : Int), ((vs.length : Nat) : Int), 1) := by
    simp only [sliceBounds, Option.getD_none, show (1 : Int) > 0 by decide, if_true, if_neg (show ¬ ((i : Int) < 0) by (clear hi; omega)), List.size_toArray]
    congr 1
    omega
  rw [e]
  apply Array.toList_inj.mp
  simp
  have e2 : (max (i : Int) (vs.length : Int)).toNat = vs.length := by omega
  rw [e2]; simp
theorem cut_all (vs new : List Value) : vs.toArray.extract 0 (sliceBounds none none none vs.toArray.size).1.toNat ++ new.toArray ++ vs.toArray.extract (max (sliceBounds none none none vs.toArray.size).1 (sliceBounds none none none vs.toArray.size).2.1).toNat vs.toArray.size = new.toArray := by
  have e : sliceBounds none none none vs.toArray.size = (0, ((vs.length : Nat) : Int), 1) := by
    simp [sliceBounds]
  rw [e]
  apply Array.toList_inj.mp
  simp
abbrev sliceO (lo hi : Value) : Obj := { cls := .type "slice", data := .fields #[lo, hi, .none] }
section
variable {prog : Program} {w : World} {A : Around} {E : Value → Shared → Prop} {s : Shared} {K : Frag} {c C L sl e : Addr} {o o' : Obj} {od : Option Obj} {h₀ : Heap} {m : Str → Option Value} {news news' : List (Addr × Obj)} {vs new : List Value} {n ne i : Nat} {ti : Tok}
theorem sub_from {value slice : PySem.Expr} {ops : List Value} {Q : Value → Shared → Prop} (F : Fr h₀ L s.heap m) (X₀ : K.In h₀) (N : News h₀ L s.heap news) (I : InstAt s.heap c o C od) (hm : mroIn K C (.type "list") = some true) (hq : noSeq K C = true) (hs : findIn K (.ref C) "__getitem__" = some (some (.builtin "list.__getitem__")))
    (hd : o.data = .seq vs.toArray n) (hsl : (sl, sliceO (.int (i : Int) ti) .none) ∈ news) (hz : vs.length < 1000000)
    (h : ∀ q h', Fr h₀ L h' m → News h₀ L h' ((q, listOf (vs.drop i).toArray 0) :: news) → (∀ p ∈ news, p.1 < q) → Q (.ref q) { s with heap := h' })
    (hsub : subscripted slice false (.ref c) (.ref sl) = operate ops (getItem (.ref c) (.ref sl)) := by with_unfolding_all rfl) : wpAny (model prog w) A (subscriptTail value slice (.ref c) (.ref sl)) Q E s := by
  refine sub_bi (X₀.keeps F.keep) I hm hq hs hsub (getitem_slice_tree I.at_ hd ⟨_, (N _ hsl).1, rfl, rfl⟩ (.int _ _) .none (by rw [List.size_toArray, sizeLine_eq]; omega) ⟨_, rfl, ?_⟩)
  rw [pick_from]
  obtain ⟨F', N', l'⟩ := ks_newsPush (s := s) (o := listOf (vs.drop i).toArray 0) F N rfl (Heap.get?_push_at rfl rfl) (fun b o e => Heap.get?_push_of_some _ e)
  exact h _ _ F' N' l'
theorem set_cut {lo : Option Int} {vl : Value} {Q : Unit → Shared → Prop} (F : Fr h₀ L s.heap m) (X₀ : K.In h₀) (N : News h₀ L s.heap news) (I : InstAt s.heap c o C od) (hm : mroIn K C (.type "list") = some true) (hq : noSeq K C = true) (hs : findIn K (.ref C) "__setitem__" = some (some (.builtin "list.__setitem__")))
    (hd : o.data = .seq vs.toArray n) (hsl : (sl, sliceO vl .none) ∈ news) (pl : IsPart vl lo) (he : (e, listOf new.toArray ne) ∈ news) (hce : c ≠ e) (hz : vs.length + new.length < 1000000)
    (ho' : Obj.mapSeq (fun xs => xs.extract 0 (sliceBounds lo none none vs.toArray.size).1.toNat ++ new.toArray ++ xs.extract (max (sliceBounds lo none none vs.toArray.size).1 (sliceBounds lo none none vs.toArray.size).2.1).toNat xs.size) o = o') (U : Upd c o o' news news')
    (h : ∀ h', Fr h₀ L h' m → News h₀ L h' news' → Q () { s with heap := h' }) : wpAny (model prog w) A (setItem (.ref c) (.ref sl) (.ref e)) Q E s := by
  refine setItem_bi (X₀.keeps F.keep) I hm hq hs (setitem_slice_tree I.at_ hd ⟨_, (N _ hsl).1, rfl, rfl⟩ pl .none (N _ he).1 rfl rfl hce (by simp; (clear hce; omega)) ⟨_, rfl, ?_⟩)
  obtain ⟨pre, post, rfl, rfl, n1, n2⟩ := U.split
  have hf : o'.isFreed = false := by
    obtain ⟨_, _, dd, _⟩ := o
    cases hd; subst ho'; rfl
  obtain ⟨U1, U2⟩ := news_upd (f := Obj.mapSeq fun xs => xs.extract 0 (sliceBounds lo none none vs.toArray.size).1.toNat ++ new.toArray ++ xs.extract (max (sliceBounds lo none none vs.toArray.size).1 (sliceBounds lo none none vs.toArray.size).2.1).toNat xs.size) F N n1 n2 ho' hf
  exact h _ U1 U2
end
theorem mapSeq_is {cls : Value} {dict : Option Addr} {sl : Array (Option Value)} {f : Array Value → Array Value} {xs ys : Array Value} {n : Nat} (h : f xs = ys) : ∃ k', Obj.mapSeq f ⟨cls, dict, .seq xs n, sl⟩ = ⟨cls, dict, .seq ys k', sl⟩ := by
  subst h; exact ⟨_, rfl⟩
end Mine
namespace Mine
open PySem.Builtin PySem.Builtin.ObjectAttr
def makesInL (K : Frag) (C : Addr) : Bool := match K.lookup C with
  | some ⟨_, _, .cls cd, sl⟩ => !cd.abstract && !cd.hasDel && (sl.toList[4]?).join == some (.builtin "list.__new__") && !cd.mro.isEmpty && cd.mro.contains (.ref C) && cd.mro.contains (.type "list") &&
      specialIn K (.ref C) "__call__" == some (some (.builtin "type.__call__")) && instIn K (.ref C) (.type "type") == some true
  | _ => false
structure MakesL (M : Model) (h : Heap) (C : Addr) : Prop where
  obj : ∃ oc od cd sl, h.get? C = some ⟨oc, od, .cls cd, sl⟩ ∧ cd.abstract = false ∧ cd.hasDel = false ∧ cd.mro.isEmpty = false
  made : Looks M h (Bind.madeBy (.ref C)) (some "list.__new__")
  base : Looks M h (Bind.staticBase (.ref C)) (.ref C)
  self : Looks M h (isSubtype (.ref C) (.ref C)) true
  sub : Looks M h (isSubtype (.ref C) (.type "list")) true
  call : Looks M h (specialOf (.ref C) "__call__") (some (.builtin "type.__call__"))
  typ : Looks M h (isInstance (.ref C) (.type "type")) true
theorem makesL_of {K : Frag} {M : Model} {h : Heap} (X : K.In h) {C : Addr} (e : makesInL K C = true) : MakesL M h C := by
  unfold makesInL at e
  split at e
  · rename_i oc od cd sl ho
    simp only [Bool.and_eq_true, Bool.not_eq_true', beq_iff_eq] at e
    obtain ⟨⟨⟨⟨⟨⟨⟨e1, e2⟩, e3⟩, e4⟩, e5⟩, e6⟩, e7⟩, e8⟩ := e
    have hc : clsIn K C = some cd := by unfold clsIn; rw [ho]
    have hm : Looks M h (mroOf (.ref C)) cd.mro := (looks_clsIn X hc).andThen .now
    obtain ⟨c, l, hl⟩ : ∃ c l, cd.mro = c :: l := by cases q : cd.mro with | nil => rw [q] at e4; cases e4 | cons c l => exact ⟨c, l, rfl⟩
    have made : Looks M h (Bind.madeBy (.ref C)) (some "list.__new__") := by
      intro A Q E s k q
      unfold Bind.madeBy
      refine wpAny_bind (hm A _ E s k ?_)
      rw [hl, List.forIn_cons]
      refine wpAny_bind (wpAny_bind (wpAny_bind (wpAny_bind (wpAny_loadPart (k _ _ (X _ _ ho)) (wpAny_pure ?_)))))
      dsimp only
      rw [← Array.getElem?_toList, e3]
      exact wpAny_pure (wpAny_pure (wpAny_pure q))
    refine ⟨⟨oc, od, cd, sl, X _ _ ho, e1, e2, e4⟩, made, ?_, looks_mroIn X ?_, looks_mroIn X ?_, looks_specialIn X e7, looks_instIn X e8⟩
    · intro A Q E s k q
      unfold Bind.staticBase
      refine wpAny_bind (hm A _ E s k ?_)
      rw [hl, List.forIn_cons]
      exact wpAny_bind (wpAny_bind (wpAny_bind (made A _ E s k (wpAny_pure (wpAny_pure (wpAny_pure q))))))
    · unfold mroIn; rw [hc, Option.bind_some, if_neg (by rw [e4]; decide), e5]
    · unfold mroIn; rw [hc, Option.bind_some, if_neg (by rw [e4]; decide), e6]
  · cases e
abbrev instL (C dx : Addr) : Obj := { cls := .ref C, dict := some dx, data := .seq #[] }
section
variable {prog : Program} {w : World} {A : Around} {K : Frag} {C : Addr} {R : Result → Shared → Prop} {h : Heap} {g : Array GenState} {d : Drawn} {t : Nat} {os : OsState}
theorem ln_kind : builtinKind "list.__new__" = some .builtinFn := by decide +kernel
theorem ln_split : splitId "list.__new__" = some ("list", "__new__") := by decide +kernel
theorem ln_sig : ∃ sig, Manifest.signature? "list.__new__" = some sig ∧ ∀ (C : Addr) (a : Value), Bind.checkArgs "list.__new__" sig ⟨[.ref C, a], []⟩ = pure () :=
  ⟨(Manifest.signature? "list.__new__").get (by decide +kernel), by simp, fun C a => by kernel_rfl⟩
theorem newL {a : Value} (Y : MakesL (model prog w) h C) (hq : R (.ok (.ret (.ref (h.objs.size + 1)))) ⟨(h.push emptyDict).push (instL C h.objs.size), g, d, t, os⟩) :
    codeAny (model prog w) A (.call (.builtin "list.__new__") ⟨[.ref C, a], []⟩) R ⟨h, g, d, t, os⟩ := by
  obtain ⟨⟨oc, od, cd, sl, hC, e1, e2, e4⟩, made, base, self, sub, call, typ⟩ := Y
  obtain ⟨sig, hs, args⟩ := ln_sig
  refine codeAny_call_builtin_code (Code.quiet_builtin _ (by decide +kernel)) ?_
  simp only [checkBuiltinCall, ln_kind, ln_split, hs]
  rw [args]
  refine wpAny_bind ?_
  refine ks_wpAny_isType_cls hC rfl ?_
  repeat (first | simp only [bne_self_eq_false, Bool.not_true, Bool.false_eq_true, if_false] | lk)
  refine codeAny_builtin_stack F.entry_list_new rfl fun p st => ?_
  rw [Around.under_plainId F.plain_list_new _]
  have hown := owner_list_new
  simp only [hown]
  refine wpAny_bind (ks_wpAny_isType_cls hC rfl ?_)
  repeat (first | simp only [bne_self_eq_false, Bool.not_true, Bool.false_eq_true, if_false] | lk)
  refine wpAny_load (Heap.get?_push_of_some _ (Heap.get?_push_of_some _ hC)) ?_
  refine wpAny_pure ?_
  rw [e2]
  refine wpAny_pure (wpAny_pure ?_)
  show R _ _
  rw [Heap.size_push]
  exact hq
theorem make_coreL {a init : Value} (Y : MakesL (model prog w) h C) (hi : Looks (model prog w) h (typeLookup (.ref C) "__init__") (some init))
    (hb : ∀ self, Looks (model prog w) h (bindSpecial init self) (init, [self]))
    (hq : codeAny (model prog w) (A.under (.builtin "type.__call__" ⟨[.ref C, a], []⟩)) (.call init ⟨[.ref (h.objs.size + 1), a], []⟩) (InitBack (h.objs.size + 1) R) ⟨(h.push emptyDict).push (instL C h.objs.size), g, d, t, os⟩) :
    codeAny (model prog w) A (.call (.ref C) ⟨[a], []⟩) R ⟨h, g, d, t, os⟩ := by
  have Y' := Y
  obtain ⟨⟨oc, od, cd, sl, hC, e1, e2, e4⟩, made, base, self, sub, call, typ⟩ := Y
  refine codeAny_of_tree ?_
  show wpAny _ _ (callAny (.ref C) _) _ _ _
  refine nd_load hC ?_
  show wpAny _ _ (callAny.viaDunder (.ref C) _) _ _ _
  unfold callAny.viaDunder
  refine wpAny_bind (call.at ?_)
  dsimp only
  rw [tc_bind]
  refine wpAny_bind (wpAny_pure (wpAny_bind (wpAny_pure ?_)))
  refine wpAny_pure (a := Fin.again (.call (.builtin "type.__call__") ⟨[.ref C, a], []⟩)) (And.intro rfl ?_)
  refine codeAny_call_builtin_at (Code.quiet_builtin _ (by decide +kernel)) entry_typeCall (check_slot tc_kind tc_split typ (tc_args _ _ _) ?_)
  unfold Builtin.«type.__call__»
  have hm : Looks (model prog w) h (mroOf (.ref C)) cd.mro := ((Looks.ld (part := none) hC).andThen .now).andThen .now
  repeat (first | simp only [e4, Bool.false_eq_true, if_false] | with_reducible refine wpAny_call ?_ | lk)
  refine newL Y' ?_
  have k : ∀ b o, h.get? b = some o → ((h.push emptyDict).push (instL C h.objs.size)).get? b = some o := fun b o e => Heap.get?_push_of_some _ (Heap.get?_push_of_some _ e)
  have hx : ((h.push emptyDict).push (instL C h.objs.size)).get? (h.objs.size + 1) = some (instL C h.objs.size) := by heap_get
  have t1 : Looks (model prog w) ((h.push emptyDict).push (instL C h.objs.size)) (typeOf (.ref (h.objs.size + 1))) (.ref C) := (Looks.ld hx).andThen .now
  have s1 := self.keeps k
  have i1 := hi.keeps k
  have b1 := (hb (.ref (h.objs.size + 1))).keeps k
  unfold isInstance callSpecial? specialOf
  repeat (first | with_reducible refine wpAny_call ?_ | lk)
  refine codeAny_mono hq fun r s' z => ?_
  rcases r with e | (v | _ | _ | _) <;> first | exact z | exact z.elim | skip
  obtain ⟨rfl, z⟩ := z
  exact wpAny_pure (wpAny_pure z)
end
section
variable {prog : Program} {w : World} {A : Around} {K : Frag} {C : Addr} {s : Shared} {h₀ : Heap} {L : Addr} {m : Str → Option Value} {news : List (Addr × Obj)} {E : Value → Shared → Prop} {Q : Value → Shared → Prop}
theorem call_list {a : Value} {fI : Addr} (F : Fr h₀ L s.heap m) (X₀ : K.In h₀) (N : News h₀ L s.heap news) (hm : makesInL K C = true) (hi : findIn K (.ref C) "__init__" = some (some (.ref fI))) (hf : isFn K (.ref fI) = true)
    (h : ∀ x dx h', Fr h₀ L h' m → News h₀ L h' ((x, instL C dx) :: (dx, dictOf [] 0) :: news) → (∀ p ∈ news, p.1 < dx) → dx < x → s.heap.objs.size ≤ dx →
      codeAny (model prog w) (A.under (.builtin "type.__call__" ⟨[.ref C, a], []⟩)) (.call (.ref fI) ⟨[.ref x, a], []⟩) (InitBack x fun r s' => match r with | .ok (.ret v) => Q v s' | .ok _ => False | .error e => E e s') { s with heap := h' }) :
    wpAny (model prog w) A (call (.ref C) [a]) Q E s := by
  have X := X₀.keeps F.keep
  obtain ⟨hh, g, d, t, os⟩ := s
  have N2 := (N.push F emptyDict).push (F.push _) (instL C hh.objs.size)
  rw [Heap.size_push] at N2
  refine wpAny_call (make_coreL (makesL_of X hm) (looks_findIn X hi) (fun self => bind_fn X self (beq_iff_eq.mp hf)) ?_)
  exact h _ hh.objs.size _ ((F.push _).push _) N2 (fun p hp => Heap.lt_size (N p hp).1) (Nat.lt_succ_self _) (Nat.le_refl _)
end
theorem under_make (dp un : Nat) (gd : Option (List Code)) (fr : List Env) (as : List Value) (C : Addr) : (amb dp un gd fr).under (.builtin "type.__call__" ⟨.ref C :: as, []⟩) = amb (dp + 1) (un + 1) gd fr := by first | rfl | kernel_rfl
end Mine
namespace Mine
section
variable {prog : Program} {w : World} {A : Around} {E : Value → Shared → Prop} {s : Shared} {a b : Value} {x y : Str × Str} {Q : Value → Shared → Prop}
theorem reads_ck {h : Heap} (z : TupAt h a (ckd x)) : Reads h a (.tuple [.str x.1, .str x.2]) [] := by
  obtain ⟨T, t1, t2, rfl, o, ho, hc, n, hd⟩ := z.pair
  exact reads_tuple_at ho hc hd (readsAll_cons_val (.str _ _) (readsAll_cons_val (.str _ _) .nil))
theorem ck_shaped {x : Str × Str} (h1 : PyData.strOk x.1 = true) (h2 : PyData.strOk x.2 = true) : SeqAt.shaped (.tuple [.str x.1, .str x.2]) = true := by
  simp [SeqAt.shaped, PyData.canLay0, PyData.depth, PyData.canLayAll0, PyData.depthAll, h1, h2]
theorem ck_mix (x y : Str × Str)   : SeqAt.noMix (.tuple [.str x.1, .str x.2]) (.tuple [.str y.1, .str y.2]) = true := by
  simp [SeqAt.noMix, SeqAt.noMixAll]
theorem ck_same (x y : Str × Str) : PySem.Spec.same (.tuple [.str x.1, .str x.2]) (.tuple [.str y.1, .str y.2]) = decide (x = y) := by
  obtain ⟨x1, x2⟩ := x
  obtain ⟨y1, y2⟩ := y
  simp only [PySem.Spec.same, PySem.Spec.sameAll, Prod.mk.injEq]
  by_cases h : x1 = y1 <;> by_cases h' : x2 = y2 <;> simp [h, h']
theorem ne_ck (hx : TupAt s.heap a (ckd x)) (hy : TupAt s.heap b (ckd y)) (x1 : PyData.strOk x.1 = true) (x2 : PyData.strOk x.2 = true) (y1 : PyData.strOk y.1 = true) (y2 : PyData.strOk y.2 = true) (hu : A.units + 64 < cLine) (h : Q (.bool (!decide (x = y))) s) : wpAny (model prog w) A (compareOp .NotEq a b) Q E s :=
  ne_dataH_same (reads_ck hx) (reads_ck hy) (ck_shaped x1 x2) (ck_shaped y1 y2) hu (ck_mix x y) (by rw [ck_same]; exact h)
end
end Mine
namespace Mine
section
variable {prog : Program} {w : World} {A : Around} {E : Value → Shared → Prop} {s : Shared} {K : Frag} {x C L f : Addr} {ox : Obj} {h₀ : Heap} {m : Str → Option Value} {news : List (Addr × Obj)} {name : Str} {es : List DictEntry} {n : Nat} {expr : Bool} {Q : Value → Shared → Prop}
theorem bound_L (F : Fr h₀ L s.heap m) (X₀ : K.In h₀) (N : News h₀ L s.heap news) (I : InstAt s.heap x ox C (some (dictOf es n))) (hga : findIn K (.ref C) "__getattribute__" = some (some (.builtin "list.__getattribute__"))) (hk : findIn K (.ref C) "__getattr__" = some none) (hm : mroIn K C (.type "list") = some true)
    (hh : hasDictIn K C = true) (ha : findIn K (.ref C) name = some (some (.ref f))) (hf : isFn K (.ref f) = true) (hgf : specialIn K (.ref f) "__get__" = some (some (.builtin "function.__get__"))) (ht : takesIn K (.ref f) = some false) (hc : copiedNames.contains name = false) (hl : getL name es = some none)
    (h : ∀ q h', Fr h₀ L h' m → News h₀ L h' ((q, methodObj (.ref f) (.ref x)) :: news) → (∀ p ∈ news, p.1 < q) → Q (.ref q) { s with heap := h', toks := s.toks + 1 }) : wpAny (model prog w) A (getAttr (.ref x) name expr) Q E s := by
  have X := X₀.keeps F.keep
  have hfo := findObj_fn hh ha hgf ht hc (show lookIn name (dictOf es n) = some none by rw [lookIn_dict, hl])
  obtain ⟨sh, sg, sd, st, so⟩ := s
  have L0 := I.type (M := model prog w)
  have L1 := looks_findIn (M := model prog w) X hga
  have L2 := looks_findIn (M := model prog w) X hk
  unfold getAttr getAttrBy
  refine wpAny_bind (wpAny_mkText (wpAny_holding (wpAny_bind (L0.at (wpAny_bind (L1.at ?_))))))
  show wpAny _ _ (getAttrByItsOwn (.ref x) (.str name st) (.ref C) (.builtin "list.__getattribute__") true expr) _ _ _
  unfold getAttrByItsOwn hookBefore callGetattribute boundAndCalled
  rw [if_pos (show onTheHeap (.ref C) = true from rfl)]
  refine wpAny_bind (L2.at ?_)
  rw [if_neg (show ¬ (expr && onTheHeap (.builtin "list.__getattribute__")) = true by cases expr <;> decide)]
  refine wpAny_bind (wpAny_attempt (wpAny_holding ?_))
  refine wpAny_bind (wpAny_of_eq (PySem.F.slot_list_getattribute.bind _) ?_)
  refine call_bi (n := "__getattribute__") (s := ⟨sh, sg, sd, st + 1, so⟩) X I hm (by first | exact .inl (by decide +kernel) | exact .inr (by decide +kernel)) (by decide +kernel) (by decide +kernel) PySem.F.entry_list_ga (PySem.F.args_list_getattribute_2 _ _) ?_
  unfold Builtin.«object.__getattribute__»
  refine wpAny_bind (wpAny_of_eq (a := (.ref x, [.str name st])) (by first | rfl | kernel_rfl) ?_)
  dsimp only
  refine wpAny_bind (wpAny_of_eq (a := name) (by first | rfl | kernel_rfl) ?_)
  refine wpAny_bind (L0.at (wpAny_bind ((looks_find (M := model prog w) X I hfo).at ?_)))
  show wpAny _ _ (holding [.ref f] (call (.builtin "function.__get__") [.ref f, .ref x, .ref C]) >>= ret) _ _ _
  refine wpAny_bind (wpAny_holding (wpAny_call (fn_get (s := ⟨sh, sg, sd, st + 1, so⟩) X (beq_iff_eq.mp hf) ?_)))
  refine wpAny_pure ⟨_, rfl, ?_⟩
  show wpAny _ _ (handedOut _) _ _ _
  exact handed_on rfl (h sh.objs.size _ (F.push _) (N.push F _) fun p hp => Heap.lt_size (N p hp).1)
end
section
variable {M : Model} {A : Around} {E : Value → Shared → Prop} {s : Shared} {K : Frag} {env : Env} {pos p : Pos} {first : List Value} {Q : Value → Shared → Prop} {e : PySem.Expr} {q g : Addr} {self : Value}
theorem callWith_MS (hf : fnIn K g = true) (h : wpAny M A (eval e env) (fun v s₁ => StarOf M A E v (fun vs s₂ => MethP K q g self s₂.heap ∧ wpAny M A (call (.ref q) (first ++ vs)) Q E s₂) s₁) E s)
    (he : starEach [.Starred e p] env = [(true, eval e env)] := by rfl) : wpAny M A (callWith pos (.ref q) first (backTo pos (starEach [.Starred e p] env)) []) Q E s := by
  rw [he]
  exact ks_call rfl (keeps_M hf) (ks_lone h)
end
theorem star_tup {prog : Program} {w : World} {A : Around} {E : Value → Shared → Prop} {s : Shared} {a : Addr} {vs : List Value} {n : Nat} {Q : List Value → Shared → Prop} (D : s.heap.get? a = some (tupOf vs n)) (hz : vs.length ≤ 1000000)
    (h : ∀ h', (∀ b o, s.heap.get? b = some o → h'.get? b = some o) → Q vs { s with heap := h' }) : StarOf (model prog w) A E (.ref a) Q s := by
  have hT' : s.TypeIs (.ref a) "tuple" := ⟨_, D, rfl⟩
  have z : wpAny (model prog w) A (collect (.ref a)) Q E s :=
    wpAny_collect_seq a (.inr rfl) D rfl rfl (fun h' hk => h h' hk) (by rw [List.size_toArray, sizeLine_eq]; omega)
  unfold StarOf notIterableAtAll
  exact wpAny_bind (wpAny_specialOf hT' PySem.F.slot_tuple_iter.lookup (wpAny_pure ⟨rfl, z⟩))
section
variable {M : Model} {A : Around} {E : Value → Shared → Prop} {s : Shared} {env : Env} {apos pos p : Pos} {Q : Value → Shared → Prop} {o e : PySem.Expr} {name : Str}
/-- o.name(*e): the attribute is loaded -/
theorem star_method (h : wpAny M A (eval o env) (fun ov s₁ => wpAny M A (getAttr ov name true) (fun f s₂ => wpAny M A (callWith pos f [] (backTo pos (starEach [.Starred e p] env)) []) Q E s₂) E s₁) E s)
    (hbase : attributeBase o name env (eval o env) = eval o env := by rfl)
    (hfew : methodCallForm (([.Starred e p] : List PySem.Expr).length + ([] : List Keyword).length) (backTo pos (starEach [.Starred e p] env)) (backToKw pos (keywordEach [] env)) = false := by rfl) :
    wpAny M A (eval (.Call (.Attribute o name apos) [.Starred e p] [] pos) env) Q E s := by
  rw [arm_eval_Call, hbase]
  refine wpAny_bind (wpAny_mono h (fun ov s₁ h₁ => ?_) fun _ _ z => z)
  refine wpAny_bind (wpAny_standAt ?_)
  unfold methodCall
  rw [hfew]
  refine wpAny_bind (wpAny_holding ?_)
  unfold calleeOf
  rw [if_neg (by decide)]
  refine wpAny_bind (wpAny_mono h₁ (fun f s₂ h₂ => wpAny_pure ?_) fun _ _ z => z)
  refine wpAny_bind ?_
  unfold methodCallPos
  rw [if_pos (by rfl)]
  exact wpAny_pure h₂
end
end Mine
namespace Mine
section
variable {prog : Program} {w : World} {A : Around} {s : Shared} {env : Env} {x : Str} {px pos : Pos} {iter : PySem.Expr} {body orelse : List Stmt} {Q : Flow → Shared → Prop}
/-- what a turn of a for loop may end in: the next item, a break, a return -/
def ForP (I : Nat → Shared → Prop) (Q : Flow → Shared → Prop) (n : Nat) (f : Flow) (s' : Shared) : Prop := match f with
  | .next | .cont => ∃ m, m < n ∧ I m s'
  | .brk => Q .next s'
  | .ret v => Q (.ret v) s'
theorem ForP.next {I : Nat → Shared → Prop} {n : Nat} {s' : Shared} (m : Nat) (h : m < n) (i : I m s') : ForP I Q n .next s' := ⟨m, h, i⟩
theorem ForP.cont {I : Nat → Shared → Prop} {n : Nat} {s' : Shared} (m : Nat) (h : m < n) (i : I m s') : ForP I Q n .cont s' := ⟨m, h, i⟩
/-- a for loop over one name: I n holds with n turns to come (or so), the iterator gives an item or is done -/
theorem for_D (h : wpAny (model prog w) A (eval iter env) (fun xv s₁ => wpAny (model prog w) A (pyIter xv) (fun it s₂ => ∃ (I : Nat → Shared → Prop) (n : Nat), I n s₂ ∧
      ∀ n s, I n s → wpAny (model prog w) A (pyNext it) (fun r s₃ => match r with
        | none => wpAny (model prog w) A (execs orelse env) Q FF s₃
        | some v => wpAny (model prog w) A (storeName env x v) (fun _ s₄ => wpAny (model prog w) A (execs body env) (ForP I Q n) FF s₄) FF s₃) FF s) FF s₁) FF s)
    (hf : ∀ v, foldedSetIterable iter env v = pure v := by intro _; rfl) :
    wpAny (model prog w) A (exec (.For (.Name x px) iter body orelse pos) env) Q FF s := by
  refine wpAny_For (wpAny_mono h (fun xv s₁ h₁ => wpAny_mono h₁ (fun it s₂ h₂ => ?_) fun _ _ z => z.elim) fun _ _ z => z.elim) hf
  obtain ⟨I, n, hI, turn⟩ := h₂
  refine codeAny_forLoop I (fun n s hI => wpAny_mono (turn n s hI) (fun r s₃ h₃ => ?_) fun _ _ z => z.elim) n hI
  cases r with
  | none => exact wpAny_mono h₃ (fun f s' z => z) fun _ _ z => z.elim
  | some v =>
    refine wpAny_mono (wpAny_assign_Name h₃) (fun _ s₄ h₄ => ?_) fun _ _ z => z.elim
    refine wpAny_mono h₄ (fun f s₅ h₅ => ?_) fun _ _ z => z.elim
    cases f with
    | next => exact h₅
    | cont => exact h₅
    | brk => exact h₅
    | ret v => exact h₅
/-- what a turn of a walk may end in -/
def WkP (St : Nat → Heap → Prop) (J : Nat → Shared → Prop) (Q : Flow → Shared → Prop) (i : Nat) (f : Flow) (s' : Shared) : Prop := match f with
  | .next | .cont => St (i + 1) s'.heap ∧ J (i + 1) s'
  | .brk => Q .next s'
  | .ret v => Q (.ret v) s'
theorem WkP.next {St : Nat → Heap → Prop} {J : Nat → Shared → Prop} {i : Nat} {s' : Shared} (h : St (i + 1) s'.heap) (j : J (i + 1) s') : WkP St J Q i .next s' := ⟨h, j⟩
theorem WkP.cont {St : Nat → Heap → Prop} {J : Nat → Shared → Prop} {i : Nat} {s' : Shared} (h : St (i + 1) s'.heap) (j : J (i + 1) s') : WkP St J Q i .cont s' := ⟨h, j⟩
/-- a for loop over a walk of the kit: J i holds with i items gone -/
theorem for_W (h : wpAny (model prog w) A (eval iter env) (fun xv s₁ => wpAny (model prog w) A (pyIter xv) (fun it s₂ => ∃ (I : Addr) (fp wr : List Addr) (n : Nat) (P : Nat → Value → Prop) (St : Nat → Heap → Prop) (J : Nat → Shared → Prop), it = .ref I ∧ Walks prog w A I fp wr n P St ∧ St 0 s₂.heap ∧ J 0 s₂ ∧
      (∀ i s v h' tk, i < n → St i s.heap → J i s → P i v → St (i + 1) h' → (∀ b o, b ∉ wr → s.heap.get? b = some o → h'.get? b = some o) →
        wpAny (model prog w) A (storeName env x v) (fun _ s₄ => wpAny (model prog w) A (execs body env) (WkP St J Q i) FF s₄) FF { s with heap := h', toks := tk }) ∧
      (∀ s h' tk, J n s → (∀ b o, b ∉ wr → s.heap.get? b = some o → h'.get? b = some o) → wpAny (model prog w) A (execs orelse env) Q FF { s with heap := h', toks := tk })) FF s₁) FF s)
    (hf : ∀ v, foldedSetIterable iter env v = pure v := by intro _; rfl) :
    wpAny (model prog w) A (exec (.For (.Name x px) iter body orelse pos) env) Q FF s := by
  refine for_D (wpAny_mono h (fun xv s₁ h₁ => wpAny_mono h₁ (fun it s₂ h₂ => ?_) fun _ _ z => z) fun _ _ z => z) hf
  obtain ⟨I, fp, wr, n, P, St, J, rfl, W, hst, hj, turn, fin⟩ := h₂
  refine ⟨fun k s => ∃ i, k + i = n ∧ St i s.heap ∧ J i s, n, ⟨0, rfl, hst, hj⟩, ?_⟩
  rintro k s ⟨i, hk, hst, hj⟩
  by_cases hi : i < n
  · refine W.item i s _ _ hi hst fun v h' tk hP hst' hk' => ?_
    refine wpAny_mono (turn i s v h' tk hi hst hj hP hst' hk') (fun _ s₄ h₄ => wpAny_mono h₄ (fun f s₅ h₅ => ?_) fun _ _ z => z) fun _ _ z => z
    cases f with
    | next => exact ⟨k - 1, by omega, i + 1, by omega, h₅⟩
    | cont => exact ⟨k - 1, by omega, i + 1, by omega, h₅⟩
    | brk => exact h₅
    | ret v => exact h₅
  · have e : i = n := by omega
    subst e
    exact W.done s _ _ hst fun h' tk hk' => fin s h' tk hj hk'
end
end Mine
namespace Mine
/-- the end of a law whose run grows tables and leaves generators -/
theorem end_true {M : Model} {A : Around} {cd : Code} {s s₁ : Shared} {cw : ClaimW} {cl : Str → Option Addr} {mean : ExcName → Option Value} {args : List WData} {d : WData} {tabs : List (Addr × Addr)} (hT : TabsAt tabs s₁.heap)
    (hr : ∀ cls, cw.raises args cls = false) (hd : ∀ h' : Heap, ReadsW cw.records cl h' (.bool true) d []) (hp : cw.post args d args = true)
    (h : codeAny M A cd (fun r s' => r = .ok (.ret (.bool true)) ∧ (∀ b o, (ghostOf s₁.heap tabs).get? b = some o → s'.heap.get? b = some o) ∧ s'.os = s₁.os ∧ AllBare s'.gens ∧ GrownAll tabs s'.heap) s) : codeAny M A cd (GoodWG cw cl mean args s₁) s :=
  codeAny_mono h fun r s' ⟨hc, hk, hos, hg, hgr⟩ => by
    have keep : ∀ b o, b ∉ tabs.map (·.2) → s₁.heap.get? b = some o → s'.heap.get? b = some o := fun b o hb e => hk b o (ghost_ne e hb)
    have grown : ∀ b o, b ∈ tabs.map (·.2) → s₁.heap.get? b = some o → isCodeTable s₁.heap b ∧ o = tabObj #[] ∧ ∃ ps, s'.heap.get? b = some (tabObj ps) := fun b o hb e => by
      obtain ⟨q, hq, rfl⟩ := List.mem_map.mp hb
      have e2 := (hT q hq).2
      rw [e] at e2
      exact ⟨((hT q hq).1.tab (hT q hq).2).isCodeTable, Option.some.inj e2, hgr.get q hq⟩
    refine ⟨.inl ⟨_, d, [], hc, hr, hd _, hp, fun _ => ⟨List.nodup_nil, fun a ha => nomatch ha⟩⟩, ⟨fun b o e => ?_, fun b o e => ?_⟩, hos, hg⟩
    · by_cases hb : b ∈ tabs.map (·.2)
      · obtain ⟨ht, rfl, ps, hP⟩ := grown b o hb e
        exact .inr (.inl ⟨ht, rfl, #[], ps, rfl, by rw [Array.empty_append]; exact hP⟩)
      · exact .inl (keep b o hb e)
    · by_cases hb : b ∈ tabs.map (·.2)
      · obtain ⟨_, _, ps, hP⟩ := grown b o hb e
        exact ⟨_, hP⟩
      · exact ⟨o, keep b o hb e⟩
end Mine
namespace Mine
section
variable {prog : Program} {w : World} {A : Around} {E : Value → Shared → Prop} {s : Shared}
theorem args_issub (a b c : Value) : argsOk "issubclass.nested" ⟨[a, b, c], []⟩ := by unfold argsOk; kernel_rfl
theorem issub_in {dep : Int} {tk : Tok} {Q : Fin → Shared → Prop} (hq : Q (.done (.ret (.bool true))) s) :
    wpAny (model prog w) A (Builtin.«issubclass.nested» ⟨[.type "str", .type "str", .int dep tk], []⟩) Q E s := by
  have hm : (Value.type ((Manifest.find? "str").elim "type" (·.metatype)) == Value.type "type") = true := by decide +kernel
  have hself : isSubtype (.type "str") (.type "str") = pure true := by rw [isSubtype_type]; kernel_rfl
  repeat (any_goals (first | assumption | (rw [if_pos hm]) | (rw [hself]) | wp_step))
theorem issub_str_in {Q : Value → Shared → Prop} {dep : Int} {tk : Tok} (hq : Q (.bool true) s) : wpAny (model prog w) A (call (.builtin "issubclass.nested") [.type "str", .type "str", .int dep tk]) Q E s := by
  refine wpAny_call (codeAny_call_builtin (by decide +kernel) F.entry_issubclass_nested ?_)
  have kind : builtinKind "issubclass.nested" = none := by decide +kernel
  have fin : wpAny (model prog w) A.in1 (Builtin.«issubclass.nested» ⟨[.type "str", .type "str", .int dep tk], []⟩) (fun fin s' => match fin with
      | .done f => (match (Except.ok f : Result) with | .ok (.ret v) => Q v s' | .ok _ => False | .error e => E e s')
      | .again c' => c'.quiet = true ∧ codeAny (model prog w) A c' (fun (r : Result) s' => match r with | .ok (.ret v) => Q v s' | .ok _ => False | .error e => E e s') s') E s := issub_in hq
  simp only [checkBuiltinCall, kind]
  have ok := args_issub (.type "str") (.type "str") (.int dep tk)
  cases hsig : Manifest.signature? "issubclass.nested" with
  | none => exact wpAny_pure fin
  | some sig =>
    simp only [argsOk, hsig] at ok
    have h2 : Bind.checkArgs "issubclass.nested" sig ⟨[.type "str", .type "str", .int dep tk], []⟩ = pure () := ok
    show wpAny _ _ (Bind.checkArgs "issubclass.nested" sig _) _ _ s
    rw [h2]; exact wpAny_pure fin
theorem issub_tup {a : Addr} {n : Nat} {tk : Tok} {Q : Fin → Shared → Prop} (ha : s.heap.get? a = some (tupOf [.type "str", .type "bytes"] n)) (hq : Q (.done (.ret (.bool true))) s) :
    wpAny (model prog w) A (Builtin.«issubclass.nested» ⟨[.type "str", .ref a, .int 0 tk], []⟩) Q E s := by
  have hT : s.TypeIs (.ref a) "tuple" := ⟨_, ha, rfl⟩
  unfold Builtin.«issubclass.nested»
  refine wpAny_bind (wpAny_typeOf hT ?_)
  rw [if_neg (by decide)]
  unfold Builtin.Builtins.unionMembers
  refine wpAny_bind (wpAny_bind (wpAny_typeOf hT ?_))
  rw [if_neg (by decide)]
  refine wpAny_pure (wpAny_bind (wpAny_isInstance hT isSubtype_tuple_tuple ?_))
  rw [if_pos rfl]
  dsimp only
  rw [if_neg (by decide)]
  refine wpAny_bind (wpAny_seqItems ha rfl ?_)
  dsimp only [Option.getD]
  rw [← Array.forIn_toList]
  show wpAny _ _ (forIn [Value.type "str", Value.type "bytes"] _ _ >>= _) _ _ s
  rw [List.forIn_cons]
  refine wpAny_bind (wpAny_bind (wpAny_bind (issub_str_in ?_)))
  refine wpAny_bind (wpAny_truthy_bool ?_)
  rw [if_pos rfl]
  refine wpAny_bind (wpAny_pure (wpAny_pure ?_))
  dsimp only
  exact wpAny_pure (wpAny_pure hq)
theorem issub_call {a : Addr} {n : Nat} {Q : Value → Shared → Prop} (ha : s.heap.get? a = some (tupOf [.type "str", .type "bytes"] n)) (hq : Q (.bool true) s) : wpAny (model prog w) A (call (.builtin "issubclass") [.type "str", .ref a]) Q E s :=
  call_issubclass (S := fun _ R s => s.heap.get? a = some (tupOf [.type "str", .type "bytes"] n) ∧ R (.ok (.ret (.bool true))) s) (fun _ _ _ _ _ hs => issubclass_outer (issub_tup hs.1 hs.2)) ⟨ha, hq⟩
/-- a run that makes one object and then reads -/
theorem wp_peek1' {α : Type} {K : Frag} {M : Model} {Q : α → Shared → Prop} {o : Obj} {r : Addr → α} (X : K.In s.heap) 
    (q : Q (r s.heap.objs.size) { s with heap := s.heap.push o }) :
    ∀ (t : Sem α) (g : Addr → Option α), peek1 K ⟨M.prog, M.w.params⟩ t = some (o, g) → (∀ D, g D = some (r D)) → wpAny M A t Q E s := by
  intro t
  induction t with
  | rule _ k ih => intro g e hg Γ p hΓ; exact ih () g e hg Γ p hΓ
  | point _ k ih => intro g e hg Γ p hΓ; exact ih () g e hg Γ p hΓ
  | ask k ih => intro g e hg Γ p hΓ; exact ih _ g e hg Γ p hΓ
  | load a _ k ih =>
    intro g e hg Γ p hΓ
    simp only [peek1] at e
    split at e
    · rename_i ob ho; exact ⟨ob, X _ _ ho, ih ob g e hg Γ p hΓ⟩
    · cases e
  | alloc ob k _ =>
    intro g e hg
    have e : some (ob, fun D => peek K ⟨M.prog, M.w.params⟩ (k D)) = some (o, g) := e
    obtain ⟨e1, e2⟩ := Prod.mk.inj (Option.some.inj e)
    subst e1
    subst e2
    have X' : K.In (s.heap.push ob) := X.keeps fun b x hb => Heap.get?_push_of_some _ hb
    show wpAny M A (alloc ob >>= k) Q E s
    refine wpAny_bind (wpAny_alloc ?_)
    exact (Looks.of_peek (M := M) (h := s.heap.push ob) X' (hg s.heap.objs.size)).here (s := { s with heap := s.heap.push ob }) q
  | _ => intro g e; cases e
end
section
variable {prog : Program} {w : World} {K : Frag} {p : Program} {loose : List Str} {mean : ExcName → Option Value} {mg mb : Str → Option Value}
/-- a def with a starred parameter is entered: the rest of the arguments is a fresh tuple -/
theorem enterR {base : Heap} {dp un : Nat} {gd : Option (List Code)} {fr : List Env} {s : Shared} {R : Result → Shared → Prop} {name qual : Str} {params : Arguments} {body : List Stmt} {scope : Scope} {dV kV doc pm cdv ct oc : Value} {an od : Option Addr} {osl : Array (Option Value)} {f : Addr} {args : Args} {vs : List Value} {g₁ : Addr → Option (List (Str × Value))} (binds : Addr → List (Str × Value))
    (D : List (Addr × Obj)) (X : K.In base) (T : Top p loose mean mg mb base) (hS : base.StaysIn s.heap) (hD : ∀ q ∈ D, s.heap.get? q.1 = some q.2 ∧ base.get? q.1 = none)
    (ho : K.lookup f = some ⟨oc, od, .func (fnOf name qual params body scope dV kV doc pm an cdv ct), osl⟩) (hcd : codeIn K cdv qual = true) (hroom : dp < recursionLimit)
    (hv : args.pos.drop (params.posonlyargs.length + params.args.length) = vs)
    (hp : peek1 K ⟨prog, w.params⟩ (bindArgs (fnOf name qual params body scope dV kV doc pm an cdv ct) args) = some (({ cls := .type "tuple", data := .seq vs.toArray } : Obj), g₁))
    (hg : ∀ D, g₁ D = some (binds D)) (hloc : ∀ D, ∀ y ∈ binds D, scope.names.lookup y.1 = some .local)
    (h : ∀ P g L h₁ fr' tk, Fr g L h₁ (fun y => (binds P).reverse.lookup y) → News g L h₁ ((P, tupOf vs 0) :: D) → K.In g → Top p loose mean mg mb g → Keep (D.map Prod.fst) s.heap g → (∀ b o, s.heap.get? b = some o → b < L) → s.heap.get? P = none →
      wpAny (model prog w) (amb (dp + 1) (un + 3) gd fr') (execs body (envOf qual scope L f cdv)) (fun fl s' => R (.ok (.ret (match fl with | .ret v => v | _ => .none))) s') FF { s with heap := h₁, toks := tk })
    (hco : scope.isCoroutine = false) (hgen : scope.isGenerator = false) (hk : scope.kind = .function)
    (hcell : ∀ x ∈ scope.names, x.2 ≠ .cell) : codeAny (model prog w) (amb dp un gd fr) (.call (.ref f) args) R s := by
  have _ := hv
  have XS := X.keeps hS
  refine codeAny_call_function (fd := fnOf name qual params body scope dV kV doc pm an cdv ct) (body := body) hroom (XS _ _ ho) rfl hco hgen rfl (codeRec_of XS hcd) ?_
  refine wp_peek1' (o := ({ cls := .type "tuple", data := .seq vs.toArray } : Obj)) XS (r := binds) ?_ _ g₁ hp hg
  have T' := T.nolimit.keeps hS
  refine wpAny_newFunctionEnv (s := { s with heap := s.heap.push { cls := .type "tuple", data := .seq vs.toArray } }) hcell (hloc _) (fun h₁ hns hsb => ⟨(T'.keeps fun b o e => Heap.get?_push_of_some _ e).fresh _ hsb, codeAny_func ?_⟩) hk
  have st : base.StaysIn (hideAll s.heap (D.map Prod.fst)) := fun b o e => hideAll_get _ (hS b o e) fun q => by
    obtain ⟨q', hq, rfl⟩ := List.mem_map.mp q
    rw [(hD q' hq).2] at e; cases e
  have hk₁ : ∀ b o, (s.heap.push { cls := .type "tuple", data := .seq vs.toArray }).get? b = some o → h₁.get? b = some o := fun b o e => hsb.extBut b o (Nat.ne_of_lt (Heap.lt_size e)) (Heap.get?_push_of_some _ e)
  have up : ∀ b o, s.heap.get? b = some o → h₁.get? b = some o := fun b o e => hk₁ b o (Heap.get?_push_of_some _ e)
  have nP : s.heap.get? s.heap.objs.size = none := by
    cases e : s.heap.get? s.heap.objs.size with
    | none => rfl
    | some o => exact absurd (Heap.lt_size e) (Nat.lt_irrefl _)
  have lL : ∀ b o, s.heap.get? b = some o → b < (s.heap.push { cls := .type "tuple", data := .seq vs.toArray }).objs.size := fun b o e => Heap.lt_size (Heap.get?_push_of_some _ e)
  have sz : (s.heap.push { cls := .type "tuple", data := .seq vs.toArray }).objs.size = s.heap.objs.size + 1 := by simp [Heap.push]
  refine wpAny_mono (h s.heap.objs.size (hideAll s.heap (D.map Prod.fst)) _ h₁ _ _
    ⟨hns, fun b o e => up b o (of_hideAll _ e), ?_⟩
    (fun q hq => ?_) (X.keeps st) (T.keeps st) (fun b o hb e => hideAll_get _ e hb) (fun b o e => lL b o e) nP) (fun _ _ x => x) fun _ _ x => x.elim
  · rw [hideAll_size]
    dsimp only
    (clear hroom; omega)
  · rcases List.mem_cons.mp hq with rfl | hq
    · refine ⟨hk₁ _ _ (Heap.get?_push_at rfl rfl), ?_, ?_⟩
      · dsimp only
        rw [sz]
        exact Nat.ne_of_lt (Nat.lt_succ_self _)
      · cases e : (hideAll s.heap (D.map Prod.fst)).get? s.heap.objs.size with
        | none => rfl
        | some o => rw [of_hideAll _ e] at nP; cases nP
    · exact ⟨up _ _ (hD q hq).1, Nat.ne_of_lt (lL _ _ (hD q hq).1), hideAll_none _ (List.mem_map_of_mem (f := Prod.fst) hq)⟩
end
end Mine
namespace Mine
section
variable {prog : Program} {w : World} {A : Around} {s : Shared} {env : Env} {x : Str} {px pos : Pos} {iter : PySem.Expr} {body orelse : List Stmt} {Q : Flow → Shared → Prop}
/-- what a turn of a walk within a frame may end in -/
def LpP (g : Heap) (L : Addr) (s0 : Shared) (I : Addr) (oI : Obj) (fx : List (Addr × Obj)) (J : Nat → Array GenState → (Str → Option Value) → List (Addr × Obj) → Prop) (Q : Flow → Shared → Prop) (i : Nat) (f : Flow) (s' : Shared) : Prop := match f with
  | .next | .cont => ∃ h g' t m news, s' = { s0 with heap := h, gens := g', toks := t } ∧ Fr g L h m ∧ News g L h ((I, oI) :: (fx ++ news)) ∧ J (i + 1) g' m news
  | .brk => Q .next s'
  | .ret v => Q (.ret v) s'
theorem for_NE (g : Heap) (L : Addr) (s0 : Shared) (h : wpAny (model prog w) A (eval iter env) (fun xv s₁ => wpAny (model prog w) A (pyIter xv) (fun it s₂ => ∃ (fx : List (Addr × Obj)) (I : Addr) (n : Nat) (P : Nat → Value → Prop) (St : Nat → Heap → Prop) (ic : String) (J : Nat → Array GenState → (Str → Option Value) → List (Addr × Obj) → Prop),
      it = .ref I ∧ Walks prog w A I (I :: fx.map Prod.fst) [I] n P St ∧ (∀ i h, St i h → ∃ o, h.get? I = some o ∧ o.cls = .type ic) ∧ St 0 s₂.heap ∧ g.get? I = none ∧ I ≠ L ∧
      (∃ h g' t m news, s₂ = { s0 with heap := h, gens := g', toks := t } ∧ Fr g L h m ∧ News g L h (fx ++ news) ∧ J 0 g' m news) ∧ (∀ p ∈ fx, p.2.cls ≠ .type ic) ∧ (∀ i g' m news, J i g' m news → ∀ p ∈ news, p.2.cls ≠ .type ic) ∧
      (∀ i v h' g' tk m news oI, i < n → P i v → J i g' m news → Fr g L h' m → News g L h' ((I, oI) :: (fx ++ news)) →
        wpAny (model prog w) A (storeName env x v) (fun _ s₄ => wpAny (model prog w) A (execs body env) (LpP g L s0 I oI fx J Q i) FF s₄) FF { s0 with heap := h', gens := g', toks := tk }) ∧
      (∀ h' g' tk m news, J n g' m news → Fr g L h' m → News g L h' (fx ++ news) → wpAny (model prog w) A (execs orelse env) Q FF { s0 with heap := h', gens := g', toks := tk })) FF s₁) FF s)
    (hf : ∀ v, foldedSetIterable iter env v = pure v := by intro _; rfl) :
    wpAny (model prog w) A (exec (.For (.Name x px) iter body orelse pos) env) Q FF s := by
  refine for_W (wpAny_mono h (fun xv s₁ h₁ => wpAny_mono h₁ (fun it s₂ h₂ => ?_) fun _ _ z => z) fun _ _ z => z) hf
  obtain ⟨fx, I, n, P, St, ic, J, rfl, W, hic, st0, gI, IL, start, cfx, cJ, turn, fin⟩ := h₂
  refine ⟨I, _, _, n, P, St, fun i s' => ∃ h g' t m news, s' = { s0 with heap := h, gens := g', toks := t } ∧ Fr g L h m ∧ News g L h (fx ++ news) ∧ J i g' m news ∧ ∃ o, h.get? I = some o ∧ o.cls = .type ic, rfl, W, st0, ?_, ?_, ?_⟩
  · obtain ⟨h, g', t, m, news, rfl, F, N, j⟩ := start
    exact ⟨h, g', t, m, news, rfl, F, N, j, hic _ _ st0⟩
  · rintro i s5 v h' tk hi st ⟨h, g', t, m, news, rfl, F, N, j, oo, eo, co⟩ hv st' kk
    dsimp only at kk eo st
    have off : ∀ p ∈ fx ++ news, p.1 ∉ [I] := fun p hp hb => by
      have e := (N p hp).1
      rw [List.mem_singleton.mp hb, eo] at e
      have e2 : oo = p.2 := Option.some.inj e
      rcases List.mem_append.mp hp with hp | hp
      · exact cfx p hp (e2 ▸ co)
      · exact cJ _ _ _ _ j p hp (e2 ▸ co)
    have F' := Mine.Fr.kept (h' := h') (D := [I]) F (fun b ob hb e => kk b ob hb e) (fun b hb => by rw [List.mem_singleton.mp hb]; exact gI) (fun hb => IL (List.mem_singleton.mp hb).symm)
    have N' := News.kept (h' := h') (D := [I]) N (fun b ob hb e => kk b ob hb e) off
    obtain ⟨oI, eI, cI⟩ := hic _ _ st'
    have N2 : News g L h' ((I, oI) :: (fx ++ news)) := News.cons N' eI gI IL
    refine wpAny_mono (turn i v h' g' tk m news oI hi hv j F' N2) (fun _ s₄ h₄ => wpAny_mono h₄ (fun f s₅ h₅ => ?_) fun _ _ z => z) fun _ _ z => z
    have go : (∃ h g' t m news, s₅ = { s0 with heap := h, gens := g', toks := t } ∧ Fr g L h m ∧ News g L h ((I, oI) :: (fx ++ news)) ∧ J (i + 1) g' m news) →
        St (i + 1) s₅.heap ∧ ∃ h g' t m news, s₅ = { s0 with heap := h, gens := g', toks := t } ∧ Fr g L h m ∧ News g L h (fx ++ news) ∧ J (i + 1) g' m news ∧ ∃ o, h.get? I = some o ∧ o.cls = .type ic := by
      rintro ⟨h9, g9, t9, m9, news9, rfl, F9, N9, j9⟩
      refine ⟨W.frame _ _ _ st' fun b hb o ho => ?_, h9, g9, t9, m9, news9, rfl, F9, fun p hp => N9 p (.tail _ hp), j9, oI, (N9 _ (.head _)).1, cI⟩
      rcases List.mem_cons.mp hb with rfl | hb
      · rw [eI] at ho; cases ho
        exact (N9 _ (.head _)).1
      · obtain ⟨p, hp, rfl⟩ := List.mem_map.mp hb
        have e1 := (N2 p (.tail _ (List.mem_append_left _ hp))).1
        rw [e1] at ho; cases ho
        exact (N9 p (.tail _ (List.mem_append_left _ hp))).1
    cases f with
    | next => exact go h₅
    | cont => exact go h₅
    | brk => exact h₅
    | ret v => exact h₅
  · rintro s5 h' tk ⟨h, g', t, m, news, rfl, F, N, j, oo, eo, co⟩ kk
    dsimp only at kk eo
    have off : ∀ p ∈ fx ++ news, p.1 ∉ [I] := fun p hp hb => by
      have e := (N p hp).1
      rw [List.mem_singleton.mp hb, eo] at e
      have e2 : oo = p.2 := Option.some.inj e
      rcases List.mem_append.mp hp with hp | hp
      · exact cfx p hp (e2 ▸ co)
      · exact cJ _ _ _ _ j p hp (e2 ▸ co)
    have F' := Mine.Fr.kept (h' := h') (D := [I]) F (fun b ob hb e => kk b ob hb e) (fun b hb => by rw [List.mem_singleton.mp hb]; exact gI) (fun hb => IL (List.mem_singleton.mp hb).symm)
    have N' := News.kept (h' := h') (D := [I]) N (fun b ob hb e => kk b ob hb e) off
    exact fin h' g' tk m news j F' N'
theorem for_N (g : Heap) (L : Addr) (s0 : Shared) (fx : List (Addr × Obj)) (h : wpAny (model prog w) A (eval iter env) (fun xv s₁ => wpAny (model prog w) A (pyIter xv) (fun it s₂ => ∃ (I : Addr) (n : Nat) (P : Nat → Value → Prop) (St : Nat → Heap → Prop) (ic : String) (J : Nat → Array GenState → (Str → Option Value) → List (Addr × Obj) → Prop),
      it = .ref I ∧ Walks prog w A I (I :: fx.map Prod.fst) [I] n P St ∧ (∀ i h, St i h → ∃ o, h.get? I = some o ∧ o.cls = .type ic) ∧ St 0 s₂.heap ∧ g.get? I = none ∧ I ≠ L ∧
      (∃ h g' t m news, s₂ = { s0 with heap := h, gens := g', toks := t } ∧ Fr g L h m ∧ News g L h (fx ++ news) ∧ J 0 g' m news) ∧ (∀ p ∈ fx, p.2.cls ≠ .type ic) ∧ (∀ i g' m news, J i g' m news → ∀ p ∈ news, p.2.cls ≠ .type ic) ∧
      (∀ i v h' g' tk m news oI, i < n → P i v → J i g' m news → Fr g L h' m → News g L h' ((I, oI) :: (fx ++ news)) →
        wpAny (model prog w) A (storeName env x v) (fun _ s₄ => wpAny (model prog w) A (execs body env) (LpP g L s0 I oI fx J Q i) FF s₄) FF { s0 with heap := h', gens := g', toks := tk }) ∧
      (∀ h' g' tk m news, J n g' m news → Fr g L h' m → News g L h' (fx ++ news) → wpAny (model prog w) A (execs orelse env) Q FF { s0 with heap := h', gens := g', toks := tk })) FF s₁) FF s)
    (hf : ∀ v, foldedSetIterable iter env v = pure v := by intro _; rfl) :
    wpAny (model prog w) A (exec (.For (.Name x px) iter body orelse pos) env) Q FF s :=
  for_NE g L s0 (wpAny_mono h (fun _ _ h₁ => wpAny_mono h₁ (fun _ _ h₂ => ⟨fx, h₂⟩) fun _ _ z => z) fun _ _ z => z) hf
theorem LpP.next {g : Heap} {L : Addr} {s0 : Shared} {I : Addr} {oI : Obj} {fx : List (Addr × Obj)} {J : Nat → Array GenState → (Str → Option Value) → List (Addr × Obj) → Prop} {i : Nat} {h : Heap} {g' : Array GenState} {t : Nat} {m : Str → Option Value} {news : List (Addr × Obj)}
    (F : Fr g L h m) (N : News g L h ((I, oI) :: (fx ++ news))) (j : J (i + 1) g' m news) : LpP g L s0 I oI fx J Q i .next { s0 with heap := h, gens := g', toks := t } := ⟨h, g', t, m, news, rfl, F, N, j⟩
theorem LpP.cont {g : Heap} {L : Addr} {s0 : Shared} {I : Addr} {oI : Obj} {fx : List (Addr × Obj)} {J : Nat → Array GenState → (Str → Option Value) → List (Addr × Obj) → Prop} {i : Nat} {h : Heap} {g' : Array GenState} {t : Nat} {m : Str → Option Value} {news : List (Addr × Obj)}
    (F : Fr g L h m) (N : News g L h ((I, oI) :: (fx ++ news))) (j : J (i + 1) g' m news) : LpP g L s0 I oI fx J Q i .cont { s0 with heap := h, gens := g', toks := t } := ⟨h, g', t, m, news, rfl, F, N, j⟩
/-- a for loop over a list that stands among the frame's things -/
theorem for_list (g : Heap) (L : Addr) (l : Addr) (vs : List Value) (k : Nat) {m₀ : Str → Option Value} {news₀ : List (Addr × Obj)} (J : Nat → Array GenState → (Str → Option Value) → List (Addr × Obj) → Prop) (hh : A.handled = none)
    (F : Fr g L s.heap m₀) (N : News g L s.heap ((l, listOf vs.toArray k) :: news₀)) (h0 : J 0 s.gens m₀ news₀) (cJ : ∀ i g' m news, J i g' m news → ∀ p ∈ news, p.2.cls ≠ .type "list_iterator")
    (he : wpAny (model prog w) A (eval iter env) (fun v s' => v = .ref l ∧ s' = s) FF s)
    (turn : ∀ i v h' g' tk m news oI, vs[i]? = some v → J i g' m news → Fr g L h' m → News g L h' ((s.heap.objs.size, oI) :: (l, listOf vs.toArray k) :: news) → (∀ p ∈ (l, listOf vs.toArray k) :: news₀, p.1 < s.heap.objs.size) →
        wpAny (model prog w) A (storeName env x v) (fun _ s₄ => wpAny (model prog w) A (execs body env) (LpP g L s s.heap.objs.size oI [(l, listOf vs.toArray k)] J Q i) FF s₄) FF { s with heap := h', gens := g', toks := tk })
    (fin : ∀ h' g' tk m news, J vs.length g' m news → Fr g L h' m → News g L h' ((l, listOf vs.toArray k) :: news) → wpAny (model prog w) A (execs orelse env) Q FF { s with heap := h', gens := g', toks := tk })
    (hf : ∀ v, foldedSetIterable iter env v = pure v := by intro _; rfl) :
    wpAny (model prog w) A (exec (.For (.Name x px) iter body orelse pos) env) Q FF s := by
  refine for_N g L s [(l, listOf vs.toArray k)] (wpAny_mono he (fun xv s₁ h₁ => ?_) fun _ _ z => z) hf
  obtain ⟨rfl, rfl⟩ := h₁
  have hl : s₁.heap.IsList l vs.toArray := ⟨_, (N _ (.head _)).1, rfl, _, rfl⟩
  have hlt : l < s₁.heap.objs.size := Heap.lt_size (N _ (.head _)).1
  refine wpAny_pyIter_list hl ?_
  obtain ⟨F', N', l'⟩ := ks_newsPush (s := s₁) (o := { cls := .type "list_iterator", data := .fields #[.ref l, .int 0 0] }) F N rfl (Heap.get?_push_at rfl rfl) (fun b o e => Heap.get?_push_of_some _ e)
  refine ⟨_, vs.toArray.size, _, _, "list_iterator", J, rfl, Walks.list hh s₁.heap.objs.size l (Nat.ne_of_lt hlt) vs.toArray, fun i h st => ?_, ⟨⟨_, Heap.get?_push_at rfl rfl, rfl, rfl⟩, ⟨_, (N' _ (.tail _ (.head _))).1, rfl, _, rfl⟩⟩, (N' _ (.head _)).2.2, (N' _ (.head _)).2.1, ⟨_, s₁.gens, s₁.toks, m₀, news₀, rfl, F', fun p hp => N' p (.tail _ hp), h0⟩, ?_, cJ, ?_, ?_⟩
  · obtain ⟨⟨o, e, c, -⟩, -⟩ := st
    exact ⟨o, e, c⟩
  · intro p hp
    rw [List.mem_singleton.mp hp]
    simp
  · intro i v h' g' tk m news oI hi hv j F2 N2
    exact turn i v h' g' tk m news oI (by simpa using hv) j F2 N2 l'
  · intro h' g' tk m news j F2 N2
    exact fin h' g' tk m news (by simpa using j) F2 N2
/-- a for loop over a tuple that stands among the frame's things -/
theorem for_tup (g : Heap) (L : Addr) (l : Addr) (vs : List Value) (k : Nat) {m₀ : Str → Option Value} {news₀ : List (Addr × Obj)} (J : Nat → Array GenState → (Str → Option Value) → List (Addr × Obj) → Prop) (hh : A.handled = none)
    (F : Fr g L s.heap m₀) (N : News g L s.heap ((l, tupOf vs k) :: news₀)) (h0 : J 0 s.gens m₀ news₀) (cJ : ∀ i g' m news, J i g' m news → ∀ p ∈ news, p.2.cls ≠ .type "tuple_iterator")
    (he : wpAny (model prog w) A (eval iter env) (fun v s' => v = .ref l ∧ s' = s) FF s)
    (turn : ∀ i v h' g' tk m news oI, vs[i]? = some v → J i g' m news → Fr g L h' m → News g L h' ((s.heap.objs.size, oI) :: (l, tupOf vs k) :: news) → (∀ p ∈ (l, tupOf vs k) :: news₀, p.1 < s.heap.objs.size) →
        wpAny (model prog w) A (storeName env x v) (fun _ s₄ => wpAny (model prog w) A (execs body env) (LpP g L s s.heap.objs.size oI [(l, tupOf vs k)] J Q i) FF s₄) FF { s with heap := h', gens := g', toks := tk })
    (fin : ∀ h' g' tk m news, J vs.length g' m news → Fr g L h' m → News g L h' ((l, tupOf vs k) :: news) → wpAny (model prog w) A (execs orelse env) Q FF { s with heap := h', gens := g', toks := tk })
    (hf : ∀ v, foldedSetIterable iter env v = pure v := by intro _; rfl) :
    wpAny (model prog w) A (exec (.For (.Name x px) iter body orelse pos) env) Q FF s := by
  refine for_N g L s [(l, tupOf vs k)] (wpAny_mono he (fun xv s₁ h₁ => ?_) fun _ _ z => z) hf
  obtain ⟨rfl, rfl⟩ := h₁
  have hl : s₁.heap.IsTuple l vs.toArray := ⟨_, (N _ (.head _)).1, rfl, _, rfl⟩
  have hlt : l < s₁.heap.objs.size := Heap.lt_size (N _ (.head _)).1
  refine wpAny_pyIter_tuple hl ?_
  obtain ⟨F', N', l'⟩ := ks_newsPush (s := s₁) (o := { cls := .type "tuple_iterator", data := .fields #[.ref l, .int 0 0] }) F N rfl (Heap.get?_push_at rfl rfl) (fun b o e => Heap.get?_push_of_some _ e)
  refine ⟨_, vs.toArray.size, _, _, "tuple_iterator", J, rfl, Walks.tuple hh s₁.heap.objs.size l (Nat.ne_of_lt hlt) vs.toArray, fun i h st => ?_, ⟨⟨_, Heap.get?_push_at rfl rfl, rfl, rfl⟩, ⟨_, (N' _ (.tail _ (.head _))).1, rfl, _, rfl⟩⟩, (N' _ (.head _)).2.2, (N' _ (.head _)).2.1, ⟨_, s₁.gens, s₁.toks, m₀, news₀, rfl, F', fun p hp => N' p (.tail _ hp), h0⟩, ?_, cJ, ?_, ?_⟩
  · obtain ⟨⟨o, e, c, -⟩, -⟩ := st
    exact ⟨o, e, c⟩
  · intro p hp
    rw [List.mem_singleton.mp hp]
    simp
  · intro i v h' g' tk m news oI hi hv j F2 N2
    exact turn i v h' g' tk m news oI (by simpa using hv) j F2 N2 l'
  · intro h' g' tk m news j F2 N2
    exact fin h' g' tk m news (by simpa using j) F2 N2
end
end Mine
namespace Mine
section
variable {prog : Program} {w : World} {A : Around} {E : Value → Shared → Prop} {s : Shared} {a : Addr} {vs : List Value} {n : Nat} {y : Value}
theorem truthy_li0 {Q : Bool → Shared → Prop} (ha : s.heap.get? a = some (listOf ([] : List Value).toArray n)) (h : ∀ k, Q false { s with toks := k }) : wpAny (model prog w) A (truthy (.ref a)) Q E s :=
  wpAny_truthy_list (items := ([] : List Value).toArray) ⟨_, ha, rfl, _, rfl⟩ (by simp) (h _)
theorem truthy_li1 {Q : Bool → Shared → Prop} (ha : s.heap.get? a = some (listOf (vs ++ [y]).toArray n)) (hz : vs.length < 10000000) (h : ∀ k, Q true { s with toks := k }) : wpAny (model prog w) A (truthy (.ref a)) Q E s :=
  wpAny_truthy_list (items := (vs ++ [y]).toArray) ⟨_, ha, rfl, _, rfl⟩ (by rw [List.size_toArray, List.length_append, List.length_singleton]; omega) (by
    have e : (!(vs ++ [y]).toArray.isEmpty) = true := by simp
    rw [e]; exact h _)
theorem sub_last {value slice : PySem.Expr} {u : Tok} {Q : Value → Shared → Prop} (ha : s.heap.get? a = some (listOf (vs ++ [y]).toArray n)) (hz : vs.length < 10000000) (h : Q y s)
    (hs : subscripted slice false (.ref a) (.int (-1) u) = operate [.ref a, .int (-1) u] (getItem (.ref a) (.int (-1) u)) := by with_unfolding_all rfl) :
    wpAny (model prog w) A (subscriptTail value slice (.ref a) (.int (-1) u)) Q E s :=
  tail_any (PySem.IsL.isList (n := n) ha).typeIs slot_list_getitem.lookup (wpAny_getItem_list_neg (PySem.IsL.isList (n := n) ha) (by decide) (by rw [List.size_toArray, List.length_append, List.length_singleton]; omega) (by decide) (by
    have e : ((-1 : Int) + ((vs ++ [y]).toArray.size : Int)).toNat = vs.length := by rw [List.size_toArray, List.length_append, List.length_singleton]; omega
    rw [e, List.getElem?_toArray]; simp) h) hs
end
end Mine
namespace Mine
section
variable {prog : Program} {w : World} {A : Around} {E : Value → Shared → Prop} {s : Shared} {K : Frag} {C L : Addr} {h₀ : Heap} {m : Str → Option Value} {news : List (Addr × Obj)} {Q : Value → Shared → Prop}
/-- an instance of a plain class: its addresses are the next two -/
theorem call_clsS {pos : List Value} {kw : List (Str × Value)} {fI : Addr} (F : Fr h₀ L s.heap m) (X₀ : K.In h₀) (N : News h₀ L s.heap news) (hm : makesIn K C = true) (hi : findIn K (.ref C) "__init__" = some (some (.ref fI))) (hf : isFn K (.ref fI) = true)
    (h : ∀ x dx h', Fr h₀ L h' m → News h₀ L h' ((x, instObj C dx) :: (dx, dictOf [] 0) :: news) → (∀ p ∈ news, p.1 < dx) → dx < x → (∀ b o, s.heap.get? b = some o → b < dx) →
      codeAny (model prog w) (A.under (.builtin "type.__call__" ⟨.ref C :: pos, kw⟩)) (.call (.ref fI) ⟨.ref x :: pos, kw⟩) (InitBack x fun r s' => match r with | .ok (.ret v) => Q v s' | .ok _ => False | .error e => E e s') { s with heap := h' }) :
    wpAny (model prog w) A (call (.ref C) pos kw) Q E s := by
  have X := X₀.keeps F.keep
  obtain ⟨hh, g, d, t, os⟩ := s
  refine wpAny_call (make_core (makes_of X hm) (looks_findIn X hi) (fun self => bind_fn X self (beq_iff_eq.mp hf)) (.inl rfl) (h _ hh.objs.size _ ((F.push _).push _) ?_ (fun p hp => Heap.lt_size (N p hp).1) (Nat.lt_succ_self _) fun b o e => Heap.lt_size e))
  have := (N.push F emptyDict).push (F.push _) (instObj C hh.objs.size)
  rwa [Heap.size_push] at this
end
end Mine
namespace Mine
section
variable {prog : Program} {w : World} {A : Around} {E : Value → Shared → Prop} {s : Shared} {a b : Addr} {n n2 : Nat} {Q : Value → Shared → Prop}
theorem ne_nil0 (ha : s.heap.get? a = some (listOf ([] : List Value).toArray n)) (hb : s.heap.get? b = some (listOf ([] : List Value).toArray n2)) (hu : A.units < cLine) (h : Q (.bool false) s) : wpAny (model prog w) A (compareOp .NotEq (.ref a) (.ref b)) Q E s :=
  SeqAt.RcNeAt.lists (items := ([] : List Value).toArray) (items2 := ([] : List Value).toArray) (e := fun _ => true) ⟨_, ha, rfl, _, rfl⟩ ⟨_, hb, rfl, _, rfl⟩ rfl hu (fun j h1 => absurd h1 (Nat.not_lt_zero _)) prog w E Q h
theorem ne_nil1 {v : Value} {vs : List Value} (ha : s.heap.get? a = some (listOf (v :: vs).toArray n)) (hb : s.heap.get? b = some (listOf ([] : List Value).toArray n2)) (hu : A.units < cLine) (h : Q (.bool true) s) : wpAny (model prog w) A (compareOp .NotEq (.ref a) (.ref b)) Q E s :=
  SeqAt.RcNeAt.lists_lengths (items := (v :: vs).toArray) (items2 := ([] : List Value).toArray) ⟨_, ha, rfl, _, rfl⟩ ⟨_, hb, rfl, _, rfl⟩ (by simp) hu prog w E Q h
theorem eqAt_pv {u v : Value} {x y : Pv} (hx : IsPv u x) (hy : IsPv v y) (hk : x.isI = y.isI) : SeqAt.EqAt A s u v (decide (x = y)) := fun _ _ _ _ hq => eqBool_pv hx hy hk hq
theorem eqAt_pair {u v : Value} {p q r t : Int} (hx : TupAt s.heap u [.i p, .i q]) (hy : TupAt s.heap v [.i r, .i t]) (hu : A.units < cLine) : SeqAt.EqAt A s u v (decide (p = r ∧ q = t)) := by
  obtain ⟨a, us, na, rfl, ga, pa⟩ := hx
  obtain ⟨b, vs, nb, rfl, gb, pb⟩ := hy
  by_cases hab : a = b
  · subst hab
    rw [ga] at gb
    cases gb
    have e := pa.inj pb
    simp only [List.cons.injEq, Pv.i.injEq, and_true] at e
    rw [decide_eq_true e]
    exact SeqAt.EqAt.same _
  · refine SeqAt.EqAt.of_refs hab ?_
    cases pa with
    | @cons u0 d0 us0 ds0 h0 pa =>
    cases pa with
    | @cons u1 d1 us1 ds1 h1 pa =>
    cases pa with
    | nil =>
    cases pb with
    | @cons v0 e0 vs0 es0 k0 pb =>
    cases pb with
    | @cons v1 e1 vs1 es1 k1 pb =>
    cases pb with
    | nil =>
      have z := SeqAt.RcAt.tuples (A := A) (s := s) (items := [u0, u1].toArray) (items2 := [v0, v1].toArray) (e := fun j => if j = 0 then decide (p = r) else decide (q = t)) ⟨_, ga, rfl, _, rfl⟩ ⟨_, gb, rfl, _, rfl⟩ hu (fun j h1' h2' => by
        have hj : j = 0 ∨ j = 1 := by simp at h1'; (clear hu hab h2'; omega)
        rcases hj with rfl | rfl
        · have z := eqAt_pv (A := A.in1) (s := s) h0 k0 rfl
          simpa using z
        · have z := eqAt_pv (A := A.in1) (s := s) h1 k1 rfl
          simpa using z)
      have e : ((List.range (min [u0, u1].toArray.size [v0, v1].toArray.size)).all (fun j => if j = 0 then decide (p = r) else decide (q = t)) && [u0, u1].toArray.size == [v0, v1].toArray.size) = decide (p = r ∧ q = t) := by
        simp [List.range, List.range.loop]
      rw [e] at z
      exact z
open Classical in
theorem notin_pairs {vs : List Value} {ds : List (Int × Int)} {v : Value} {r t : Int} (ha : s.heap.get? a = some (listOf vs.toArray n)) (hA : AllAt (TupAt s.heap) vs (ds.map fun x => [.i x.1, .i x.2])) (hv : TupAt s.heap v [.i r, .i t]) (hu : A.in1.units < cLine)
    (h : Q (.bool (!ds.contains (r, t))) s) : wpAny (model prog w) A (compareOp .NotIn v (.ref a)) Q E s := by
  refine SeqAt.notIn_listAt (items := vs.toArray) (fun y => decide (TupAt s.heap y [.i r, .i t])) ⟨_, ha, rfl, _, rfl⟩ (fun y hy => ?_) ?_
  · have hy' : y ∈ vs := by simpa using hy
    obtain ⟨i, hi⟩ := List.getElem?_of_mem hy'
    obtain ⟨d, hd, td⟩ := hA.getV hi
    rw [List.getElem?_map] at hd
    cases e : ds[i]? with
    | none => rw [e] at hd; cases hd
    | some x =>
      rw [e] at hd
      have hd' : ([.i x.1, .i x.2] : List Pv) = d := Option.some.inj hd
      subst hd'
      have z := eqAt_pair (A := A.in1) td hv hu
      have e2 : decide (x.1 = r ∧ x.2 = t) = decide (TupAt s.heap y [.i r, .i t]) := by
        by_cases hc : x.1 = r ∧ x.2 = t
        · rw [decide_eq_true hc, decide_eq_true]
          obtain ⟨c1, c2⟩ := hc
          rw [← c1, ← c2]; exact td
        · rw [decide_eq_false hc, decide_eq_false]
          intro k
          obtain ⟨a1, us1, n1, e1, g1, p1⟩ := td
          obtain ⟨a2, us2, n2', e2, g2, p2⟩ := k
          rw [e1] at e2; cases e2
          rw [g1] at g2; cases g2
          have := p1.inj p2
          simp only [List.cons.injEq, Pv.i.injEq, and_true] at this
          exact hc this
      rw [← e2]; exact z
  · have e : vs.toArray.any (fun y => decide (TupAt s.heap y [.i r, .i t])) = ds.contains (r, t) := by
      rw [← Array.any_toList]
      show vs.any _ = _
      clear h ha
      induction ds generalizing vs with
      | nil => cases hA; rfl
      | cons d ds ih =>
        cases hA with
        | @cons y d' vs' ds' hd hA' =>
          rw [List.any_cons, List.contains_cons, ih hA']
          congr 1
          by_cases hc : (r, t) = d
          · subst hc
            rw [beq_self_eq_true, decide_eq_true]; exact hd
          · have : ((r, t) == d) = false := by simpa using hc
            rw [this, decide_eq_false]
            intro k
            obtain ⟨a1, us1, n1, e1, g1, p1⟩ := hd
            obtain ⟨a2, us2, n2', e2, g2, p2⟩ := k
            rw [e1] at e2; cases e2
            rw [g1] at g2; cases g2
            have q := p1.inj p2
            simp only [List.cons.injEq, Pv.i.injEq, and_true] at q
            exact hc (by rw [← q.1, ← q.2])
    rw [e]; exact h
theorem sub_slice {vs : List Value} {value slice : PySem.Expr} {sl : Addr} {lo hi : Option Int} {vl vu : Value} {ops : List Value} (ha : s.heap.get? a = some (listOf vs.toArray n)) (hs : s.heap.IsSliceOf sl vl vu .none) (pl : IsPart vl lo) (pu : IsPart vu hi) (hz : vs.length < 1000000)
    (h : Q (.ref s.heap.objs.size) { s with heap := s.heap.push (listOf (slicePick vs.toArray lo hi none) 0) })
    (hsub : subscripted slice false (.ref a) (.ref sl) = operate ops (getItem (.ref a) (.ref sl)) := by with_unfolding_all rfl) : wpAny (model prog w) A (subscriptTail value slice (.ref a) (.ref sl)) Q E s :=
  tail_any (PySem.IsL.isList (n := n) ha).typeIs slot_list_getitem.lookup (wpAny_getItem_list_slice (PySem.IsL.isList (n := n) ha) hs pl pu .none (by decide) h (by rw [List.size_toArray, sizeLine_eq]; omega)) hsub
end
end Mine
namespace Mine
section
variable {prog : Program} {w : World} {A : Around} {E : Value → Shared → Prop} {s : Shared} {a : Addr} {Q : Value → Shared → Prop}
theorem sub_sliceL {items : Array Value} {value slice : PySem.Expr} {sl : Addr} {lo hi : Option Int} {vl vu : Value} {ops : List Value} (hl : s.heap.IsList a items) (hs : s.heap.IsSliceOf sl vl vu .none) (pl : IsPart vl lo) (pu : IsPart vu hi) (hz : items.size ≤ sizeLine)
    (h : Q (.ref s.heap.objs.size) { s with heap := s.heap.push (listOf (slicePick items lo hi none) 0) })
    (hsub : subscripted slice false (.ref a) (.ref sl) = operate ops (getItem (.ref a) (.ref sl)) := by with_unfolding_all rfl) : wpAny (model prog w) A (subscriptTail value slice (.ref a) (.ref sl)) Q E s :=
  tail_any hl.typeIs slot_list_getitem.lookup (wpAny_getItem_list_slice hl hs pl pu .none (by decide) h hz) hsub
end
end Mine
namespace Mine
section
variable {prog : Program} {w : World} {A : Around} {E : Value → Shared → Prop} {a L : Addr} {Q : Value → Shared → Prop} {g h : Heap} {m : Str → Option Value} {news : List (Addr × Obj)} {gn : Array GenState} {d : Drawn} {tk : Nat} {os : OsState}
/-- a slice object, and the slice of a list by it -/
theorem slice_new {items : Array Value} {value slice : PySem.Expr} {lo hi : Option Int} {vl vu : Value} {ops : List Value} (F : Fr g L h m) (N : News g L h news) (hl : h.IsList a items) (pl : IsPart vl lo) (pu : IsPart vu hi) (hz : items.size ≤ sizeLine)
    (hc : ∀ q sl h', Fr g L h' m → News g L h' ((q, listOf (slicePick items lo hi none) 0) :: (sl, sliceO vl vu) :: news) → (∀ p ∈ news, p.1 < q) → Q (.ref q) ⟨h', gn, d, tk, os⟩)
    (hsub : subscripted slice false (.ref a) (.ref h.objs.size) = operate ops (getItem (.ref a) (.ref h.objs.size)) := by with_unfolding_all rfl) : wpAny (model prog w) A (subscriptTail value slice (.ref a) (.ref h.objs.size)) Q E ⟨h.push (sliceO vl vu), gn, d, tk, os⟩ := by
  obtain ⟨F2, N2, l2⟩ := ks_newsPush (s := ⟨h, gn, d, tk, os⟩) (o := sliceO vl vu) F N rfl (Heap.get?_push_at rfl rfl) (fun b o e => Heap.get?_push_of_some _ e)
  have hl2 : (h.push (sliceO vl vu)).IsList a items := let ⟨o, e, r⟩ := hl; ⟨o, Heap.get?_push_of_some _ e, r⟩
  refine sub_sliceL (s := ⟨h.push (sliceO vl vu), gn, d, tk, os⟩) hl2 ⟨_, (N2 _ (.head _)).1, rfl, rfl⟩ pl pu hz ?_ hsub
  obtain ⟨F3, N3, l3⟩ := ks_newsPush (s := ⟨h.push (sliceO vl vu), gn, d, tk, os⟩) (o := listOf (slicePick items lo hi none) 0) F2 N2 rfl (Heap.get?_push_at rfl rfl) (fun b o e => Heap.get?_push_of_some _ e)
  exact hc _ _ _ F3 N3 fun p hp => l3 p (.tail _ hp)
end
end Mine
namespace Mine
open PyProof.Rows.LCg
section
variable {prog : Program} {w : World} {A : Around} {E : Value → Shared → Prop} {h₀ : Heap} {L : Addr} {m : Str → Option Value} {env : Env} {elt : PySem.Expr} {x : Str} {scope : Scope} {cl : List (Str × Addr)} {s : Shared} {S : List (Addr × Obj) → Prop} {P : Nat → Value → Prop} {Fin : List Value → List (Addr × Obj) → Prop}
/-- a comprehension by an invariant over the items gone -/
theorem rest_of (n : Nat) (J : Nat → List Value → List (Addr × Obj) → Prop)
    (step : ∀ i v ys news I oI C oC D m₂ h tk (E' : Value → Shared → Prop), i < n → P i v → NsObj oC m₂ → m₂ x = some v → Fr h₀ L h m → News h₀ L h ((I, oI) :: (C, oC) :: (D, lst ys) :: news) → Off3 I C D news → ((@Ne Nat I C) ∧ (@Ne Nat I D) ∧ (@Ne Nat C D)) → J i ys news →
      wpAny (model prog w) A (eval elt (compEnvC scope cl C env)) (CompEnd h₀ L m { s with heap := h, toks := tk } I oI C oC D (lst ys) S (fun y news' => J (i + 1) (ys ++ [y]) news')) E' { s with heap := h, toks := tk })
    (fin : ∀ ys news, J n ys news → Fin ys news) : ∀ k i ys news, i + k = n → J i ys news → CompRest prog w A h₀ L m env elt x scope cl s S P Fin k i ys news
  | 0, i, ys, news, hk, j => by
    have e : i = n := by omega
    subst e
    exact CompRest.zero (fin _ _ j)
  | k + 1, i, ys, news, hk, j => CompRest.succ fun v I oI C oC D m₂ h tk E' hP hC hx F N off ne =>
    wpAny_mono (step i v ys news I oI C oC D m₂ h tk E' (by (clear ne; omega)) hP hC hx F N off ne j) (fun y s' hy => by
      obtain ⟨h', tk', news', e1, F', N', o', hS, hr⟩ := hy
      exact ⟨h', tk', news', e1, F', N', o', hS, rest_of n J step fin k (i + 1) _ _ (by (clear ne; omega)) hr⟩) fun _ _ z => z
/-- a comprehension's source: a list among the frame's things -/
theorem src_news {l : Addr} {vs : List Value} {k : Nat} {news : List (Addr × Obj)} {Fin' : Shared → List Value → List (Addr × Obj) → Prop} (J : Nat → List Value → List (Addr × Obj) → Prop)
    (hh : A.handled = none) (F : Fr h₀ L s.heap m) (N : News h₀ L s.heap news) (h0 : J 0 [] news) (hz : vs.length < 1000000)
    (hsrc : ∀ i ys nw, J i ys nw → (l, listOf vs.toArray k) ∈ nw)
    (step : ∀ i v ys nw I oI C oC D m₂ h tk (E' : Value → Shared → Prop), vs[i]? = some v → NsObj oC m₂ → m₂ x = some v → Fr h₀ L h m → News h₀ L h ((I, oI) :: (C, oC) :: (D, lst ys) :: nw) → Off3 I C D nw → ((@Ne Nat I C) ∧ (@Ne Nat I D) ∧ (@Ne Nat C D)) → J i ys nw →
      wpAny (model prog w) A (eval elt (compEnvC scope cl C env)) (CompEnd h₀ L m { s with heap := h, toks := tk } I oI C oC D (lst ys) (fun _ => True) (fun y nw' => J (i + 1) (ys ++ [y]) nw')) E' { s with heap := h, toks := tk })
    (fin : ∀ g ys nw, J vs.length ys nw → Fin' { s with heap := g } ys nw) :
    CompSrc prog w A h₀ L m env elt x scope cl Fin' (.ref l) s := by
  refine CompSrc.ledger (k := k) hh F N (hsrc _ _ _ h0) (by rw [List.size_toArray, sizeLine_eq]; omega) fun g9 => ?_
  refine rest_of (S := SrcAt h₀ l vs.toArray) vs.toArray.size J (fun i v ys nw I oI C oC D m₂ h tk E' hi hP hC hx' F' N' off ne j => ?_) (fun ys nw j => ?_) _ _ _ _ (by (clear hz; omega)) h0
  · refine wpAny_mono (step i v ys nw I oI C oC D m₂ h tk E' (by simpa using hP) hC hx' F' N' off ne j) (fun y s' hy => ?_) fun _ _ z => z
    obtain ⟨h', tk', news', e1, F2, N2, o2, -, hr⟩ := hy
    exact ⟨h', tk', news', e1, F2, N2, o2, .inr ⟨_, hsrc _ _ _ hr, rfl, _, rfl⟩, hr⟩
  · exact fin _ ys nw (by simpa using j)
/-- a comprehension's source whose steps leave the frame's things alone -/
theorem src_same {l : Addr} {vs : List Value} {k : Nat} {news : List (Addr × Obj)} {Fin' : Shared → List Value → List (Addr × Obj) → Prop} (J : Nat → List Value → Prop)
    (hh : A.handled = none) (F : Fr h₀ L s.heap m) (N : News h₀ L s.heap news) (h0 : J 0 []) (hz : vs.length < 1000000)
    (hsrc : (l, listOf vs.toArray k) ∈ news)
    (step : ∀ i v ys I oI C oC D m₂ h tk (E' : Value → Shared → Prop), vs[i]? = some v → NsObj oC m₂ → m₂ x = some v → Fr h₀ L h m → News h₀ L h ((I, oI) :: (C, oC) :: (D, lst ys) :: news) → Off3 I C D news → ((@Ne Nat I C) ∧ (@Ne Nat I D) ∧ (@Ne Nat C D)) → J i ys →
      wpAny (model prog w) A (eval elt (compEnvC scope cl C env)) (CompEnd h₀ L m { s with heap := h, toks := tk } I oI C oC D (lst ys) (fun _ => True) (fun y nw' => nw' = news ∧ J (i + 1) (ys ++ [y]))) E' { s with heap := h, toks := tk })
    (fin : ∀ g ys, J vs.length ys → Fin' { s with heap := g } ys news) :
    CompSrc prog w A h₀ L m env elt x scope cl Fin' (.ref l) s := by
  refine src_news (k := k) (fun i ys nw => nw = news ∧ J i ys) hh F N ⟨rfl, h0⟩ hz (fun i ys nw h => by rw [h.1]; exact hsrc) (fun i v ys nw I oI C oC D m₂ h tk E' hv hC hx F' N' off ne j => ?_) fun g ys nw j => ?_
  · obtain ⟨rfl, j⟩ := j
    exact step i v ys I oI C oC D m₂ h tk E' hv hC hx F' N' off ne j
  · obtain ⟨rfl, j⟩ := j
    exact fin g ys j
end
end Mine
namespace Mine
/-- the shapes at which the walk rests -/
inductive Stop : Prop → Prop
  | a {p w A a b c d e Q E s} : Stop (wpAny (model p w) A (exec (Stmt.While a b c d) e) Q E s)
  | b {p w A a b c d f e Q E s} : Stop (wpAny (model p w) A (exec (Stmt.For a b c d f) e) Q E s)
  | c {p w A a b c Q E s} : Stop (wpAny (model p w) A (call (Value.ref a) b c) Q E s)
  | d {p w A a b c d Q E s} : Stop (wpAny (model p w) A (call (Value.builtin a) (Value.ref b :: c) d) Q E s)
  | e {p w A a b c d Q E s} : Stop (wpAny (model p w) A (subscriptTail a b (Value.ref c) d) Q E s)
  | f {p w A a b c Q E s} : Stop (wpAny (model p w) A (setItem (Value.ref a) b c) Q E s)
  | g {a b c} : Stop (WhlIf a b c)
  | h {x y z A a b c d e f g i j k} : Stop (PyProof.Rows.LCg.CompSrc x y z A a b c d e f g i j k)
  | i {p w A a b c d e Q E s} : Stop (wpAny (model p w) A (eval (Expr.ListComp a b c d) e) Q E s)
  | j {p w A a b Q E s} : Stop (wpAny (model p w) A (binaryOp Operator.Mult (Value.ref a) b) Q E s)
  | k {p w A a b c d e f g Q E s} : Stop (wpAny (model p w) A (exec (Stmt.Assign a (Expr.ListComp b c d e) f) g) Q E s)
  | l {p w A a b c Q E s} : Stop (wpAny (model p w) A (compareOp a (Value.ref b) c) Q E s)
inductive StopT : Prop → Prop
  | a {p w A a Q E s} : StopT (wpAny (model p w) A (truthy (Value.ref a)) Q E s)
  | b {p w A a b c d Q E s} : StopT (wpAny (model p w) A (call (Value.type a) (Value.ref b :: c) d) Q E s)
theorem Stop.go {p : Prop} (_ : Stop p) (h : p) : p := h
theorem StopT.go {p : Prop} (_ : StopT p) (h : p) : p := h
theorem rm {a b k c : Nat} (h : a < b) (hc : Nat.ble (b + k) c = true) : a + k < c := Nat.lt_of_lt_of_le (Nat.add_lt_add_right h k) (Nat.le_of_ble_eq_true hc)
theorem rm0 {a b c : Nat} (h : a < b) (hc : Nat.ble b c = true) : a < c := Nat.lt_of_lt_of_le h (Nat.le_of_ble_eq_true hc)
end Mine
namespace Mine
abbrev GL : List Str := [Str.ofString "_wall", Str.ofString "NL", Str.ofString "EMPTYSTRING", Str.ofString "_ValueFormatter", Str.ofString "_Accumulator", Str.ofString "heappush", Str.ofString "heappop", Str.ofString "_siftdown", Str.ofString "_siftup", Str.ofString "_plain_name", Str.ofString "ABCMeta", Str.ofString "_ABCLike", Str.ofString "_abc_plain_meta", Str.ofString "fspath", Str.ofString "_check_arg_types", Str.ofString "_get_sep", Str.ofString "join", Str.ofString "split", Str.ofString "splitroot", Str.ofString "normpath", Str.ofString "_law_folded", Str.ofString "_law_least_width", Str.ofString "_law_read_from_the_end", Str.ofString "_law_rows_hold", Str.ofString "law"]
abbrev accObj (d : Addr) (vs : List Value) (n : Nat) : Obj := { cls := .ref 178, dict := some d, data := .seq vs.toArray n }
theorem accInst {g h : Heap} {L c d : Addr} {vs : List Value} {n : Nat} {od : Obj} {news : List (Addr × Obj)} (N : News g L h news) (h1 : (c, accObj d vs n) ∈ news) (h2 : (d, od) ∈ news) : InstAt h c (accObj d vs n) 178 (some od) :=
  ⟨(N _ h1).1, rfl, rfl, (N _ h2).1⟩
abbrev posLen : Pos := ⟨93, 19, 93, 63⟩
abbrev posStr : Pos := ⟨96, 32, 96, 90⟩
set_option genInjectivity false
set_option genSizeOf false
/-- what a formatter's dict holds -/
structure FK where
  (h1 h2 h3 h4 h5 h6 : Int)
  (t1 t2 t3 t4 t5 t6 : Tok)
  (mx : Int) (mt : Tok) (cw : Str) (cwt : Tok) (cl : Int) (clt : Tok) (sp : Str) (spt : Tok) (ln cu : Addr)
abbrev fmtE (q : FK) : List DictEntry := [⟨q.h1, .str (Str.ofString "_maxlen") q.t1, .int q.mx q.mt⟩, ⟨q.h2, .str (Str.ofString "_continuation_ws") q.t2, .str q.cw q.cwt⟩, ⟨q.h3, .str (Str.ofString "_continuation_ws_len") q.t3, .int q.cl q.clt⟩,
  ⟨q.h4, .str (Str.ofString "_splitchars") q.t4, .str q.sp q.spt⟩, ⟨q.h5, .str (Str.ofString "_lines") q.t5, .ref q.ln⟩, ⟨q.h6, .str (Str.ofString "_current_line") q.t6, .ref q.cu⟩]
theorem keep_none {D : List Addr} {h g : Heap} {a : Addr} (KP : Keep D h g) (hn : g.get? a = none) (ha : a ∉ D) : h.get? a = none := by
  cases e : h.get? a with
  | none => rfl
  | some o => have := KP a o ha e; rw [hn] at this; cases this
abbrev iniE (h : Int) (tk : Tok) (n : Int) (tn : Tok) : List DictEntry := [⟨h, .str (Str.ofString "_initial_size") tk, .int n tn⟩]
/-- a formatter in a heap: its dict, its rows, its current row -/
structure FAt (h : Heap) (f fd dC : Addr) (q : FK) (ls : List Value) (nl : Nat) (vs : List Value) (k : Nat) (hh : Int) (tk0 : Tok) (n : Int) (tn : Tok) (ps qs : Array Value) : Prop where
  af : h.get? f = some (instObj 94 fd)
  afd : h.get? fd = some (dictOf (fmtE q) 6)
  aln : h.get? q.ln = some (listOf ls.toArray nl)
  acu : h.get? q.cu = some (accObj dC vs k)
  adc : h.get? dC = some (dictOf (iniE hh tk0 n tn) 1)
  ap : h.get? 140 = some (tabObj ps)
  aq : h.get? 147 = some (tabObj qs)
  atp : TabOk posLen ps
  atq : TabOk posStr qs
/-- its addresses, in order, none of the base -/
structure FOff (base : Heap) (f fd dC : Addr) (q : FK) : Prop where
  bf : base.get? f = none
  bfd : base.get? fd = none
  bln : base.get? q.ln = none
  bcu : base.get? q.cu = none
  bdc : base.get? dC = none
  bp : base.get? 140 = none
  bq : base.get? 147 = none
  o1 : @LT.lt Nat _ 300 fd
  o2 : @LT.lt Nat _ fd f
  o3 : @LT.lt Nat _ f q.ln
  o4 : @LT.lt Nat _ q.ln dC
  o5 : @LT.lt Nat _ dC q.cu
set_option genInjectivity true
set_option genSizeOf true
abbrev fD (f fd dC : Addr) (q : FK) (ls : List Value) (nl : Nat) (vs : List Value) (k : Nat) (hh : Int) (tk0 : Tok) (n : Int) (tn : Tok) (ps qs : Array Value) : List (Addr × Obj) :=
  [(f, instObj 94 fd), (fd, dictOf (fmtE q) 6), (q.ln, listOf ls.toArray nl), (q.cu, accObj dC vs k), (dC, dictOf (iniE hh tk0 n tn) 1), (140, tabObj ps), (147, tabObj qs)]
theorem FAt.all {h base : Heap} {f fd dC : Addr} {q : FK} {ls : List Value} {nl : Nat} {vs : List Value} {k : Nat} {hh : Int} {tk0 : Tok} {n : Int} {tn : Tok} {ps qs : Array Value} (a : FAt h f fd dC q ls nl vs k hh tk0 n tn ps qs) (o : FOff base f fd dC q) :
    ∀ r ∈ fD f fd dC q ls nl vs k hh tk0 n tn ps qs, h.get? r.1 = some r.2 ∧ base.get? r.1 = none := fun r hr => by
  simp only [fD, List.mem_cons, List.not_mem_nil, or_false] at hr
  rcases hr with rfl | rfl | rfl | rfl | rfl | rfl | rfl
  · exact ⟨a.af, o.bf⟩
  · exact ⟨a.afd, o.bfd⟩
  · exact ⟨a.aln, o.bln⟩
  · exact ⟨a.acu, o.bcu⟩
  · exact ⟨a.adc, o.bdc⟩
  · exact ⟨a.ap, o.bp⟩
  · exact ⟨a.aq, o.bq⟩

local macro_rules | `(tactic| omega) => `(tactic| first | exact rm hdp rfl | exact rm _hu rfl | exact rm hu rfl | exact rm0 hdp rfl | exact rm0 _hu rfl | exact rm0 hu rfl | with_reducible exact Nat.ne_of_gt (by assumption) | with_reducible exact Nat.ne_of_lt (by assumption) | with_reducible exact Int.natCast_nonneg _)
set_option hygiene true
local macro_rules | `(tactic| k_inst) => `(tactic| exact accInst (by k_asm) (by k_mem) (by k_mem))
local macro_rules | `(tactic| walk_at "setAttr ref") => `(tactic| (k_here; k_dflt (refine' setL (by k_asm) (by k_asm) (by k_asm) (by exact accInst (by k_asm) (by k_mem) (by k_mem)) (by exact rfl) (by k_is) (by kernel_rfl) (by k_is) (by k_is) (by k_get) (by k_put) (by k_upd) (by exact Nat.le_of_ble_eq_true rfl) ?_); intro h' F' N'; (try k_sweep)))
local macro_rules | `(tactic| walk_at "getAttr ref") => `(tactic| (k_here; k_dflt (refine' get_ownL (by k_asm) (by k_asm) (by k_inst) (by k_is) (by k_is) (by k_is) (by k_is) (by k_is) (by k_is) (by k_get) (by k_handed) ?_)))
local macro_rules | `(tactic| walk_at "getMethod ref") => `(tactic| (k_here; first | k_dflt (refine' method_bi (by k_in) (by k_inst) (by k_is) (by k_is) (by k_is) ty_append (by exact rfl) ?_) | k_dflt (refine' method_fnL (by k_in) (by k_inst) (by k_is) (by k_is) (by k_is) (by k_is) (by exact rfl) ?_)))
local macro_rules | `(tactic| walk_at "eval Name") => `(tactic| ((with_reducible show wpAny _ _ (eval _ (genEnv _ _ _ _ _ _)) _ _ _); k_dflt (first
  | (refine' ldVarG (by k_asm) ?v ?_ (by rfl) (by rfl) (by decide); (case v => rfl))
  | (refine' genK (by k_asm) (by k_asm) (by exact topRead_of (by k_asm)) (by k_is) ?_ (by rfl) (by rfl) (by rfl) (by decide))
  | (refine' genB (by k_asm) (by k_asm) (by exact topRead_of (by k_asm)) (by k_is) (by boot_fast) (by decide) ?_ (by rfl) (by rfl) (by rfl) (by decide)))))
section
variable {h h' g base : Heap} {L f fd dC : Addr} {q : FK} {ls ls' : List Value} {nl nl' : Nat} {vs vs' : List Value} {k k' : Nat} {hh hh' : Int} {tk0 tk0' : Tok} {n n' : Int} {tn tn' : Tok} {ps qs ps' qs' : Array Value}
theorem FAt.of {news : List (Addr × Obj)} (N : News g L h news) (s : ∀ p ∈ fD f fd dC q ls nl vs k hh tk0 n tn ps qs, p ∈ news) (tp : TabOk posLen ps) (tq : TabOk posStr qs) : FAt h f fd dC q ls nl vs k hh tk0 n tn ps qs :=
  ⟨(N _ (s _ (.head _))).1, (N _ (s _ (.tail _ (.head _)))).1, (N _ (s _ (.tail _ (.tail _ (.head _))))).1, (N _ (s _ (.tail _ (.tail _ (.tail _ (.head _)))))).1, (N _ (s _ (.tail _ (.tail _ (.tail _ (.tail _ (.head _))))))).1,
    (N _ (s _ (.tail _ (.tail _ (.tail _ (.tail _ (.tail _ (.head _)))))))).1, (N _ (s _ (.tail _ (.tail _ (.tail _ (.tail _ (.tail _ (.tail _ (.head _))))))))).1, tp, tq⟩
theorem FAt.news {news : List (Addr × Obj)} (a : FAt h' f fd dC q ls' nl' vs' k' hh' tk0' n' tn' ps' qs') (N : News g L h news) (s : ∀ p ∈ fD f fd dC q ls nl vs k hh tk0 n tn ps qs, p ∈ news) : News g L h' (fD f fd dC q ls' nl' vs' k' hh' tk0' n' tn' ps' qs') := fun p hp => by
  simp only [fD, List.mem_cons, List.not_mem_nil, or_false] at hp
  rcases hp with rfl | rfl | rfl | rfl | rfl | rfl | rfl
  · exact ⟨a.af, (N _ (s _ (.head _))).2⟩
  · exact ⟨a.afd, (N _ (s _ (.tail _ (.head _)))).2⟩
  · exact ⟨a.aln, (N _ (s _ (.tail _ (.tail _ (.head _))))).2⟩
  · exact ⟨a.acu, (N _ (s _ (.tail _ (.tail _ (.tail _ (.head _)))))).2⟩
  · exact ⟨a.adc, (N _ (s _ (.tail _ (.tail _ (.tail _ (.tail _ (.head _))))))).2⟩
  · exact ⟨a.ap, (N _ (s _ (.tail _ (.tail _ (.tail _ (.tail _ (.tail _ (.head _)))))))).2⟩
  · exact ⟨a.aq, (N _ (s _ (.tail _ (.tail _ (.tail _ (.tail _ (.tail _ (.tail _ (.head _))))))))).2⟩
theorem FAt.up {D : List Addr} (a : FAt h f fd dC q ls nl vs k hh tk0 n tn ps qs) (x : Keep D h h') (hf : f ∉ D) (hfd : fd ∉ D) (e1 : h'.get? q.ln = some (listOf ls'.toArray nl')) (e2 : h'.get? q.cu = some (accObj dC vs' k')) (e3 : h'.get? dC = some (dictOf (iniE hh' tk0' n' tn') 1))
    (e4 : h'.get? 140 = some (tabObj ps')) (e5 : h'.get? 147 = some (tabObj qs')) (tp : TabOk posLen ps') (tq : TabOk posStr qs') : FAt h' f fd dC q ls' nl' vs' k' hh' tk0' n' tn' ps' qs' :=
  ⟨x _ _ hf a.af, x _ _ hfd a.afd, e1, e2, e3, e4, e5, tp, tq⟩
theorem FAt.grow (a : FAt h f fd dC q ls nl vs k hh tk0 n tn ps qs) (x : ∀ b o, h.get? b = some o → h'.get? b = some o) : FAt h' f fd dC q ls nl vs k hh tk0 n tn ps qs :=
  ⟨x _ _ a.af, x _ _ a.afd, x _ _ a.aln, x _ _ a.acu, x _ _ a.adc, x _ _ a.ap, x _ _ a.aq, a.atp, a.atq⟩
theorem FAt.cu' (a : FAt h f fd dC q ls nl vs k hh tk0 n tn ps qs) (o : FOff base f fd dC q) (x : Keep [q.cu] h h') (e : h'.get? q.cu = some (accObj dC vs' k')) : FAt h' f fd dC q ls nl vs' k' hh tk0 n tn ps qs := by
  obtain ⟨p1, p2, p3, p4, p5⟩ := (⟨o.o1, o.o2, o.o3, o.o4, o.o5⟩ : _ ∧ _ ∧ _ ∧ _ ∧ _)
  exact a.up x (off1 (by (clear p1 p2; omega))) (off1 (by (clear p1; omega))) (x _ _ (off1 (by (clear p1 p2 p3; omega))) a.aln) e (x _ _ (off1 (by (clear p1 p2 p3 p4; omega))) a.adc) (x _ _ (off1 (by omega)) a.ap) (x _ _ (off1 (by omega)) a.aq) a.atp a.atq
theorem FAt.p' (a : FAt h f fd dC q ls nl vs k hh tk0 n tn ps qs) (o : FOff base f fd dC q) (x : Keep [140] h h') (e : h'.get? 140 = some (tabObj ps')) (t : TabOk posLen ps') : FAt h' f fd dC q ls nl vs k hh tk0 n tn ps' qs := by
  obtain ⟨p1, p2, p3, p4, p5⟩ := (⟨o.o1, o.o2, o.o3, o.o4, o.o5⟩ : _ ∧ _ ∧ _ ∧ _ ∧ _)
  exact a.up x (off1 (by (clear p3 p4 p5; omega))) (off1 (by (clear p2 p3 p4 p5; omega))) (x _ _ (off1 (by (clear p4 p5; omega))) a.aln) (x _ _ (off1 (by omega)) a.acu) (x _ _ (off1 (by (clear p5; omega))) a.adc) e (x _ _ (off1 (by (clear p1 p2 p3 p4 p5; omega))) a.aq) t a.atq
theorem FAt.q' (a : FAt h f fd dC q ls nl vs k hh tk0 n tn ps qs) (o : FOff base f fd dC q) (x : Keep [147] h h') (e : h'.get? 147 = some (tabObj qs')) (t : TabOk posStr qs') : FAt h' f fd dC q ls nl vs k hh tk0 n tn ps qs' := by
  obtain ⟨p1, p2, p3, p4, p5⟩ := (⟨o.o1, o.o2, o.o3, o.o4, o.o5⟩ : _ ∧ _ ∧ _ ∧ _ ∧ _)
  exact a.up x (off1 (by (clear p3 p4 p5; omega))) (off1 (by (clear p2 p3 p4 p5; omega))) (x _ _ (off1 (by (clear p4 p5; omega))) a.aln) (x _ _ (off1 (by omega)) a.acu) (x _ _ (off1 (by (clear p5; omega))) a.adc) (x _ _ (off1 (by (clear p1 p2 p3 p4 p5; omega))) a.ap) e a.atp t
theorem FAt.pq' (a : FAt h f fd dC q ls nl vs k hh tk0 n tn ps qs) (o : FOff base f fd dC q) (x : Keep [140, 147] h h') (e : h'.get? 140 = some (tabObj ps')) (t : TabOk posLen ps') (e' : h'.get? 147 = some (tabObj qs')) (t' : TabOk posStr qs') : FAt h' f fd dC q ls nl vs k hh tk0 n tn ps' qs' := by
  obtain ⟨p1, p2, p3, p4, p5⟩ := (⟨o.o1, o.o2, o.o3, o.o4, o.o5⟩ : _ ∧ _ ∧ _ ∧ _ ∧ _)
  exact a.up x (off2 (by (clear p3 p4 p5; omega)) (by (clear p3 p4 p5; omega))) (off2 (by (clear p2 p3 p4 p5; omega)) (by (clear p2 p3 p4 p5; omega))) (x _ _ (off2 (by (clear p4 p5; omega)) (by (clear p4 p5; omega))) a.aln) (x _ _ (off2 (by omega) (by omega)) a.acu) (x _ _ (off2 (by (clear p5; omega)) (by (clear p5; omega))) a.adc) e e' t t'
theorem FAt.cd' (a : FAt h f fd dC q ls nl vs k hh tk0 n tn ps qs) (o : FOff base f fd dC q) (x : Keep [q.cu, dC] h h') (e : h'.get? q.cu = some (accObj dC vs' k')) (e' : h'.get? dC = some (dictOf (iniE hh' tk0' n' tn') 1)) : FAt h' f fd dC q ls nl vs' k' hh' tk0' n' tn' ps qs := by
  obtain ⟨p1, p2, p3, p4, p5⟩ := (⟨o.o1, o.o2, o.o3, o.o4, o.o5⟩ : _ ∧ _ ∧ _ ∧ _ ∧ _)
  exact a.up x (off2 (by (clear p1 p2; omega)) (by (clear p1 p2 p5; omega))) (off2 (by (clear p1; omega)) (by (clear p1 p5; omega))) (x _ _ (off2 (by (clear p1 p2 p3; omega)) (by (clear p1 p2 p3 p5; omega))) a.aln) e e' (x _ _ (off2 (by omega) (by (clear p5; omega))) a.ap) (x _ _ (off2 (by omega) (by (clear p5; omega))) a.aq) a.atp a.atq
abbrev fA (f fd dC : Addr) (q : FK) : List Addr := [f, fd, q.ln, q.cu, dC, 140, 147]
theorem fr_kept {m : Str → Option Value} {D : List Addr} {news : List (Addr × Obj)} (F : Fr g L h m) (N : News g L h news) (x : Keep D h h') (s : ∀ b ∈ D, ∃ o, (b, o) ∈ news) : Fr g L h' m :=
  Mine.Fr.kept F x (fun b hb => let ⟨o, ho⟩ := s b hb; (N _ ho).2.2) fun hb => let ⟨_, ho⟩ := s L hb; (N _ ho).2.1 rfl
theorem tup_kept {v : Value} {d : List Pv} {D : List Addr} {news : List (Addr × Obj)} (z : TupAt h v d) (x : Keep D h h') (N : News g L h news) (s : ∀ b ∈ D, ∃ o, (b, o) ∈ news ∧ o.cls ≠ .type "tuple") : TupAt h' v d :=
  z.kept x fun b hb o ho => let ⟨o', ho', hc⟩ := s b hb; by rw [(N _ ho').1] at ho; cases ho; exact hc
end
section
variable {M : Model} {A : Around} {E : Value → Shared → Prop} {Q : Flow → Shared → Prop} {s : Shared} {st : Stmt} {rest : List Stmt} {env : Env}
/-- two ways through one statement come together -/
theorem join_cons (J : Shared → Prop) (h1 : wpAny M A (exec st env) (fun fl s' => fl = .next ∧ J s') E s) (h2 : ∀ s', J s' → wpAny M A (execs rest env) Q E s') : wpAny M A (execs (st :: rest) env) Q E s := by
  rw [execs_cons]
  refine wpAny_bind (wpAny_mono h1 (fun fl s' h => ?_) fun _ _ z => z)
  obtain ⟨rfl, hj⟩ := h
  exact h2 s' hj
end
/-- where newline's two ways join -/
inductive NJ (g : Heap) (L : Addr) (m : Str → Option Value) (s : Shared) (f fd dC : Addr) (q : FK) (ls : List Value) (nl : Nat) (hh : Int) (tk0 : Tok) (n : Int) (tn : Tok) (ps qs : Array Value) (cs' : List (Str × Str)) : Shared → Prop
  | mk {h' : Heap} {tk' : Nat} {vs' : List Value} {k' : Nat} : Fr g L h' m → News g L h' (fD f fd dC q ls nl vs' k' hh tk0 n tn ps qs) → AllAt (TupAt h') vs' (cs'.map ckd) → NJ g L m s f fd dC q ls nl hh tk0 n tn ps qs cs' { s with heap := h', toks := tk' }
inductive StrsAre : List Value → List Str → Prop
  | nil : StrsAre [] []
  | cons {x : Str} {t : Tok} {vs : List Value} {xs : List Str} : StrsAre vs xs → StrsAre (.str x t :: vs) (x :: xs)
theorem StrsAre.snoc {vs : List Value} {xs : List Str} (h : StrsAre vs xs) (x : Str) (t : Tok) : StrsAre (vs ++ [.str x t]) (xs ++ [x]) := by
  induction h with
  | nil => exact .cons .nil
  | cons _ ih => exact .cons ih
theorem StrsAre.length {vs : List Value} {xs : List Str} (h : StrsAre vs xs) : vs.length = xs.length := by
  induction h with
  | nil => rfl
  | cons _ ih => simp [ih]
/-- what newline takes for the row: the last chunk put back but for a lone blank -/
def nlc (cs : List (Str × Str)) : List (Str × Str) := match cs.getLast? with
  | none => [(Str.ofString "", Str.ofString "")]
  | some e => if e = (Str.ofString " ", Str.ofString "") then cs.dropLast else cs
theorem nlc_snoc (cs : List (Str × Str)) (e : Str × Str) : nlc (cs ++ [e]) = if e = (Str.ofString " ", Str.ofString "") then cs else cs ++ [e] := by
  simp [nlc]
/-- newline's end: the row is laid down -/
inductive NJ2 (g : Heap) (L : Addr) (m : Str → Option Value) (s : Shared) (f fd dC : Addr) (q : FK) (hh : Int) (tk0 : Tok) (n : Int) (tn : Tok) (LS : List Str) (B : Nat) : Shared → Prop
  | mk {h' : Heap} {g' : Array GenState} {tk' : Nat} {ls' : List Value} {nl' : Nat} {vs' : List Value} {k' : Nat} {ps' qs' : Array Value} : Fr g L h' m → News g L h' (fD f fd dC q ls' nl' vs' k' hh tk0 n tn ps' qs') → TabOk posLen ps' → TabOk posStr qs' → AllBare g' → StrsAre ls' LS → vs'.length ≤ B →
      NJ2 g L m s f fd dC q hh tk0 n tn LS B { s with heap := h', gens := g', toks := tk' }
theorem StrsAre.values {vs : List Value} {xs : List Str} (h : StrsAre vs xs) : ∃ l : List (Str × Tok), vs = strValues l ∧ l.map (·.1) = xs := by
  induction h with
  | nil => exact ⟨[], rfl, rfl⟩
  | @cons x t _ _ _ ih =>
    obtain ⟨l, e1, e2⟩ := ih
    exact ⟨(x, t) :: l, by rw [e1]; rfl, by rw [← e2]; rfl⟩

/-- the search for the least width, in plain Lean -/
inductive Reach (S : Nat → Nat → Int) (n : Nat) : Int → Nat → Nat → Prop
  | z : Reach S n 0 0 0
  | s {w : Int} {d u e : Nat} : Reach S n w d u → d < e → e ≤ n → Reach S n (max w (S d e)) e (u + 1)
abbrev Tri := Int × Nat × Nat
structure SInv (S : Nat → Nat → Int) (n A : Nat) (O : List Tri) (Sd : List (Nat × Nat)) (cur : Int) : Prop where
  a : ∀ w d u, (w, d, u) ∈ O → Reach S n w d u ∧ d ≤ n ∧ u ≤ A ∧ cur ≤ w
  c : ∀ d u, (d, u) ∈ Sd → d < n ∧ u < A ∧ ∃ ws, ws ≤ cur ∧ ∀ e, d < e → e ≤ n → (u + 1 < A ∨ e = n) → (e, u + 1) ∈ Sd ∨ ∃ w', w' ≤ max ws (S d e) ∧ (w', e, u + 1) ∈ O
  z : (0, 0) ∈ Sd ∨ ∃ w, w ≤ 0 ∧ (w, 0, 0) ∈ O
  nd : Sd.Nodup
section
variable {S : Nat → Nat → Int} {n A : Nat} {O O' : List Tri} {Sd : List (Nat × Nat)} {cur M w : Int} {d u : Nat}
theorem SInv.find (I : SInv S n A O Sd cur) (hM : cur ≤ M) (r : Reach S n w d u) : w ≤ M → 0 ≤ M → u ≤ A → (u < A ∨ d = n) → (d, u) ∈ Sd ∨ ∃ w' d' u', w' ≤ M ∧ (w', d', u') ∈ O := by
  induction r with
  | z =>
    intro hw h0 hu hl
    rcases I.z with h | ⟨w, hw', h⟩
    · exact .inl h
    · exact .inr ⟨w, 0, 0, by (clear hM h0 hu hl; omega), h⟩
  | @s w0 d0 u0 e r hd he ih =>
    intro hw h0 hu hl
    rcases ih (by (clear hM hd he h0 hu; omega)) h0 (by (clear hM hd he hw h0 hl; omega)) (.inl (by (clear hM hd he hw h0 hl; omega))) with h | h
    · obtain ⟨-, -, ws, hws, hall⟩ := I.c _ _ h
      rcases hall e hd he hl with h2 | ⟨w', hw', h2⟩
      · exact .inl h2
      · exact .inr ⟨w', e, u0 + 1, by (clear hd he h0 hu; omega), h2⟩
    · exact .inr h
theorem Reach.nn (r : Reach S n w d u) : 0 ≤ w := by
  induction r with
  | z => exact Int.le_refl _
  | s _ _ _ ih => omega
/-- there is an item to pop, as long as some partition is -/
theorem SInv.item (I : SInv S n A O Sd cur) (r : Reach S n M n u) (hu : u ≤ A) (hM : cur ≤ M) : ∃ w' d' u', w' ≤ M ∧ (w', d', u') ∈ O := by
  rcases I.find hM r (Int.le_refl _) r.nn hu (.inr rfl) with h | h
  · exact absurd (I.c _ _ h).1 (Nat.lt_irrefl _)
  · exact h
theorem SInv.start (hA : 0 < A) : SInv S n A [(0, 0, 0)] [] 0 :=
  ⟨fun w d u h => by
    simp only [List.mem_singleton, Prod.mk.injEq] at h
    obtain ⟨rfl, rfl, rfl⟩ := h
    exact ⟨.z, Nat.zero_le _, Nat.zero_le _, Int.le_refl _⟩,
   (fun _ _ h => no_mem h), .inr ⟨0, Int.le_refl _, by simp⟩, List.nodup_nil⟩
/-- the item popped at last is the answer -/
theorem SInv.answer (I : SInv S n A O Sd cur) (hp : ((w, n, u) :: O').Perm O) (hmin : ∀ x ∈ O, w ≤ x.1) (hcur : ∀ M k, Reach S n M n k → k ≤ A → cur ≤ M) : (∃ k, k ≤ A ∧ Reach S n w n k) ∧ ∀ M k, Reach S n M n k → k ≤ A → w ≤ M := by
  have hm : (w, n, u) ∈ O := hp.subset (.head _)
  obtain ⟨r, -, h2, -⟩ := I.a _ _ _ hm
  refine ⟨⟨u, h2, r⟩, fun M k rM hk => ?_⟩
  obtain ⟨w', d', u', h3, h4⟩ := I.item rM hk (hcur M k rM hk)
  exact Int.le_trans (hmin _ h4) h3
theorem SInv.cur' (I : SInv S n A O Sd cur) (hp : ((w, d, u) :: O').Perm O) (hmin : ∀ x ∈ O, w ≤ x.1) (hcur : ∀ M k, Reach S n M n k → k ≤ A → cur ≤ M) : ∀ M k, Reach S n M n k → k ≤ A → w ≤ M := fun M k rM hk => by
  obtain ⟨w', d', u', h3, h4⟩ := I.item rM hk (hcur M k rM hk)
  exact Int.le_trans (hmin _ h4) h3
/-- the item is dropped -/
theorem SInv.drop (I : SInv S n A O Sd cur) (hA : 0 < A) (hp : ((w, d, u) :: O').Perm O) (hmin : ∀ x ∈ O, w ≤ x.1) (hdn : d ≠ n) (hd : ¬ (u < A ∧ (d, u) ∉ Sd)) : SInv S n A O' Sd w := by
  have hm : (w, d, u) ∈ O := hp.subset (.head _)
  obtain ⟨r, hdn', huA, hcw⟩ := I.a _ _ _ hm
  have back : ∀ x ∈ O, x = (w, d, u) ∨ x ∈ O' := fun x hx => List.mem_cons.mp (hp.symm.subset hx)
  refine ⟨fun w1 d1 u1 h => ?_, fun d1 u1 h => ?_, ?_, I.nd⟩
  · have h' := hp.subset (.tail _ h)
    obtain ⟨a1, a2, a3, a4⟩ := I.a _ _ _ h'
    exact ⟨a1, a2, a3, hmin _ h'⟩
  · obtain ⟨b1, b2, ws, b3, b4⟩ := I.c _ _ h
    refine ⟨b1, b2, ws, by (clear hA hdn hd hdn' huA b1 b2; omega), fun e h1 h2 h3 => ?_⟩
    rcases b4 e h1 h2 h3 with h4 | ⟨w', h4, h5⟩
    · exact .inl h4
    · rcases back _ h5 with h6 | h6
      · simp only [Prod.mk.injEq] at h6
        obtain ⟨rfl, rfl, rfl⟩ := h6
        by_cases hs : (e, u1 + 1) ∈ Sd
        · exact .inl hs
        · rcases h3 with h3 | h3
          · exact absurd ⟨h3, hs⟩ hd
          · exact absurd h3 hdn
      · exact .inr ⟨w', h4, h6⟩
  · rcases I.z with h | ⟨w0, h0, h⟩
    · exact .inl h
    · rcases back _ h with h6 | h6
      · simp only [Prod.mk.injEq] at h6
        obtain ⟨rfl, rfl, rfl⟩ := h6
        by_cases hs : (0, 0) ∈ Sd
        · exact .inl hs
        · exact absurd ⟨hA, hs⟩ hd
      · exact .inr ⟨w0, h0, h6⟩
/-- the item is expanded -/
theorem SInv.expand {O'' : List Tri} (I : SInv S n A O Sd cur) (hp : ((w, d, u) :: O').Perm O) (hmin : ∀ x ∈ O, w ≤ x.1) (hdn : d ≠ n) (hd : u < A ∧ (d, u) ∉ Sd)
    (hO : ∀ x, x ∈ O'' ↔ x ∈ O' ∨ ∃ e, d < e ∧ e ≤ n ∧ x = (max w (S d e), e, u + 1)) : SInv S n A O'' (Sd ++ [(d, u)]) w := by
  have hm : (w, d, u) ∈ O := hp.subset (.head _)
  obtain ⟨r, hdn', huA, hcw⟩ := I.a _ _ _ hm
  have back : ∀ x ∈ O, x = (w, d, u) ∨ x ∈ O' := fun x hx => List.mem_cons.mp (hp.symm.subset hx)
  refine ⟨fun w1 d1 u1 h => ?_, fun d1 u1 h => ?_, ?_, ?_⟩
  · rcases (hO _).mp h with h | ⟨e, h1, h2, h3⟩
    · have h' := hp.subset (.tail _ h)
      obtain ⟨a1, a2, a3, a4⟩ := I.a _ _ _ h'
      exact ⟨a1, a2, a3, hmin _ h'⟩
    · simp only [Prod.mk.injEq] at h3
      obtain ⟨rfl, rfl, rfl⟩ := h3
      exact ⟨.s r h1 h2, h2, by (clear hdn hdn' huA hcw h1 h2; omega), by (clear hdn hd hdn' huA hcw h1 h2; omega)⟩
  · rcases List.mem_append.mp h with h | h
    · obtain ⟨b1, b2, ws, b3, b4⟩ := I.c _ _ h
      refine ⟨b1, b2, ws, by (clear hdn hd hdn' huA b1 b2; omega), fun e h1 h2 h3 => ?_⟩
      rcases b4 e h1 h2 h3 with h4 | ⟨w', h4, h5⟩
      · exact .inl (List.mem_append_left _ h4)
      · rcases back _ h5 with h6 | h6
        · simp only [Prod.mk.injEq] at h6
          obtain ⟨rfl, rfl, rfl⟩ := h6
          exact .inl (by simp)
        · exact .inr ⟨w', h4, (hO _).mpr (.inl h6)⟩
    · simp only [List.mem_singleton, Prod.mk.injEq] at h
      obtain ⟨rfl, rfl⟩ := h
      exact ⟨by (clear hcw huA hd; omega), hd.1, w, Int.le_refl _, fun e h1 h2 _ => .inr ⟨_, Int.le_refl _, (hO _).mpr (.inr ⟨e, h1, h2, rfl⟩)⟩⟩
  · rcases I.z with h | ⟨w0, h0, h⟩
    · exact .inl (List.mem_append_left _ h)
    · rcases back _ h with h6 | h6
      · simp only [Prod.mk.injEq] at h6
        obtain ⟨rfl, rfl, rfl⟩ := h6
        exact .inl (by simp)
      · exact .inr ⟨w0, h0, (hO _).mpr (.inl h6)⟩
  · rw [List.nodup_append]
    refine ⟨I.nd, by simp, fun x hx y hy => ?_⟩
    rw [List.mem_singleton.mp hy]
    intro e
    exact hd.2 (e ▸ hx)
theorem nodup_sub {α : Type} [DecidableEq α] : ∀ {l m : List α}, l.Nodup → (∀ x ∈ l, x ∈ m) → l.length ≤ m.length
  | [], m, _, _ => Nat.zero_le _
  | x :: l, m, h, hs => by
    obtain ⟨h1, h2⟩ := List.nodup_cons.mp h
    have hx := hs x (.head _)
    have := nodup_sub (l := l) (m := m.erase x) h2 fun y hy => by
      have hne : y ≠ x := fun e => h1 (e ▸ hy)
      exact (List.mem_erase_of_ne hne).mpr (hs y (.tail _ hy))
    have e := List.length_erase_of_mem hx
    have hp : 0 < m.length := List.length_pos_of_mem hx
    rw [List.length_cons]
    (clear h1; omega)
theorem nodup_box : ∀ {l : List (Nat × Nat)} {n A : Nat}, l.Nodup → (∀ x ∈ l, x.1 < n ∧ x.2 < A) → l.length ≤ n * A := fun {l n A} hn hb => by
  have hs : ∀ x ∈ l, x ∈ (List.range n).flatMap fun i => (List.range A).map fun j => (i, j) := fun x hx => by
    have := hb x hx
    simp only [List.mem_flatMap, List.mem_range, List.mem_map]
    exact ⟨x.1, this.1, x.2, this.2, rfl⟩
  have hl := nodup_sub hn hs
  have e : ((List.range n).flatMap fun i => (List.range A).map fun j => (i, j)).length = n * A := by
    rw [List.length_flatMap]
    simp [List.map_const', List.sum_replicate_nat]
  omega
theorem SInv.room (I : SInv S n A O Sd cur) : Sd.length ≤ n * A := nodup_box I.nd fun x hx => ⟨(I.c x.1 x.2 hx).1, (I.c x.1 x.2 hx).2.1⟩
end

/-- a step of normpath over the names of a path -/
def nstep (stk : List Str) (c : Str) : List Str :=
  if c = Str.ofString "" ∨ c = Str.ofString "." then stk
  else if c ≠ Str.ofString ".." ∨ stk = [] ∨ stk.getLast? = some (Str.ofString "..") then stk ++ [c] else stk.dropLast
def normP (x : Str) : Str :=
  let y := Txt.join (Str.ofString "/") ((Txt.split x (Str.ofString "/")).foldl nstep [])
  if y.length = 0 then Str.ofString "." else y
theorem nfold_len : ∀ (xs st : List Str), (xs.foldl nstep st).length ≤ st.length + xs.length
  | [], st => by simp
  | c :: r, st => by
    have := nfold_len r (nstep st c)
    have h : (nstep st c).length ≤ st.length + 1 := by
      unfold nstep
      split
      · (clear this; omega)
      · split
        · simp
        · simp; (clear this; omega)
    simp only [List.foldl_cons, List.length_cons]
    omega
theorem strValues_at {l : List (Str × Tok)} {i : Nat} {v : Value} (h : (strValues l)[i]? = some v) : ∃ c tc, v = .str c tc ∧ (l.map (·.1))[i]? = some c := by
  have h' : (l.map fun p => Value.str p.1 p.2)[i]? = some v := h
  rw [List.getElem?_map] at h'
  cases e : l[i]? with
  | none => rw [e] at h'; cases h'
  | some p =>
    rw [e] at h'
    refine ⟨p.1, p.2, (Option.some.inj h').symm, ?_⟩
    rw [List.getElem?_map, e]; rfl
theorem str_empty' {x : Str} (h : x.length = 0) : x = Str.ofString "" := by
  obtain ⟨a⟩ := x
  have : a = #[] := Array.eq_empty_of_size_eq_zero h
  subst this; rfl
theorem str_nonempty' {x : Str} (h : x.length ≠ 0) : x ≠ Str.ofString "" := fun e => h (by subst e; rfl)
theorem StrsAre.unsnoc {y : Value} : ∀ {vs : List Value} {xs : List Str}, StrsAre (vs ++ [y]) xs → ∃ xs' z tz, xs = xs' ++ [z] ∧ y = .str z tz ∧ StrsAre vs xs'
  | [], xs, h => by
    have h' : StrsAre [y] xs := h
    clear h
    cases h' with
    | @cons z tz _ _ hh => cases hh; exact ⟨[], z, tz, rfl, rfl, .nil⟩
  | v :: vs, xs, h => by
    have h' : StrsAre (v :: (vs ++ [y])) xs := h
    clear h
    cases h' with
    | @cons z tz _ _ hh =>
      obtain ⟨xs', z', tz', e, e2, h2⟩ := StrsAre.unsnoc hh
      exact ⟨z :: xs', z', tz', by rw [e]; rfl, e2, .cons h2⟩
theorem nstep_sum (st : List Str) (c : Str) : ((nstep st c).map (·.length)).sum ≤ (st.map (·.length)).sum + c.length := by
  unfold nstep
  split
  · omega
  · split
    · simp
    · have h : ∀ l : List Str, (l.dropLast.map (·.length)).sum ≤ (l.map (·.length)).sum := fun l => by
        induction l with
        | nil => simp
        | cons a r ih =>
          cases r with
          | nil => simp
          | cons b r => simp only [List.dropLast_cons₂, List.map_cons, List.sum_cons] at *; omega
      have := h st
      omega
theorem nfold_sum : ∀ (xs st : List Str), ((xs.foldl nstep st).map (·.length)).sum ≤ (st.map (·.length)).sum + (xs.map (·.length)).sum
  | [], st => by simp
  | c :: r, st => by
    have := nfold_sum r (nstep st c)
    have := nstep_sum st c
    simp only [List.foldl_cons, List.map_cons, List.sum_cons]
    omega
theorem take_succ_at {α : Type} {l : List α} {i : Nat} {c : α} (h : l[i]? = some c) : l.take (i + 1) = l.take i ++ [c] := by
  rw [List.take_add_one, h]; rfl
abbrev npK (d1 d2 d3 t2 : Tok) (nc : Addr) : List (Str × Value) := [(Str.ofString "dot", .str (Str.ofString ".") d2), (Str.ofString "dotdot", .str (Str.ofString "..") d3), (Str.ofString "sep", .str (Str.ofString "/") d1), (Str.ofString "initial_slashes", .str (Str.ofString "") t2), (Str.ofString "new_comps", .ref nc)]
theorem nstep_dot {st : List Str} : nstep st (Str.ofString ".") = st := by simp [nstep]
theorem nstep_nil {st : List Str} : nstep st (Str.ofString "") = st := by simp [nstep]
theorem nstep_name {st : List Str} {c : Str} (n1 : c ≠ Str.ofString "") (n2 : c ≠ Str.ofString ".") (n3 : c ≠ Str.ofString "..") : nstep st c = st ++ [c] := by simp [nstep, n1, n2, n3]
theorem nstep_up0 : nstep [] (Str.ofString "..") = [Str.ofString ".."] := by decide +kernel
theorem dd_ne : Str.ofString ".." ≠ Str.ofString "" ∧ Str.ofString ".." ≠ Str.ofString "." := by decide +kernel
theorem nstep_up1 {st : List Str} : nstep (st ++ [Str.ofString ".."]) (Str.ofString "..") = st ++ [Str.ofString ".."] ++ [Str.ofString ".."] := by simp [nstep, dd_ne.1, dd_ne.2]
theorem nstep_up2 {st : List Str} {z : Str} (h : z ≠ Str.ofString "..") : nstep (st ++ [z]) (Str.ofString "..") = st := by simp [nstep, dd_ne.1, dd_ne.2, h]
theorem nfold_at {xs : List Str} {i : Nat} {c : Str} {st st' : List Str} (hc : xs[i]? = some c) (h : st = (xs.take i).foldl nstep []) (k : nstep st c = st') : st' = (xs.take (i + 1)).foldl nstep [] := by
  rw [take_succ_at hc, List.foldl_append, ← h]
  exact k.symm
theorem str_empty_app (x : Str) : Str.ofString "" ++ x = x := by
  show Str.append _ _ = _
  obtain ⟨a⟩ := x
  show (⟨(Str.ofString "").cps ++ a⟩ : Str) = _
  rw [show (Str.ofString "").cps = #[] from rfl, Array.empty_append]
def joinP (x y : Str) : Str := if x.length = 0 then y else if Txt.endswith x (Str.ofString "/") then x ++ y else x ++ (Str.ofString "/" ++ y)
/-- the tail that split gives -/
def splitT (x : Str) : Str := Txt.slice x (some (Txt.rfind x (Str.ofString "/") + 1)) none
/-- a step of the reading from the end -/
def rstep (c : Str) (r : Nat × List Str) : Nat × List Str :=
  if c = Str.ofString ".." then (r.1 + 1, r.2)
  else if c ≠ Str.ofString "." ∧ 0 < r.1 then (r.1 - 1, r.2)
  else if c ≠ Str.ofString "." then (r.1, c :: r.2) else r
def readP (names : List Str) : Str :=
  let r := names.foldr rstep (0, [])
  let y := Txt.join (Str.ofString "/") (List.replicate r.1 (Str.ofString "..") ++ r.2)
  if y.length = 0 then Str.ofString "." else y
theorem StrsAre.at' {i : Nat} {v : Value} : ∀ {vs : List Value} {xs : List Str}, StrsAre vs xs → vs[i]? = some v → ∃ c tc, v = .str c tc ∧ xs[i]? = some c := by
  intro vs xs h
  induction h generalizing i with
  | nil => intro e; simp at e
  | @cons x t vs xs h ih =>
    intro e
    cases i with
    | zero => simp at e; exact ⟨x, t, e.symm, rfl⟩
    | succ i =>
      obtain ⟨c, tc, e1, e2⟩ := ih (i := i) (by simpa using e)
      exact ⟨c, tc, e1, by simpa using e2⟩
theorem rstep_len (c : Str) (r : Nat × List Str) : (rstep c r).1 ≤ r.1 + 1 ∧ (rstep c r).2.length ≤ r.2.length + 1 := by
  unfold rstep
  split
  · exact ⟨Nat.le_refl _, Nat.le_succ _⟩
  · split
    · exact ⟨by dsimp only; omega, Nat.le_succ _⟩
    · split
      · exact ⟨Nat.le_succ _, by simp⟩
      · exact ⟨Nat.le_succ _, Nat.le_succ _⟩
theorem rfold_len : ∀ l : List Str, (l.foldr rstep (0, [])).1 ≤ l.length ∧ (l.foldr rstep (0, [])).2.length ≤ l.length
  | [] => by simp
  | c :: r => by
    have h := rfold_len r
    have k := rstep_len c (r.foldr rstep (0, []))
    rw [List.foldr_cons, List.length_cons]
    exact ⟨by omega, by omega⟩
theorem sum_mem {c : Str} : ∀ {l : List Str}, c ∈ l → c.length ≤ (l.map (·.length)).sum
  | d :: r, h => by
    rw [List.map_cons, List.sum_cons]
    rcases List.mem_cons.mp h with rfl | h
    · omega
    · have := sum_mem h
      omega
theorem rfold_sum : ∀ l : List Str, ((l.foldr rstep (0, [])).2.map (·.length)).sum ≤ (l.map (·.length)).sum
  | [] => by simp
  | c :: r => by
    have h := rfold_sum r
    rw [List.foldr_cons, List.map_cons, List.sum_cons]
    generalize r.foldr rstep (0, []) = q at *
    unfold rstep
    split
    · dsimp only; omega
    · split
      · dsimp only; omega
      · split
        · rw [List.map_cons, List.sum_cons]; omega
        · omega
theorem StrsAre.append {vs ws : List Value} {xs ys : List Str} (h : StrsAre vs xs) (k : StrsAre ws ys) : StrsAre (vs ++ ws) (xs ++ ys) := by
  induction h with
  | nil => exact k
  | cons _ ih => exact .cons ih
theorem StrsAre.rep (n : Nat) (x : Str) (t : Tok) : StrsAre (List.replicate n (.str x t)) (List.replicate n x) := by
  induction n with
  | zero => exact .nil
  | succ n ih => exact .cons ih
theorem ne_strs_same {prog : Program} {w : World} {A : Around} {E : Value → Shared → Prop} {s : Shared} {a b : Addr} {n n2 : Nat} {Q : Value → Shared → Prop} {vs ws : List Value} {xs : List Str} (ha : s.heap.get? a = some (listOf vs.toArray n)) (hb : s.heap.get? b = some (listOf ws.toArray n2)) (hv : StrsAre vs xs) (hw : StrsAre ws xs) (hu : A.units < cLine) (h : Q (.bool false) s) : wpAny (model prog w) A (compareOp .NotEq (.ref a) (.ref b)) Q E s := by
  have hl : vs.length = ws.length := by rw [hv.length, hw.length]
  have z := SeqAt.RcNeAt.lists (A := A) (s := s) (items := vs.toArray) (items2 := ws.toArray) (e := fun _ => true) ⟨_, ha, rfl, _, rfl⟩ ⟨_, hb, rfl, _, rfl⟩ (by simpa using hl) hu (fun j h1 h2 => by
    obtain ⟨c, tc, e1, e2⟩ := hv.at' (i := j) (v := vs.toArray[j]) (by
      have : vs[j]? = some (vs[j]'(by simpa using h1)) := List.getElem?_eq_getElem (by simpa using h1)
      simpa using this)
    obtain ⟨c', tc', e3, e4⟩ := hw.at' (i := j) (v := ws.toArray[j]) (by
      have : ws[j]? = some (ws[j]'(by simpa using h2)) := List.getElem?_eq_getElem (by simpa using h2)
      simpa using this)
    rw [e2] at e4
    cases e4
    rw [e1, e3]
    have z := eqAt_pv (A := A.in1) (s := s) (IsPv.s c tc) (IsPv.s c tc') rfl
    simpa using z)
  have e : (!(List.range vs.toArray.size).all (fun _ => true)) = false := by simp
  rw [e] at z
  exact z prog w E Q h

section
variable {w : World} {mg mb : Str → Option Value} {mean : ExcName → Option Value} {dp un : Nat} {gd : Option (List Code)} {fr : List Env} {base : Heap} {s : Shared} {Q E : Value → Shared → Prop}
theorem fspath_spec
  {x : Str} {t : Tok}
  (X : (Mine.heapK w.params).In base) (T : Top topProg GL mean mg mb base) (hS : base.StaysIn s.heap)
  (hdp : dp < 900) (_hu : un < 1000)
  (ret : ∀ h' tk', Keep [] s.heap h' → Q (.str x t) { s with heap := h', toks := tk' }) :
  wpAny (model PySem.Challenge.rw_ik0220_01.row.prog w) (amb dp un gd fr) (call (.ref 283) [.str x t]) Q E s := by
  revert X; k_fill; intro X
  refine wpAny_call ?_
  k_dflt (refine' enterF [(Str.ofString "path", .str x t)] [] ?kX ?kT hS ?kD ?kho ?khcd ?kroom ?kb ?kl ?kr ?_ ?c1 ?c2 ?c3 ?c4; (
  (case kX => assumption); (case kT => assumption); (case kho => k_is); (case khcd => k_is); (case kb => first | exact BindsTo.of_eq rfl | exact binds_K (by k_in) rfl (by k_is) rfl rfl rfl);
  (case kl => exact locs rfl); (case kr => exact rfl); (case c1 => exact rfl); (case c2 => exact rfl); (case c3 => exact rfl); (case c4 => decide); (case kroom => first | exact rm0 hdp rfl | (simp only [recursionLimit]; omega))); (case kD => exact fun _ hq => no_mem hq))
  intro g L h1 fr' tk F N X1 T1 KP LTs
  k_fold
  (repeat' (first | (k_unfold; (try dsimp only)) | ((with_reducible show wpAny _ _ (storeName _ _ _) _ _ _); (try dsimp only); walk1) | ((with_reducible show PySem.wpAt _ _ _ _ _ _ _); walk_at "wpAt") | ((fail_if_success (with_reducible refine Stop.go (by constructor) ?_)); first | walk1 | (dsimp only; walk1))))
  rename_i P h2 F2 N2 _
  refine issub_call (n := 0) (N2 _ (.head _)).1 ?_
  (repeat' (first | (k_unfold; (try dsimp only)) | ((with_reducible show wpAny _ _ (storeName _ _ _) _ _ _); (try dsimp only); walk1) | ((with_reducible show PySem.wpAt _ _ _ _ _ _ _); walk_at "wpAt") | ((fail_if_success (with_reducible refine Stop.go (by constructor) ?_)); first | walk1 | (dsimp only; walk1))))
  exact ret _ _ fun b o hb e => F2.keep b o (KP b o hb e)
theorem sep_spec
  {x : Str} {t : Tok}
  (X : (Mine.heapK w.params).In base) (T : Top topProg GL mean mg mb base) (hS : base.StaysIn s.heap)
  (hdp : dp < 900) (_hu : un < 1000)
  (ret : ∀ h' tk' t', Keep [] s.heap h' → Q (.str (Str.ofString "/") t') { s with heap := h', toks := tk' }) :
  wpAny (model PySem.Challenge.rw_ik0220_01.row.prog w) (amb dp un gd fr) (call (.ref 297) [.str x t]) Q E s := by
  revert X; k_fill; intro X
  refine wpAny_call ?_
  k_dflt (refine' enterF [(Str.ofString "path", .str x t)] [] ?kX ?kT hS ?kD ?kho ?khcd ?kroom ?kb ?kl ?kr ?_ ?c1 ?c2 ?c3 ?c4; (
  (case kX => assumption); (case kT => assumption); (case kho => k_is); (case khcd => k_is); (case kb => first | exact BindsTo.of_eq rfl | exact binds_K (by k_in) rfl (by k_is) rfl rfl rfl);
  (case kl => exact locs rfl); (case kr => exact rfl); (case c1 => exact rfl); (case c2 => exact rfl); (case c3 => exact rfl); (case c4 => decide); (case kroom => first | exact rm0 hdp rfl | (simp only [recursionLimit]; omega))); (case kD => exact fun _ hq => no_mem hq))
  intro g L h1 fr' tk F N X1 T1 KP LTs
  k_fold
  (repeat' (first | (k_unfold; (try dsimp only)) | ((with_reducible show wpAny _ _ (storeName _ _ _) _ _ _); (try dsimp only); walk1) | ((with_reducible show PySem.wpAt _ _ _ _ _ _ _); walk_at "wpAt") | ((fail_if_success (with_reducible refine Stop.go (by constructor) ?_)); first | walk1 | (dsimp only; walk1))))
  exact ret _ _ _ fun b o hb e => F.keep b o (KP b o hb e)
theorem splitroot_spec
  {x : Str} {t : Tok}
  (X : (Mine.heapK w.params).In base) (T : Top topProg GL mean mg mb base) (hS : base.StaysIn s.heap)
  (hx : x.length ≤ 1000000) (hns : (Txt.slice x none (some 1) != Str.ofString "/") = true)
  (hdp : dp < 800) (_hu : un < 900)
  (ret : ∀ h' tk' P t1 t2, Keep [] s.heap h' → h'.get? P = some (tupOf [.str (Str.ofString "") t1, .str (Str.ofString "") t2, .str x t] 0) → Q (.ref P) { s with heap := h', toks := tk' }) :
  wpAny (model PySem.Challenge.rw_ik0220_01.row.prog w) (amb dp un gd fr) (call (.ref 318) [.str x t]) Q E s := by
  revert X; k_fill; intro X
  refine wpAny_call ?_
  k_dflt (refine' enterF [(Str.ofString "p", .str x t)] [] ?kX ?kT hS ?kD ?kho ?khcd ?kroom ?kb ?kl ?kr ?_ ?c1 ?c2 ?c3 ?c4; (
  (case kX => assumption); (case kT => assumption); (case kho => k_is); (case khcd => k_is); (case kb => first | exact BindsTo.of_eq rfl | exact binds_K (by k_in) rfl (by k_is) rfl rfl rfl);
  (case kl => exact locs rfl); (case kr => exact rfl); (case c1 => exact rfl); (case c2 => exact rfl); (case c3 => exact rfl); (case c4 => decide); (case kroom => first | exact rm0 hdp rfl | (simp only [recursionLimit]; omega))); (case kD => exact fun _ hq => no_mem hq))
  intro g L h1 fr' tk F N X1 T1 KP LTs
  k_fold
  (repeat' (first | (k_unfold; (try dsimp only)) | ((with_reducible show wpAny _ _ (storeName _ _ _) _ _ _); (try dsimp only); walk1) | ((with_reducible show PySem.wpAt _ _ _ _ _ _ _); walk_at "wpAt") | ((fail_if_success (with_reducible refine Stop.go (by constructor) ?_)); first | walk1 | (dsimp only; walk1))))
  refine fspath_spec X1 T1 F.keep (by (clear hx; omega)) (by (clear hx hdp; omega)) fun h2 tk2 k2 => ?_
  have F2 := Mine.Fr.kept (h' := h2) (D := []) F k2 (fun b hb => no_mem hb) (fun hb => no_mem hb)
  have N2 : News g L h2 [] := fun _ hp => no_mem hp
  clear F N
  (repeat' (first | (k_unfold; (try dsimp only)) | ((with_reducible show wpAny _ _ (storeName _ _ _) _ _ _); (try dsimp only); walk1) | ((with_reducible show PySem.wpAt _ _ _ _ _ _ _); walk_at "wpAt") | ((fail_if_success (with_reducible refine Stop.go (by constructor) ?_)); first | walk1 | (dsimp only; walk1))))
  · rename_i P h3 F3 N3 _
    exact ret h3 _ P _ _ (fun b o hb e => F3.keep b o (KP b o hb e)) (N3 _ (.head _)).1
  all_goals (exfalso; simp_all)

end
section
variable {w : World} {mg mb : Str → Option Value} {mean : ExcName → Option Value} {dp un : Nat} {gd : Option (List Code)} {fr : List Env} {base : Heap} {s : Shared} {Q E : Value → Shared → Prop}
theorem join_spec
  {x y : Str} {t u : Tok}
  (X : (Mine.heapK w.params).In base) (T : Top topProg GL mean mg mb base) (hS : base.StaysIn s.heap)
  (hx : x.length ≤ 100000) (hy : y.length ≤ 100000) (hy0 : Txt.startswith y (Str.ofString "/") = false)
  (hdp : dp < 700) (_hu : un < 800)
  (ret : ∀ h' tk' t', Keep [] s.heap h' → Q (.str (joinP x y) t') { s with heap := h', toks := tk' }) :
  wpAny (model PySem.Challenge.rw_ik0220_01.row.prog w) (amb dp un gd fr) (call (.ref 304) [.str x t, .str y u]) Q E s := by
  revert X; k_fill; intro X
  refine wpAny_call ?_
  k_dflt (refine' enterR (vs := [.str y u]) (fun P => [(Str.ofString "a", .str x t), (Str.ofString "p", .ref P)]) [] ?kX ?kT hS ?kD ?kho ?khcd ?kroom ?kV ?kP ?kG ?kB ?_ ?c2 ?c3 ?c4 ?c5; (case kX => assumption); (case kT => assumption); (case kho => k_is); (case khcd => k_is); (case kroom => simp only [recursionLimit]; (clear hx hy; omega)); (case kV => rfl); (case kP => exact rfl); (case kG => exact fun _ => rfl); (case kB => exact fun _ => locs rfl); (case c5 => decide); (case c2 => exact rfl); (case c3 => exact rfl); (case c4 => exact rfl); (case kD => exact fun _ hq => no_mem hq))
  intro P g L h1 fr' tk F N X1 T1 KP LTs nP
  k_fold
  (repeat' (first | (k_unfold; (try dsimp only)) | ((with_reducible show wpAny _ _ (storeName _ _ _) _ _ _); (try dsimp only); walk1) | ((with_reducible show PySem.wpAt _ _ _ _ _ _ _); walk_at "wpAt") | ((fail_if_success (with_reducible refine Stop.go (by constructor) ?_)); first | walk1 | (dsimp only; walk1))))
  refine fspath_spec X1 T1 F.keep (by (clear hx hy; omega)) (by (clear hx hy hdp; omega)) fun h2 tk2 k2 => ?_
  have F2 := Mine.Fr.kept (h' := h2) (D := []) F k2 (fun b hb => no_mem hb) (fun hb => no_mem hb)
  have N2 := News.kept (h' := h2) (D := []) N k2 (fun p hp hb => no_mem hb)
  clear F N
  (repeat' (first | (k_unfold; (try dsimp only)) | ((with_reducible show wpAny _ _ (storeName _ _ _) _ _ _); (try dsimp only); walk1) | ((with_reducible show PySem.wpAt _ _ _ _ _ _ _); walk_at "wpAt") | ((fail_if_success (with_reducible refine Stop.go (by constructor) ?_)); first | walk1 | (dsimp only; walk1))))
  rename_i h3 F3 N3
  refine sep_spec X1 T1 F3.keep (by (clear hx hy; omega)) (by (clear hx hy hdp; omega)) fun h4 tk4 tsep k4 => ?_
  have F4 := Mine.Fr.kept (h' := h4) (D := []) F3 k4 (fun b hb => no_mem hb) (fun hb => no_mem hb)
  have N4 := News.kept (h' := h4) (D := []) N3 k4 (fun p hp hb => no_mem hb)
  clear F3 N3
  (repeat' (first | (k_unfold; (try dsimp only)) | ((with_reducible show wpAny _ _ (storeName _ _ _) _ _ _); (try dsimp only); walk1) | ((with_reducible show PySem.wpAt _ _ _ _ _ _ _); walk_at "wpAt") | ((fail_if_success (with_reducible refine Stop.go (by constructor) ?_)); first | walk1 | (dsimp only; walk1))))
  rename_i h5 F5 N5
  refine wpAny_mono (E := FF) ?_ (fun _ _ z => z) (fun _ _ z => z.elim)
  refine for_tup g L P [.str y u] 0 (fun i g' m news => g' = s.gens ∧ news = [] ∧ ∃ v tp, m = KF [(Str.ofString "sep", .str (Str.ofString "/") tsep), (Str.ofString "path", .str (if i = 0 then x else joinP x y) tp)] v) rfl (toKF [(Str.ofString "sep", .str (Str.ofString "/") tsep), (Str.ofString "path", .str x t)] F5 ⟨rfl, rfl, trivial⟩) N5 ⟨rfl, rfl, _, _, rfl⟩ ?_ ?_ ?_ ?_
  · rintro i g' m news ⟨-, rfl, -⟩ p hp
    exact no_mem hp
  · (repeat' (first | (k_unfold; (try dsimp only)) | ((with_reducible show wpAny _ _ (storeName _ _ _) _ _ _); (try dsimp only); walk1) | ((with_reducible show PySem.wpAt _ _ _ _ _ _ _); walk_at "wpAt") | ((fail_if_success (with_reducible refine Stop.go (by constructor) ?_)); first | walk1 | (dsimp only; walk1))))
    try exact ⟨rfl, rfl⟩
  · rintro i v h' g' tk9 m news oI hv ⟨rfl, rfl, w9, tp, rfl⟩ F7 N7 lI
    have hi : i = 0 := by
      have := (List.getElem?_eq_some_iff.mp hv).1
      simpa using this
    subst hi
    have hv' : .str y u = v := by simpa using hv
    subst hv'
    rw [if_pos rfl] at F7
    clear F5 N5
    dsimp only at N7 lI
    (repeat' (first | (k_unfold; (try dsimp only)) | ((with_reducible show wpAny _ _ (storeName _ _ _) _ _ _); (try dsimp only); walk1) | ((with_reducible show PySem.wpAt _ _ _ _ _ _ _); walk_at "wpAt") | ((fail_if_success (with_reducible refine Stop.go (by constructor) ?_)); first | walk1 | (dsimp only; walk1))))
    rename_i h8 F8 N8
    refine fspath_spec X1 T1 F8.keep (by (clear hx hy; omega)) (by (clear hx hy hdp; omega)) fun h9 tk9 k9 => ?_
    have F9 := Mine.Fr.kept (h' := h9) (D := []) F8 k9 (fun b hb => no_mem hb) (fun hb => no_mem hb)
    have N9 := News.kept (h' := h9) (D := []) N8 k9 (fun p hp hb => no_mem hb)
    clear F8 N8
    (repeat' (first | (k_unfold; (try dsimp only)) | ((with_reducible show wpAny _ _ (storeName _ _ _) _ _ _); (try dsimp only); walk1) | ((with_reducible show PySem.wpAt _ _ _ _ _ _ _); walk_at "wpAt") | ((fail_if_success (with_reducible refine Stop.go (by constructor) ?_)); first | walk1 | (dsimp only; walk1))))
    · rename_i F10 N10
      have hJ : joinP x y = x ++ y := by
        unfold joinP
        rw [if_neg (by (clear hx hy hdp; omega)), if_pos (by assumption)]
      rw [← hJ] at F10
      exact LpP.next (news := []) (toKF [(Str.ofString "sep", .str (Str.ofString "/") tsep), (Str.ofString "path", .str (joinP x y) _)] F10 ⟨rfl, rfl, trivial⟩) N10 ⟨rfl, rfl, _, _, rfl⟩
    · rename_i F10 N10
      have hJ : joinP x y = x ++ (Str.ofString "/" ++ y) := by
        unfold joinP
        rw [if_neg (by (clear hx hy hdp; omega)), if_neg (by rw [show Txt.endswith x (Str.ofString "/") = false by assumption]; decide)]
      rw [← hJ] at F10
      exact LpP.next (news := []) (toKF [(Str.ofString "sep", .str (Str.ofString "/") tsep), (Str.ofString "path", .str (joinP x y) _)] F10 ⟨rfl, rfl, trivial⟩) N10 ⟨rfl, rfl, _, _, rfl⟩
    · rename_i F10 N10
      have hJ : joinP x y = y := by
        unfold joinP
        rw [if_pos (by (clear hx hy hdp; omega))]
      rw [← hJ] at F10
      exact LpP.next (news := []) (toKF [(Str.ofString "sep", .str (Str.ofString "/") tsep), (Str.ofString "path", .str (joinP x y) _)] F10 ⟨rfl, rfl, trivial⟩) N10 ⟨rfl, rfl, _, _, rfl⟩
  · rintro h' g' tk9 m news ⟨rfl, rfl, w9, tp, rfl⟩ F7 N7
    rw [if_neg (by simp)] at F7
    (repeat' (first | (k_unfold; (try dsimp only)) | ((with_reducible show wpAny _ _ (storeName _ _ _) _ _ _); (try dsimp only); walk1) | ((with_reducible show PySem.wpAt _ _ _ _ _ _ _); walk_at "wpAt") | ((fail_if_success (with_reducible refine Stop.go (by constructor) ?_)); first | walk1 | (dsimp only; walk1))))
    exact ret _ _ _ fun b o hb e => F7.keep b o (KP b o hb e)

end
section
variable {w : World} {mg mb : Str → Option Value} {mean : ExcName → Option Value} {dp un : Nat} {gd : Option (List Code)} {fr : List Env} {base : Heap} {s : Shared} {Q E : Value → Shared → Prop}
theorem split_spec
  {x : Str} {t : Tok}
  (X : (Mine.heapK w.params).In base) (T : Top topProg GL mean mg mb base) (hS : base.StaysIn s.heap)
  (hx : x.length ≤ 100000)
  (hdp : dp < 700) (_hu : un < 800)
  (ret : ∀ h' tk' P hd t1 t2, Keep [] s.heap h' → h'.get? P = some (tupOf [.str hd t1, .str (splitT x) t2] 0) → Q (.ref P) { s with heap := h', toks := tk' }) :
  wpAny (model PySem.Challenge.rw_ik0220_01.row.prog w) (amb dp un gd fr) (call (.ref 311) [.str x t]) Q E s := by
  revert X; k_fill; intro X
  refine wpAny_call ?_
  k_dflt (refine' enterF [(Str.ofString "p", .str x t)] [] ?kX ?kT hS ?kD ?kho ?khcd ?kroom ?kb ?kl ?kr ?_ ?c1 ?c2 ?c3 ?c4; (
  (case kX => assumption); (case kT => assumption); (case kho => k_is); (case khcd => k_is); (case kb => first | exact BindsTo.of_eq rfl | exact binds_K (by k_in) rfl (by k_is) rfl rfl rfl);
  (case kl => exact locs rfl); (case kr => exact rfl); (case c1 => exact rfl); (case c2 => exact rfl); (case c3 => exact rfl); (case c4 => decide); (case kroom => first | exact rm0 hdp rfl | (simp only [recursionLimit]; omega))); (case kD => exact fun _ hq => no_mem hq))
  intro g L h1 fr' tk F N X1 T1 KP LTs
  k_fold
  (repeat' (first | (k_unfold; (try dsimp only)) | ((with_reducible show wpAny _ _ (storeName _ _ _) _ _ _); (try dsimp only); walk1) | ((with_reducible show PySem.wpAt _ _ _ _ _ _ _); walk_at "wpAt") | ((fail_if_success (with_reducible refine Stop.go (by constructor) ?_)); first | walk1 | (dsimp only; walk1))))
  refine fspath_spec X1 T1 F.keep (by (clear hx; omega)) (by (clear hx hdp; omega)) fun h2 tk2 k2 => ?_
  have F2 := Mine.Fr.kept (h' := h2) (D := []) F k2 (fun b hb => no_mem hb) (fun hb => no_mem hb)
  have N2 : News g L h2 [] := fun _ hp => no_mem hp
  clear F N
  (repeat' (first | (k_unfold; (try dsimp only)) | ((with_reducible show wpAny _ _ (storeName _ _ _) _ _ _); (try dsimp only); walk1) | ((with_reducible show PySem.wpAt _ _ _ _ _ _ _); walk_at "wpAt") | ((fail_if_success (with_reducible refine Stop.go (by constructor) ?_)); first | walk1 | (dsimp only; walk1))))
  rename_i h3 F3 N3
  refine sep_spec X1 T1 F3.keep (by (clear hx; omega)) (by (clear hx hdp; omega)) fun h4 tk4 tsep k4 => ?_
  have F4 := Mine.Fr.kept (h' := h4) (D := []) F3 k4 (fun b hb => no_mem hb) (fun hb => no_mem hb)
  have N4 := News.kept (h' := h4) (D := []) N3 k4 (fun p hp hb => no_mem hb)
  clear F3 N3
  (repeat' (first | (k_unfold; (try dsimp only)) | ((with_reducible show wpAny _ _ (storeName _ _ _) _ _ _); (try dsimp only); walk1) | ((with_reducible show PySem.wpAt _ _ _ _ _ _ _); walk_at "wpAt") | ((fail_if_success (with_reducible refine Stop.go (by constructor) ?_)); first | walk1 | (dsimp only; walk1))))
  all_goals (rename_i F9 N9 l9; exact ret _ _ _ _ _ _ (fun b o hb e => F9.keep b o (KP b o hb e)) (N9 _ (.head _)).1)

end
section
variable {w : World} {mg mb : Str → Option Value} {mean : ExcName → Option Value} {dp un : Nat} {gd : Option (List Code)} {fr : List Env} {base : Heap} {s : Shared} {Q E : Value → Shared → Prop}
theorem read_spec
  {l : Addr} {vs : List Value} {k : Nat} {names : List Str}
  (X : (Mine.heapK w.params).In base) (T : Top topProg GL mean mg mb base) (hS : base.StaysIn s.heap)
  (hl : s.heap.get? l = some (listOf vs.toArray k)) (hbl : base.get? l = none) (hA : StrsAre vs names) (hn : names.length ≤ 200) (hsum : (names.map (·.length)).sum ≤ 10000)
  (hdp : dp < 700) (_hu : un < 800)
  (ret : ∀ h' tk' t', Keep [] s.heap h' → Q (.str (readP names) t') { s with heap := h', toks := tk' }) :
  wpAny (model PySem.Challenge.rw_ik0220_01.row.prog w) (amb dp un gd fr) (call (.ref 346) [.ref l]) Q E s := by
  revert X; k_fill; intro X
  refine wpAny_call ?_
  k_dflt (refine' enterF [(Str.ofString "names", .ref l)] [(l, listOf vs.toArray k)] ?kX ?kT hS ?kD ?kho ?khcd ?kroom ?kb ?kl ?kr ?_ ?c1 ?c2 ?c3 ?c4; (
  (case kX => assumption); (case kT => assumption); (case kho => k_is); (case khcd => k_is); (case kb => first | exact BindsTo.of_eq rfl | exact binds_K (by k_in) rfl (by k_is) rfl rfl rfl);
  (case kl => exact locs rfl); (case kr => exact rfl); (case c1 => exact rfl); (case c2 => exact rfl); (case c3 => exact rfl); (case c4 => decide); (case kroom => first | exact rm0 hdp rfl | (simp only [recursionLimit]; omega))); (case kD => exact fun q hq => by rw [List.mem_singleton.mp hq]; exact ⟨hl, hbl⟩))
  intro g L h1 fr' tk F N X1 T1 KP LTs
  k_fold
  (repeat' (first | (k_unfold; (try dsimp only)) | ((with_reducible show wpAny _ _ (storeName _ _ _) _ _ _); (try dsimp only); walk1) | ((with_reducible show PySem.wpAt _ _ _ _ _ _ _); walk_at "wpAt") | ((fail_if_success (with_reducible refine Stop.go (by constructor) ?_)); first | walk1 | (dsimp only; walk1))))
  rename_i kA0 hX lK hY tU h5 F5 N5
  have hvl : vs.length = names.length := hA.length
  refine for_N g L s [(l, listOf vs.toArray k)] ?_
  (repeat' (first | (k_unfold; (try dsimp only)) | ((with_reducible show wpAny _ _ (storeName _ _ _) _ _ _); (try dsimp only); walk1) | ((with_reducible show PySem.wpAt _ _ _ _ _ _ _); walk_at "wpAt") | ((fail_if_success (with_reducible refine Stop.go (by constructor) ?_)); first | walk1 | (dsimp only; walk1))))
  rename_i I h6 F6 N6 l6
  have o1 : @LT.lt Nat _ l I := l6.2
  have hl6 : h6.IsList l vs.toArray := ⟨_, (N6 _ (.tail _ (.tail _ (.head _)))).1, rfl, _, rfl⟩
  have hI6 : h6.IsRevIter I l ((vs.toArray.size : Int) - 1 - ((0 : Nat) : Int)) := ⟨_, (N6 _ (.head _)).1, rfl, by simp [revObj]⟩
  refine wpAny_pyIter_revIter hI6 ?_
  refine ⟨I, vs.toArray.size, _, _, "list_reverseiterator", fun i g' m news => g' = s.gens ∧ ∃ r u ka kvs kk tu, r = (names.drop (names.length - i)).foldr rstep (0, []) ∧ m = KF [(Str.ofString "ups", .int (r.1 : Int) tu), (Str.ofString "kept", .ref ka)] u ∧ news = [(ka, listOf kvs.toArray kk)] ∧ StrsAre kvs r.2, rfl, Walks.listRev rfl I l (Nat.ne_of_lt o1) vs.toArray, ?_, ⟨Nat.zero_le _, hI6, hl6⟩, (N6 _ (.head _)).2.2, (N6 _ (.head _)).2.1, ⟨_, _, _, _, [(kA0, listOf ([] : List Value).toArray 0)], rfl, toKF [(Str.ofString "ups", .int 0 tU), (Str.ofString "kept", .ref kA0)] F6 ⟨rfl, rfl, trivial⟩, Mine.News.sub N6 (by ((try simp only [List.cons_append, List.nil_append]); repeat' (first | exact .head _ | refine .tail _ ?_ | exact List.forall_mem_nil _ | refine List.forall_mem_cons.mpr ⟨?_, ?_⟩ | assumption | intro _ _))), rfl, (0, []), _, _, [], 0, _, by simp, rfl, rfl, .nil⟩, ?_, ?_, ?_, ?_⟩
  · rintro i h ⟨-, ⟨o, e, c, -⟩, -⟩
    exact ⟨o, e, c⟩
  · intro p hp
    rw [List.mem_singleton.mp hp]
    simp
  · rintro i g' m news ⟨-, r, u, ka, kvs, kk, tu, -, -, rfl, -⟩ p hp
    rw [List.mem_singleton.mp hp]
    simp
  · rintro i v h' g' tk9 m news oI hi hv ⟨rfl, r, u, ka, kvs, kk, tu, hr, rfl, rfl, hk⟩ F7 N7
    have hv2 : vs[vs.length - 1 - i]? = some v := by simpa using hv
    have hi2 : i < names.length := by rw [← hvl]; simpa using hi
    obtain ⟨c, tc, rfl, hcc⟩ := hA.at' hv2
    have hcl : c.length ≤ 10000 := Nat.le_trans (sum_mem (List.mem_of_getElem? hcc)) hsum
    rw [hvl] at hcc
    have hdrop : names.drop (names.length - (i + 1)) = c :: names.drop (names.length - i) := by
      have e1 : names.length - (i + 1) = names.length - 1 - i := by rw [Nat.sub_sub, Nat.add_comm]
      have e2 : names.length - i = names.length - 1 - i + 1 := by (clear hn hsum hdp lK l6 o1 hi hcl e1; omega)
      rw [e1, e2]
      exact (List.getElem?_eq_some_iff.mp hcc).2 ▸ List.drop_eq_getElem_cons (by (clear hn hsum hdp lK l6 o1 hi hcl e1; omega))
    have hfold : rstep c r = (names.drop (names.length - (i + 1))).foldr rstep (0, []) := by rw [hdrop, List.foldr_cons, ← hr]
    have hbound := rfold_len (names.drop (names.length - i))
    rw [← hr] at hbound
    clear hr
    obtain ⟨ru, rk⟩ := r
    dsimp only at hk F7 hbound
    have hru : ru ≤ 200 := by have := hbound.1; simp only [List.length_drop] at this; (clear hsum hdp lK l6 o1 hi hcl hbound; omega)
    clear F6 N6
    (repeat' (first | (k_unfold; (try dsimp only)) | ((with_reducible show wpAny _ _ (storeName _ _ _) _ _ _); (try dsimp only); walk1) | ((with_reducible show PySem.wpAt _ _ _ _ _ _ _); walk_at "wpAt") | ((fail_if_success (with_reducible refine Stop.go (by constructor) ?_)); first | walk1 | (dsimp only; walk1))))
    · rename_i e1 _ _ F8 N8
      have e1' : c = Str.ofString ".." := eq_of_beq e1
      have hs : rstep c (ru, rk) = (ru + 1, rk) := by simp [rstep, e1']
      exact LpP.next (news := [(ka, listOf kvs.toArray kk)]) (toKF [(Str.ofString "ups", .int ((ru + 1 : Nat) : Int) _), (Str.ofString "kept", .ref ka)] F8 ⟨rfl, rfl, trivial⟩) N8 ⟨rfl, (ru + 1, rk), _, ka, kvs, kk, _, hs ▸ hfold, rfl, rfl, hk⟩
    · rename_i e1 _ e2 e3 _ _ F8 N8
      have e1' : c ≠ Str.ofString ".." := fun q => by rw [q] at e1; simp at e1
      have e2' : c ≠ Str.ofString "." := fun q => by rw [q] at e2; simp at e2
      have e3' : 0 < ru := by (clear hn hsum hdp lK hvl l6 o1 hi hi2 hcl hbound e1' e2'; omega)
      have hs : rstep c (ru, rk) = (ru - 1, rk) := by simp [rstep, e1', e2', e3']
      rw [show (ru : Int) - 1 = ((ru - 1 : Nat) : Int) by (clear hn hsum hdp lK hvl l6 o1 hi hi2 hcl hbound e1' e2' e3'; omega)] at F8
      exact LpP.next (news := [(ka, listOf kvs.toArray kk)]) (toKF [(Str.ofString "ups", .int ((ru - 1 : Nat) : Int) _), (Str.ofString "kept", .ref ka)] F8 ⟨rfl, rfl, trivial⟩) N8 ⟨rfl, (ru - 1, rk), _, ka, kvs, kk, _, hs ▸ hfold, rfl, rfl, hk⟩
    · rename_i e1 _ e2 e3 _ kN hY F8 N8 l8
      have e1' : c ≠ Str.ofString ".." := fun q => by rw [q] at e1; simp at e1
      have e2' : c ≠ Str.ofString "." := fun q => by rw [q] at e2; simp at e2
      have e3' : ¬ 0 < ru := by (clear hn hsum hdp lK hvl l6 o1 hi hi2 hcl hbound l8 e1' e2'; omega)
      have hs : rstep c (ru, rk) = (ru, c :: rk) := by simp [rstep, e1', e2', e3']
      refine kmk_add_lit F8 N8 (its := #[.str c tc]) (its2 := kvs.toArray) (zs := .str c tc :: kvs) ⟨_, (N8 _ (.head _)).1, rfl, _, rfl⟩ ⟨_, (N8 _ (.tail _ (.tail _ (.tail _ (.head _))))).1, rfl, _, rfl⟩ (by simp) (fun D h9 F9 N9 l9 => ?_) (by
        have e9 := hk.length
        have := hbound.2
        simp only [List.length_drop] at this
        simp [sizeLine_eq]
        (clear hsum hdp lK l6 o1 hi hcl hbound hru e3 l8 e1' e2' e3'; omega))
      clear F8 N8
      (repeat' (first | (k_unfold; (try dsimp only)) | ((with_reducible show wpAny _ _ (storeName _ _ _) _ _ _); (try dsimp only); walk1) | ((with_reducible show PySem.wpAt _ _ _ _ _ _ _); walk_at "wpAt") | ((fail_if_success (with_reducible refine Stop.go (by constructor) ?_)); first | walk1 | (dsimp only; walk1))))
      rename_i F10 N10
      exact LpP.next (news := [(D, listOf (.str c tc :: kvs).toArray 0)]) (toKF [(Str.ofString "ups", .int (ru : Int) _), (Str.ofString "kept", .ref D)] F10 ⟨rfl, rfl, trivial⟩) (Mine.News.sub N10 (by ((try simp only [List.cons_append, List.nil_append]); repeat' (first | exact .head _ | refine .tail _ ?_ | exact List.forall_mem_nil _ | refine List.forall_mem_cons.mpr ⟨?_, ?_⟩ | assumption | intro _ _)))) ⟨rfl, (ru, c :: rk), _, D, _, _, _, hs ▸ hfold, rfl, rfl, .cons hk⟩
    · rename_i F8 N8 _ e1 _ e2 _
      have e1' : c ≠ Str.ofString ".." := fun q => by rw [q] at e1; simp at e1
      have e2' : c = Str.ofString "." := by simpa using e2
      have hs : rstep c (ru, rk) = (ru, rk) := by unfold rstep; rw [if_neg e1', if_neg (fun q => q.1 e2'), if_neg (fun q => q e2')]
      exact LpP.next (news := [(ka, listOf kvs.toArray kk)]) (toKF [(Str.ofString "ups", .int (ru : Int) _), (Str.ofString "kept", .ref ka)] F8 ⟨rfl, rfl, trivial⟩) N8 ⟨rfl, (ru, rk), _, ka, kvs, kk, _, hs ▸ hfold, rfl, rfl, hk⟩
  · rintro h' g' tk9 m news ⟨rfl, r, u, ka, kvs, kk, tu, hr, rfl, rfl, hk⟩ F7 N7
    (repeat' (first | (k_unfold; (try dsimp only)) | ((with_reducible show wpAny _ _ (storeName _ _ _) _ _ _); (try dsimp only); walk1) | ((with_reducible show PySem.wpAt _ _ _ _ _ _ _); walk_at "wpAt") | ((fail_if_success (with_reducible refine Stop.go (by constructor) ?_)); first | walk1 | (dsimp only; walk1))))
    rename_i kN hY F8 N8 l8
    rw [show names.length - vs.toArray.size = 0 by rw [List.size_toArray, hvl, Nat.sub_self], List.drop_zero] at hr
    have hb1 := rfold_len names
    have hb2 := rfold_sum names
    rw [← hr] at hb1 hb2
    refine KMa.mul F8 N8 (vs := [.str (Str.ofString "..") (tk9 + 1)]) (ws := List.replicate r.1 (.str (Str.ofString "..") (tk9 + 1))) ⟨_, (N8 _ (.head _)).1, rfl, _, rfl⟩ (by (clear hn hsum hdp lK hvl l6 o1 l8 hb1 hb2; omega)) (by (clear hsum hdp lK l6 o1 l8 hb2; omega)) (by rw [Int.toNat_natCast]; simp; (clear hsum hdp lK l6 o1 l8 hb2; omega)) (by rw [Int.toNat_natCast]; simp) fun D h9 F9 N9 l9 => ?_
    clear F8 N8
    (repeat' (first | (k_unfold; (try dsimp only)) | ((with_reducible show wpAny _ _ (storeName _ _ _) _ _ _); (try dsimp only); walk1) | ((with_reducible show PySem.wpAt _ _ _ _ _ _ _); walk_at "wpAt") | ((fail_if_success (with_reducible refine Stop.go (by constructor) ?_)); first | walk1 | (dsimp only; walk1))))
    refine kmk_add_lit F9 N9 (its := (List.replicate r.1 (Value.str (Str.ofString "..") (tk9 + 1))).toArray) (its2 := kvs.toArray) (zs := List.replicate r.1 (Value.str (Str.ofString "..") (tk9 + 1)) ++ kvs) ⟨_, (N9 _ (.head _)).1, rfl, _, rfl⟩ ⟨_, (N9 _ (.tail _ (.tail _ (.tail _ (.head _))))).1, rfl, _, rfl⟩ (by simp) (fun D2 h10 F10 N10 l10 => ?_) (by
      have e9 := hk.length
      simp [sizeLine_eq]
      (clear hsum hdp lK l6 o1 l8 hb2; omega))
    clear F9 N9
    (repeat' (first | (k_unfold; (try dsimp only)) | ((with_reducible show wpAny _ _ (storeName _ _ _) _ _ _); (try dsimp only); walk1) | ((with_reducible show PySem.wpAt _ _ _ _ _ _ _); walk_at "wpAt") | ((fail_if_success (with_reducible refine Stop.go (by constructor) ?_)); first | walk1 | (dsimp only; walk1))))
    obtain ⟨l9, el, em⟩ := (StrsAre.append (StrsAre.rep r.1 (Str.ofString "..") (tk9 + 1)) hk).values
    have e1 : (Str.ofString "/").length = 1 := rfl
    have e2 : (Str.ofString "..").length = 2 := rfl
    have w1 : ((List.replicate r.1 (Str.ofString "..") ++ r.2).map (·.length)).sum ≤ 400 + 10000 := by
      rw [List.map_append, List.sum_append, List.map_replicate, List.sum_replicate_nat, e2]
      (clear hdp lK l6 o1 l8 e1 e2; omega)
    have w2 : (List.replicate r.1 (Str.ofString "..") ++ r.2).length ≤ 400 := by
      rw [List.length_append, List.length_replicate]
      (clear hsum hdp lK l6 o1 l8 hb2 e1 e2 w1; omega)
    have hjo : JoinOk (Str.ofString "/") (List.replicate r.1 (Str.ofString "..") ++ r.2) = true := joinOk_of (by rw [e1]; (clear hn hsum hdp lK hvl l6 o1 l8 hb1 hb2 e1 e2; omega))
    have hjl := StrLaws.join_length_le (Str.ofString "/") (List.replicate r.1 (Str.ofString "..") ++ r.2)
    refine SC.join (l := l9) ⟨_, (N10 _ (.head _)).1, rfl, _, by rw [el]⟩ em hjo fun t9 k9 => ?_
    have hjl2 : (Txt.join (Str.ofString "/") (List.replicate r.1 (Str.ofString "..") ++ r.2)).length ≤ 100000 := by
      rw [show Txt.join (Str.ofString "/") (List.replicate r.1 (Str.ofString "..") ++ r.2) = Str.join (Str.ofString "/") (List.replicate r.1 (Str.ofString "..") ++ r.2) from StrLaws.glued_eq_join _ _]
      rw [e1] at hjl
      (clear hn hsum hdp lK hvl l6 o1 l8 hb1 hb2 e1 e2; omega)
    have hR : readP names = if (Txt.join (Str.ofString "/") (List.replicate r.1 (Str.ofString "..") ++ r.2)).length = 0 then Str.ofString "." else Txt.join (Str.ofString "/") (List.replicate r.1 (Str.ofString "..") ++ r.2) := by rw [hr]; rfl
    clear w1 w2 hjl hjo em el
    generalize Txt.join (Str.ofString "/") (List.replicate r.1 (Str.ofString "..") ++ r.2) = z at *
    (repeat' (first | (k_unfold; (try dsimp only)) | ((with_reducible show wpAny _ _ (storeName _ _ _) _ _ _); (try dsimp only); walk1) | ((with_reducible show PySem.wpAt _ _ _ _ _ _ _); walk_at "wpAt") | ((fail_if_success (with_reducible refine Stop.go (by constructor) ?_)); first | walk1 | (dsimp only; walk1))))
    · rename_i ne9
      rw [if_neg (by (clear hn hsum hdp lK hvl l6 o1 l8 hb1 hb2 e1 e2 hjl2; omega))] at hR
      rw [← hR]
      exact ret _ _ _ fun b o hb e => by
        by_cases hbl' : b = l
        · subst hbl'
          rw [hl] at e; cases e
          exact (N10 _ (.tail _ (.tail _ (.tail _ (.head _))))).1
        · exact F10.keep b o (KP b o (by simp [hbl']) e)
    · rename_i ne9
      rw [if_pos (by (clear hn hsum hdp lK hvl l6 o1 l8 hb1 hb2 e1 e2 hjl2; omega))] at hR
      rw [← hR]
      exact ret _ _ _ fun b o hb e => by
        by_cases hbl' : b = l
        · subst hbl'
          rw [hl] at e; cases e
          exact (N10 _ (.tail _ (.tail _ (.tail _ (.head _))))).1
        · exact F10.keep b o (KP b o (by simp [hbl']) e)

end
section
variable {w : World} {mg mb : Str → Option Value} {mean : ExcName → Option Value} {dp un : Nat} {gd : Option (List Code)} {fr : List Env} {base : Heap} {s : Shared} {Q E : Value → Shared → Prop}
theorem normpath_spec
  {x : Str} {t : Tok}
  (X : (Mine.heapK w.params).In base) (T : Top topProg GL mean mg mb base) (hS : base.StaysIn s.heap)
  (hx : x.length ≤ 1000000) (hns : (Txt.slice x none (some 1) != Str.ofString "/") = true) (hx0 : x.length ≠ 0)
  (hdp : dp < 700) (_hu : un < 800)
  (ret : ∀ h' tk' t', Keep [] s.heap h' → Q (.str (normP x) t') { s with heap := h', toks := tk' }) :
  wpAny (model PySem.Challenge.rw_ik0220_01.row.prog w) (amb dp un gd fr) (call (.ref 325) [.str x t]) Q E s := by
  revert X; k_fill; intro X
  refine wpAny_call ?_
  k_dflt (refine' enterF [(Str.ofString "path", .str x t)] [] ?kX ?kT hS ?kD ?kho ?khcd ?kroom ?kb ?kl ?kr ?_ ?c1 ?c2 ?c3 ?c4; (
  (case kX => assumption); (case kT => assumption); (case kho => k_is); (case khcd => k_is); (case kb => first | exact BindsTo.of_eq rfl | exact binds_K (by k_in) rfl (by k_is) rfl rfl rfl);
  (case kl => exact locs rfl); (case kr => exact rfl); (case c1 => exact rfl); (case c2 => exact rfl); (case c3 => exact rfl); (case c4 => decide); (case kroom => first | exact rm0 hdp rfl | (simp only [recursionLimit]; omega))); (case kD => exact fun _ hq => no_mem hq))
  intro g L h1 fr' tk F N X1 T1 KP LTs
  k_fold
  (repeat' (first | (k_unfold; (try dsimp only)) | ((with_reducible show wpAny _ _ (storeName _ _ _) _ _ _); (try dsimp only); walk1) | ((with_reducible show PySem.wpAt _ _ _ _ _ _ _); walk_at "wpAt") | ((fail_if_success (with_reducible refine Stop.go (by constructor) ?_)); first | walk1 | (dsimp only; walk1))))
  refine fspath_spec X1 T1 F.keep (by (clear hx hx0; omega)) (by (clear hx hx0 hdp; omega)) fun h2 tk2 k2 => ?_
  have F2 := Mine.Fr.kept (h' := h2) (D := []) F k2 (fun b hb => no_mem hb) (fun hb => no_mem hb)
  have N2 : News g L h2 [] := fun _ hp => no_mem hp
  clear F N
  (repeat' (first | (k_unfold; (try dsimp only)) | ((with_reducible show wpAny _ _ (storeName _ _ _) _ _ _); (try dsimp only); walk1) | ((with_reducible show PySem.wpAt _ _ _ _ _ _ _); walk_at "wpAt") | ((fail_if_success (with_reducible refine Stop.go (by constructor) ?_)); first | walk1 | (dsimp only; walk1))))
  · rename_i d0 e0 dA d1 dB d2 dC d3 h3 F3 N3 d4 hne
    refine splitroot_spec X1 T1 F3.keep hx hns (by (clear hx hx0 hne; omega)) (by (clear hx hx0 hdp hne; omega)) fun h4 tk4 P t1 t2 k4 eP => ?_
    have F4 := Mine.Fr.kept (h' := h4) (D := []) F3 k4 (fun b hb => no_mem hb) (fun hb => no_mem hb)
    have N4 : News g L h4 [] := fun _ hp => no_mem hp
    clear F3 N3
    refine unpackN_ F4 N4 (items := #[_, _, _]) ⟨_, eP, rfl, _, rfl⟩ rfl rfl rfl fun h5 F5 N5 => ?_
    clear F4 N4
    (repeat' (first | (k_unfold; (try dsimp only)) | ((with_reducible show wpAny _ _ (storeName _ _ _) _ _ _); (try dsimp only); walk1) | ((with_reducible show PySem.wpAt _ _ _ _ _ _ _); walk_at "wpAt") | ((fail_if_success (with_reducible refine Stop.go (by constructor) ?_)); first | walk1 | (dsimp only; walk1))))
    rename_i hX tX l eS kX eL eS2 hB eI hY nc hZ lc h6 F6 N6
    refine for_list g L hX.objs.size (strValues l) 0 (fun i g' m news => g' = s.gens ∧ ∃ u stk vs k, m = KF (npK d1 d2 d3 t2 nc) u ∧ news = [(nc, listOf vs.toArray k)] ∧ StrsAre vs stk ∧ stk = (((l.map (·.1)).take i).foldl nstep [])) rfl (toKF (npK d1 d2 d3 t2 nc) F6 ⟨rfl, rfl, rfl, rfl, rfl, trivial⟩) (Mine.News.sub N6 (news' := [(hX.objs.size, listOf (strValues l).toArray 0), (nc, listOf #[] 0)]) (by ((try simp only [List.cons_append, List.nil_append]); repeat' (first | exact .head _ | refine .tail _ ?_ | exact List.forall_mem_nil _ | refine List.forall_mem_cons.mpr ⟨?_, ?_⟩ | assumption | intro _ _)))) ⟨rfl, _, [], [], 0, rfl, rfl, .nil, rfl⟩ ?_ ?_ ?_ ?_
    · rintro i g' m news ⟨-, u, stk, vs, k, -, rfl, -, -⟩ p hp
      rw [List.mem_singleton.mp hp]
      simp
    · (repeat' (first | (k_unfold; (try dsimp only)) | ((with_reducible show wpAny _ _ (storeName _ _ _) _ _ _); (try dsimp only); walk1) | ((with_reducible show PySem.wpAt _ _ _ _ _ _ _); walk_at "wpAt") | ((fail_if_success (with_reducible refine Stop.go (by constructor) ?_)); first | walk1 | (dsimp only; walk1))))
      try exact ⟨rfl, rfl⟩
    · rintro i v h' g' tk9 m news oI hv ⟨rfl, u, stk, vs, k, rfl, rfl, hA, hst⟩ F7 N7 lI
      obtain ⟨c, tc, rfl, hc⟩ := strValues_at hv
      have hcl : c.length ≤ 1000000 := Nat.le_trans (hB c (List.mem_of_getElem? hc)) hx
      have hl1 := PyProof.Rows.len_le_of_split eL
      have hi : i < l.length := by have := (List.getElem?_eq_some_iff.mp hc).1; simpa using this
      have hsl : stk.length ≤ i := by
        have := nfold_len ((l.map (·.1)).take i) []
        rw [← hst] at this
        simp at this
        (clear hx hx0 hdp hne lc hcl hl1; omega)
      have hvl : vs.length ≤ 1000002 := by rw [hA.length]; (clear hx0 hdp hne lc hcl; omega)
      clear F6 N6
      dsimp only at N7 lI
      have o1 : @LT.lt Nat _ hX.objs.size nc := lc
      have o2 : @LT.lt Nat _ nc h6.objs.size := lI _ (.tail _ (.head _))
      have o3 : @LT.lt Nat _ hX.objs.size h6.objs.size := lI _ (.head _)
      (repeat' (first | (k_unfold; (try dsimp only)) | ((with_reducible show wpAny _ _ (storeName _ _ _) _ _ _); (try dsimp only); walk1) | ((with_reducible show PySem.wpAt _ _ _ _ _ _ _); walk_at "wpAt") | ((fail_if_success (with_reducible refine Stop.go (by constructor) ?_)); first | walk1 | (dsimp only; walk1))))
      · rename_i hM F8 N8 tX8 e1 e2
        have e3 : c = Str.ofString "." := eq_of_beq e2
        exact LpP.cont (news := [(nc, listOf vs.toArray k)]) (toKF (npK d1 d2 d3 t2 nc) F8 ⟨rfl, rfl, rfl, rfl, rfl, trivial⟩) N8 ⟨rfl, _, stk, vs, k, rfl, rfl, hA, nfold_at hc hst (by rw [e3]; exact nstep_dot)⟩
      · rename_i hM F8 N8 tX8 e1 e2 e3
        have ne1 : c ≠ Str.ofString "" := str_nonempty' (by (clear hx hx0 hdp hne lc hcl hl1 hi hsl hvl o1 o2 o3 hfact htie; omega))
        have ne2 : c ≠ Str.ofString "." := fun q => by rw [q] at e2; simp at e2
        have ne3 : c ≠ Str.ofString ".." := fun q => by rw [q] at e3; simp at e3
        refine append_K F8 N8 (by k_upd) (fun h9 F9 N9 => ?_) (by rw [List.size_toArray, sizeLine_eq]; (clear hx hx0 hdp hne lc hcl hl1 hi hsl o1 o2 o3 hfact htie e1 ne1 ne2 ne3; omega))
        clear F8 N8
        (repeat' (first | (k_unfold; (try dsimp only)) | ((with_reducible show wpAny _ _ (storeName _ _ _) _ _ _); (try dsimp only); walk1) | ((with_reducible show PySem.wpAt _ _ _ _ _ _ _); walk_at "wpAt") | ((fail_if_success (with_reducible refine Stop.go (by constructor) ?_)); first | walk1 | (dsimp only; walk1))))
        exact LpP.next (news := [(nc, listOf (vs ++ [Value.str c tc]).toArray (k + 1))]) (toKF (npK d1 d2 d3 t2 nc) F9 ⟨rfl, rfl, rfl, rfl, rfl, trivial⟩) (by simpa using N9) ⟨rfl, _, stk ++ [c], _, _, rfl, rfl, hA.snoc _ _, nfold_at hc hst (nstep_name ne1 ne2 ne3)⟩
      · rename_i hM F8 N8 tX8 e1 e2 e3 kk
        have ne1 : c ≠ Str.ofString "" := str_nonempty' (by (clear hx hx0 hdp hne lc hcl hl1 hi hsl hvl o1 o2 o3 hfact htie; omega))
        have ne2 : c ≠ Str.ofString "." := fun q => by rw [q] at e2; simp at e2
        have ne3 : c = Str.ofString ".." := by simpa using e3
        by_cases hvs : vs = []
        · subst hvs
          cases hA
          refine truthy_li0 (N8 _ (.tail _ (.tail _ (.head _)))).1 fun k2 => ?_
          (repeat' (first | (k_unfold; (try dsimp only)) | ((with_reducible show wpAny _ _ (storeName _ _ _) _ _ _); (try dsimp only); walk1) | ((with_reducible show PySem.wpAt _ _ _ _ _ _ _); walk_at "wpAt") | ((fail_if_success (with_reducible refine Stop.go (by constructor) ?_)); first | walk1 | (dsimp only; walk1))))
          refine append_K F8 N8 (by k_upd) (fun h9 F9 N9 => ?_) (by rw [sizeLine_eq]; simp)
          clear F8 N8
          (repeat' (first | (k_unfold; (try dsimp only)) | ((with_reducible show wpAny _ _ (storeName _ _ _) _ _ _); (try dsimp only); walk1) | ((with_reducible show PySem.wpAt _ _ _ _ _ _ _); walk_at "wpAt") | ((fail_if_success (with_reducible refine Stop.go (by constructor) ?_)); first | walk1 | (dsimp only; walk1))))
          exact LpP.next (news := [(nc, listOf ([.str c tc] : List Value).toArray (k + 1))]) (toKF (npK d1 d2 d3 t2 nc) F9 ⟨rfl, rfl, rfl, rfl, rfl, trivial⟩) (by simpa using N9) ⟨rfl, _, [c], _, _, rfl, rfl, .cons .nil, nfold_at hc hst (by rw [ne3]; exact nstep_up0)⟩
        · obtain ⟨vs', y, rfl⟩ := snoc_of hvs
          obtain ⟨stk', z, tz, rfl, rfl, hA'⟩ := hA.unsnoc
          have hvl' : vs'.length < 10000000 := by rw [List.length_append, List.length_singleton] at hvl; (clear hx hx0 hdp hne lc hcl hl1 hi o1 o2 o3 hfact htie e1 ne1 ne2 hsl hvs; omega)
          refine truthy_li1 (N8 _ (.tail _ (.tail _ (.head _)))).1 hvl' fun k2 => ?_
          (repeat' (first | (k_unfold; (try dsimp only)) | ((with_reducible show wpAny _ _ (storeName _ _ _) _ _ _); (try dsimp only); walk1) | ((with_reducible show PySem.wpAt _ _ _ _ _ _ _); walk_at "wpAt") | ((fail_if_success (with_reducible refine Stop.go (by constructor) ?_)); first | walk1 | (dsimp only; walk1))))
          refine truthy_li1 (N8 _ (.tail _ (.tail _ (.head _)))).1 hvl' fun k3 => ?_
          (repeat' (first | (k_unfold; (try dsimp only)) | ((with_reducible show wpAny _ _ (storeName _ _ _) _ _ _); (try dsimp only); walk1) | ((with_reducible show PySem.wpAt _ _ _ _ _ _ _); walk_at "wpAt") | ((fail_if_success (with_reducible refine Stop.go (by constructor) ?_)); first | walk1 | (dsimp only; walk1))))
          refine sub_last (N8 _ (.tail _ (.tail _ (.head _)))).1 hvl' ?_
          (repeat' (first | (k_unfold; (try dsimp only)) | ((with_reducible show wpAny _ _ (storeName _ _ _) _ _ _); (try dsimp only); walk1) | ((with_reducible show PySem.wpAt _ _ _ _ _ _ _); walk_at "wpAt") | ((fail_if_success (with_reducible refine Stop.go (by constructor) ?_)); first | walk1 | (dsimp only; walk1))))
          · rename_i ez
            have ez' : z = Str.ofString ".." := eq_of_beq ez
            refine append_K F8 N8 (by k_upd) (fun h9 F9 N9 => ?_) (by rw [List.size_toArray, sizeLine_eq]; (clear hx hx0 hdp hne lc hcl hl1 hi o1 o2 o3 hfact htie e1 ne1 ne2 hsl hvs hvl'; omega))
            clear F8 N8
            (repeat' (first | (k_unfold; (try dsimp only)) | ((with_reducible show wpAny _ _ (storeName _ _ _) _ _ _); (try dsimp only); walk1) | ((with_reducible show PySem.wpAt _ _ _ _ _ _ _); walk_at "wpAt") | ((fail_if_success (with_reducible refine Stop.go (by constructor) ?_)); first | walk1 | (dsimp only; walk1))))
            exact LpP.next (news := [(nc, listOf ((vs' ++ [Value.str z tz]) ++ [Value.str c tc]).toArray (k + 1))]) (toKF (npK d1 d2 d3 t2 nc) F9 ⟨rfl, rfl, rfl, rfl, rfl, trivial⟩) (by simpa using N9) ⟨rfl, _, (stk' ++ [z]) ++ [c], _, _, rfl, rfl, hA.snoc _ _, nfold_at hc hst (by rw [ne3, ez']; exact nstep_up1)⟩
          · rename_i ez
            have ez' : z ≠ Str.ofString ".." := fun q => by rw [q] at ez; simp at ez
            refine truthy_li1 (N8 _ (.tail _ (.tail _ (.head _)))).1 hvl' fun k4 => ?_
            (repeat' (first | (k_unfold; (try dsimp only)) | ((with_reducible show wpAny _ _ (storeName _ _ _) _ _ _); (try dsimp only); walk1) | ((with_reducible show PySem.wpAt _ _ _ _ _ _ _); walk_at "wpAt") | ((fail_if_success (with_reducible refine Stop.go (by constructor) ?_)); first | walk1 | (dsimp only; walk1))))
            refine kl_pop F8 N8 (p := vs') (y := .str z tz) (kpa_last _ vs') (by k_upd) (by rw [sizeLine_eq]; simp; (clear hx hx0 hdp hne lc hcl hl1 hi o1 o2 o3 hfact htie e1 ne1 ne2 hsl hvl hvs ez'; omega)) fun h9 F9 N9 => ?_
            clear F8 N8
            (repeat' (first | (k_unfold; (try dsimp only)) | ((with_reducible show wpAny _ _ (storeName _ _ _) _ _ _); (try dsimp only); walk1) | ((with_reducible show PySem.wpAt _ _ _ _ _ _ _); walk_at "wpAt") | ((fail_if_success (with_reducible refine Stop.go (by constructor) ?_)); first | walk1 | (dsimp only; walk1))))
            exact LpP.next (news := [(nc, listOf vs'.toArray (k + 1))]) (toKF (npK d1 d2 d3 t2 nc) F9 ⟨rfl, rfl, rfl, rfl, rfl, trivial⟩) (by simpa using N9) ⟨rfl, _, stk', _, _, rfl, rfl, hA', nfold_at hc hst (by rw [ne3]; exact nstep_up2 ez')⟩
      · rename_i hM F8 N8 tX8 e1
        have e3 : c = Str.ofString "" := str_empty' (by (clear hx hx0 hdp hne lc hcl hl1 hi hsl hvl o1 o2 o3 hfact htie; omega))
        exact LpP.cont (news := [(nc, listOf vs.toArray k)]) (toKF (npK d1 d2 d3 t2 nc) F8 ⟨rfl, rfl, rfl, rfl, rfl, trivial⟩) N8 ⟨rfl, _, stk, vs, k, rfl, rfl, hA, nfold_at hc hst (by rw [e3]; exact nstep_nil)⟩
    · rintro h' g' tk9 m news ⟨rfl, u, stk, vs, k, rfl, rfl, hA, hst⟩ F7 N7
      (repeat' (first | (k_unfold; (try dsimp only)) | ((with_reducible show wpAny _ _ (storeName _ _ _) _ _ _); (try dsimp only); walk1) | ((with_reducible show PySem.wpAt _ _ _ _ _ _ _); walk_at "wpAt") | ((fail_if_success (with_reducible refine Stop.go (by constructor) ?_)); first | walk1 | (dsimp only; walk1))))
      rename_i hM F8 N8
      obtain ⟨l9, el, em⟩ := hA.values
      have eparts : (l.map (·.1)).take (strValues l).length = Txt.split x (Str.ofString "/") := by
        rw [← eL]
        refine List.take_of_length_le ?_
        show (l.map (·.1)).length ≤ (l.map fun p => Value.str p.1 p.2).length
        simp
      rw [eparts] at hst
      have w1 := PyProof.Rows.split_weight x (Str.ofString "/") (by decide)
      have w2 := nfold_sum (Txt.split x (Str.ofString "/")) []
      have w3 := nfold_len (Txt.split x (Str.ofString "/")) []
      rw [← hst] at w2 w3
      have hjo : JoinOk (Str.ofString "/") stk = true := joinOk_of (by
        have e1 : (Str.ofString "/").length = 1 := rfl
        simp only [List.map_nil, List.sum_nil, List.length_nil] at w2 w3
        rw [e1]
        (clear hx0 hdp hne lc e1; omega))
      have hjl := StrLaws.join_length_le (Str.ofString "/") stk
      refine SC.join (l := l9) ⟨_, (N8 _ (.tail _ (.head _))).1, rfl, _, by rw [el]⟩ em hjo fun t9 k9 => ?_
      have hjl2 : (Txt.join (Str.ofString "/") stk).length ≤ 1000002 := by
        have e1 : (Str.ofString "/").length = 1 := rfl
        rw [e1] at hjl
        simp only [List.map_nil, List.sum_nil, List.length_nil] at w2 w3
        rw [show Txt.join (Str.ofString "/") stk = Str.join (Str.ofString "/") stk from StrLaws.glued_eq_join _ _]
        (clear hx0 hdp hne lc e1; omega)
      have hnP : normP x = if (Txt.join (Str.ofString "/") stk).length = 0 then Str.ofString "." else Txt.join (Str.ofString "/") stk := by rw [hst]; rfl
      have hemp : Str.ofString "" ++ Txt.join (Str.ofString "/") stk = Txt.join (Str.ofString "/") stk := str_empty_app _
      clear w1 w2 w3 hjl hjo eparts em el hst hA
      (repeat' (first | (k_unfold; (try dsimp only)) | ((with_reducible show wpAny _ _ (storeName _ _ _) _ _ _); (try dsimp only); walk1) | ((with_reducible show PySem.wpAt _ _ _ _ _ _ _); walk_at "wpAt") | ((fail_if_success (with_reducible refine Stop.go (by constructor) ?_)); first | walk1 | (dsimp only; walk1))))
      rw [hemp]
      (repeat' (first | (k_unfold; (try dsimp only)) | ((with_reducible show wpAny _ _ (storeName _ _ _) _ _ _); (try dsimp only); walk1) | ((with_reducible show PySem.wpAt _ _ _ _ _ _ _); walk_at "wpAt") | ((fail_if_success (with_reducible refine Stop.go (by constructor) ?_)); first | walk1 | (dsimp only; walk1))))
      · rename_i ne9
        rw [if_neg (by (clear hx hx0 hdp hne lc hjl2 hfact htie; omega))] at hnP
        rw [← hnP]
        exact ret _ _ _ fun b o hb e => by
          first | exact F8.keep b o (KP b o hb e) | (rename_i F9 N9; exact F9.keep b o (KP b o hb e))
      · rename_i ne9
        rw [if_pos (by (clear hx hx0 hdp hne lc hjl2 hfact htie; omega))] at hnP
        rw [← hnP]
        exact ret _ _ _ fun b o hb e => by
          first | exact F8.keep b o (KP b o hb e) | (rename_i F9 N9; exact F9.keep b o (KP b o hb e))
  · rename_i e0
    exact absurd e0 (by (clear hx hdp; omega))

end
section
variable {w : World} {mg mb : Str → Option Value} {mean : ExcName → Option Value} {dp un : Nat} {gd : Option (List Code)} {fr : List Env} {base : Heap} {s : Shared} {Q E : Value → Shared → Prop}
theorem par_eq {k : Nat} (h : 0 < k) : Int.fdiv ((k : Int) - 1) (2 ^ Int.toNat 1) = ((Par k : Nat) : Int) := by
  have e : (2 : Int) ^ Int.toNat 1 = 2 := rfl
  rw [e, Int.fdiv_eq_ediv_of_nonneg _ (by (clear h e; omega))]
  unfold Par
  (clear e; omega)
theorem siftdown_spec
  {a : Addr} {vs : List Value} {ds : List DD} {n : Nat} {pos : Nat} {x : DD} {sh : List Bool} {ti t0 : Tok}
  (X : (Mine.heapK w.params).In base) (T : Top topProg GL mean mg mb base) (hS : base.StaysIn s.heap)
  (ha : s.heap.get? a = some (listOf vs.toArray n)) (hb : base.get? a = none)
  (hA : AllAt (TupAt s.heap) vs ds) (hsh : ∀ d ∈ ds, d.map Pv.isI = sh) (hpos : pos < ds.length) (hx : nth ds pos = x) (inv : DInv lexLt ds pos x) (hsz : ds.length ≤ 1000000)
  (hdp : dp < 900) (hu : un < 1000)
  (ret : ∀ vs' ds' h' tk', Keep [a] s.heap h' → h'.get? a = some (listOf vs'.toArray n) → AllAt (TupAt h') vs' ds' → HeapOk lexLt ds' → ds'.Perm ds → Q .none { s with heap := h', toks := tk' }) :
  wpAny (model PySem.Challenge.rw_ik0220_01.row.prog w) (amb dp un gd fr) (call (.ref 203) [.ref a, .int 0 t0, .int (pos : Int) ti]) Q E s := by
  revert X; k_fill; intro X
  refine wpAny_call ?_
  k_dflt (refine' enterF [(Str.ofString "pos", .int (pos : Int) ti), (Str.ofString "startpos", .int 0 t0), (Str.ofString "heap", .ref a)] [(a, listOf vs.toArray n)] ?kX ?kT hS ?kD ?kho ?khcd ?kroom ?kb ?kl ?kr ?_ ?c1 ?c2 ?c3 ?c4; (
  (case kX => assumption); (case kT => assumption); (case kho => k_is); (case khcd => k_is); (case kb => first | exact BindsTo.of_eq rfl | exact binds_K (by k_in) rfl (by k_is) rfl rfl rfl);
  (case kl => exact locs rfl); (case kr => exact rfl); (case c1 => exact rfl); (case c2 => exact rfl); (case c3 => exact rfl); (case c4 => decide); (case kroom => first | exact rm0 hdp rfl | (simp only [recursionLimit]; omega))); (case kD => intro q hq; rcases List.mem_singleton.mp hq with rfl; exact ⟨ha, hb⟩))
  intro g L h1 fr' tk F N X1 T1 KP LT
  k_fold
  have hAg : AllAt (TupAt g) vs ds := hA.mono fun v d z => z.kept KP fun b hb o ho => by
    simp at hb; subst hb; rw [ha] at ho; cases ho; simp
  (repeat' (first | (k_unfold; (try dsimp only)) | ((with_reducible show wpAny _ _ (storeName _ _ _) _ _ _); (try dsimp only); walk1) | ((with_reducible show PySem.wpAt _ _ _ _ _ _ _); walk_at "wpAt") | ((fail_if_success (with_reducible refine Stop.go (by constructor) ?_)); first | walk1 | (dsimp only; walk1))))
  obtain ⟨v, hv, tv⟩ := hAg.get hpos
  refine sub_list (N _ (List.mem_cons_self ..)).1 (by (clear hsz hdp hu; omega)) (by (clear hdp hu; omega)) (by simpa using hv) ?_
  (repeat' (first | (k_unfold; (try dsimp only)) | ((with_reducible show wpAny _ _ (storeName _ _ _) _ _ _); (try dsimp only); walk1) | ((with_reducible show PySem.wpAt _ _ _ _ _ _ _); walk_at "wpAt") | ((fail_if_success (with_reducible refine Stop.go (by constructor) ?_)); first | walk1 | (dsimp only; walk1))))
  rename_i h2 F2 N2
  have hvx : x = ds[pos] := by rw [← hx]; simp [nth, List.getD_eq_getElem?_getD, hpos]
  rw [← hvx] at tv
  have hshx : x.map Pv.isI = sh := hvx ▸ hsh _ (List.getElem_mem _)
  have F3 := toKF [(Str.ofString "heap", .ref a), (Str.ofString "startpos", .int 0 t0), (Str.ofString "newitem", v), (Str.ofString "pos", .int (pos : Int) ti)] F2 ⟨rfl, rfl, rfl, rfl, trivial⟩
  clear F2
  refine while_D (fun k s' => ∃ h tk u vs' ds' tp, s' = { s with heap := h, toks := tk } ∧
    Fr g L h (KF [(Str.ofString "heap", .ref a), (Str.ofString "startpos", .int 0 t0), (Str.ofString "newitem", v), (Str.ofString "pos", .int (k : Int) tp)] u) ∧ News g L h [(a, listOf vs'.toArray n)] ∧
    AllAt (TupAt g) vs' ds' ∧ DInv lexLt ds' k x ∧ k < ds'.length ∧ ds'.length = ds.length ∧ (ds'.set k x).Perm ds ∧ ∀ d ∈ ds', d.map Pv.isI = sh)
    (fun s' => ∃ (k : Nat) (h : Heap) (tk : Nat) (u : Str → Option Value) (vs' : List Value) (ds' : List DD) (tp : Tok), s' = { s with heap := h, toks := tk } ∧
    Fr g L h (KF [(Str.ofString "heap", .ref a), (Str.ofString "startpos", .int 0 t0), (Str.ofString "newitem", v), (Str.ofString "pos", .int (k : Int) tp)] u) ∧ News g L h [(a, listOf vs'.toArray n)] ∧
    AllAt (TupAt g) vs' ds' ∧ k < ds'.length ∧ ds'.length = ds.length ∧ (ds'.set k x).Perm ds ∧ HeapOk lexLt (ds'.set k x)) pos ?_ ?_ ?_
  · refine ⟨_, _, _, _, _, _, rfl, F3, N2, hAg, inv, hpos, rfl, ?_, hsh⟩
    rw [hvx, List.set_getElem_self]
  · clear N2 F3 hv inv hAg
    rintro k _ ⟨h3, tk3, u3, vs3, ds3, tp3, rfl, F3, N3, A3, I3, hk3, hl3, hp3, hs3⟩
    (repeat' (first | (k_unfold; (try dsimp only)) | ((with_reducible show wpAny _ _ (storeName _ _ _) _ _ _); (try dsimp only); walk1) | ((with_reducible show PySem.wpAt _ _ _ _ _ _ _); walk_at "wpAt") | ((fail_if_success (with_reducible refine Stop.go (by constructor) ?_)); first | walk1 | (dsimp only; walk1))))
    by_cases hk0 : 0 < k
    · refine WhlIf.yes (by simp; (clear hsz hdp hu hk3 hl3; omega)) ?_
      k_fold
      (repeat' (first | (k_unfold; (try dsimp only)) | ((with_reducible show wpAny _ _ (storeName _ _ _) _ _ _); (try dsimp only); walk1) | ((with_reducible show PySem.wpAt _ _ _ _ _ _ _); walk_at "wpAt") | ((fail_if_success (with_reducible refine Stop.go (by constructor) ?_)); first | walk1 | (dsimp only; walk1))))
      rename_i h4 F4 N4
      try dsimp only at F4 N4 ⊢
      rw [par_eq hk0] at F4 ⊢
      have hpk := par_lt hk0
      obtain ⟨v2, hv2, tv2⟩ := A3.get (Nat.lt_trans hpk hk3)
      refine sub_list (N4 _ (List.mem_cons_self ..)).1 (by (clear hsz hdp hu hl3 hk0; omega)) (by (clear hdp hu; omega)) (by simpa using hv2) ?_
      (repeat' (first | (k_unfold; (try dsimp only)) | ((with_reducible show wpAny _ _ (storeName _ _ _) _ _ _); (try dsimp only); walk1) | ((with_reducible show PySem.wpAt _ _ _ _ _ _ _); walk_at "wpAt") | ((fail_if_success (with_reducible refine Stop.go (by constructor) ?_)); first | walk1 | (dsimp only; walk1))))
      rename_i h5 F5 N5
      try dsimp only at F5 N5 ⊢
      refine cmp_tup (tv.keeps F5.keep) (tv2.keeps F5.keep) (by rw [hshx, hs3 _ (List.getElem_mem _)]) (by show un + 3 < cLine; rw [cLine_is]; (clear hsz hdp hl3 hk0; omega)) ?_
      (repeat' (first | (k_unfold; (try dsimp only)) | ((with_reducible show wpAny _ _ (storeName _ _ _) _ _ _); (try dsimp only); walk1) | ((with_reducible show PySem.wpAt _ _ _ _ _ _ _); walk_at "wpAt") | ((fail_if_success (with_reducible refine Stop.go (by constructor) ?_)); first | walk1 | (dsimp only; walk1))))
      · rename_i tk5 hlt
        refine set_list F5 N5 (fun _ h => no_mem h) (by (clear hsz hdp hu hl3; omega)) (by (clear hdp hu hk0; omega)) (by rw [A3.length]; (clear hsz hdp hu hl3 hk0; omega)) ?_
        intro h6 F6 N6
        (repeat' (first | (k_unfold; (try dsimp only)) | ((with_reducible show wpAny _ _ (storeName _ _ _) _ _ _); (try dsimp only); walk1) | ((with_reducible show PySem.wpAt _ _ _ _ _ _ _); walk_at "wpAt") | ((fail_if_success (with_reducible refine Stop.go (by constructor) ?_)); first | walk1 | (dsimp only; walk1))))
        rename_i h7 F7 N7
        try dsimp only at F7 N7 ⊢
        have en : ds3[Par k] = nth ds3 (Par k) := by simp [nth, List.getD_eq_getElem?_getD, Nat.lt_trans hpk hk3]
        rw [en] at hlt tv2
        refine WhlP.cont (Par k) hpk ⟨_, _, _, _, ds3.set k (nth ds3 (Par k)), _, rfl, toKF [(Str.ofString "heap", .ref a), (Str.ofString "startpos", .int 0 t0), (Str.ofString "newitem", v), (Str.ofString "pos", .int (Par k : Int) _)] F7 ⟨rfl, rfl, rfl, rfl, trivial⟩, N7,
          A3.set tv2 k, I3.step (lexLt_ok sh) hs3 hshx hk3 hk0 hlt, by rw [List.length_set]; (clear hsz hdp hu hl3 hk0; omega), by rw [List.length_set]; exact hl3, (set_swap_perm hk3 (Nat.lt_trans hpk hk3) (Nat.ne_of_gt hpk) x).trans hp3, ?_⟩
        exact set_mem_all hs3 (hs3 _ (nth_mem (Nat.lt_trans hpk hk3)))
      · rename_i tk5 hlt
        have en : ds3[Par k] = nth ds3 (Par k) := by simp [nth, List.getD_eq_getElem?_getD, Nat.lt_trans hpk hk3]
        rw [en] at hlt
        exact WhlP.brk ⟨k, _, _, _, _, _, _, rfl, toKF [(Str.ofString "heap", .ref a), (Str.ofString "startpos", .int 0 t0), (Str.ofString "newitem", v), (Str.ofString "pos", .int (k : Int) _)] F5 ⟨rfl, rfl, rfl, rfl, trivial⟩, N5, A3, hk3, hl3, hp3, I3.done hk3 (.inr hlt)⟩
    · refine WhlIf.no (by simp; (clear hsz hdp hu hk3 hl3; omega)) ⟨k, _, _, _, _, _, _, rfl, F3, N3, A3, hk3, hl3, hp3, I3.done hk3 (.inl (by (clear hsz hdp hu hk3 hl3; omega)))⟩
  · clear N2 F3 hv inv hAg
    rintro _ ⟨k, h3, tk3, u3, vs3, ds3, tp3, rfl, F3, N3, A3, hk3, hl3, hp3, hO⟩
    (repeat' (first | (k_unfold; (try dsimp only)) | ((with_reducible show wpAny _ _ (storeName _ _ _) _ _ _); (try dsimp only); walk1) | ((with_reducible show PySem.wpAt _ _ _ _ _ _ _); walk_at "wpAt") | ((fail_if_success (with_reducible refine Stop.go (by constructor) ?_)); first | walk1 | (dsimp only; walk1))))
    refine set_list F3 N3 (fun _ h => no_mem h) (by (clear hsz hdp hu hk3 hl3; omega)) (by (clear hdp hu; omega)) (by rw [A3.length]; (clear hsz hdp hu hl3; omega)) ?_
    intro h4 F4 N4
    (repeat' (first | (k_unfold; (try dsimp only)) | ((with_reducible show wpAny _ _ (storeName _ _ _) _ _ _); (try dsimp only); walk1) | ((with_reducible show PySem.wpAt _ _ _ _ _ _ _); walk_at "wpAt") | ((fail_if_success (with_reducible refine Stop.go (by constructor) ?_)); first | walk1 | (dsimp only; walk1))))
    refine ret _ _ _ _ (fun b o hb e => F4.keep b o (KP b o (by simpa using hb) e)) (N4 _ (List.mem_cons_self ..)).1 ((A3.set tv k).mono fun _ _ z => z.keeps F4.keep) hO hp3

end
section
variable {w : World} {mg mb : Str → Option Value} {mean : ExcName → Option Value} {dp un : Nat} {gd : Option (List Code)} {fr : List Env} {base : Heap} {s : Shared} {Q E : Value → Shared → Prop}
theorem odd1 (p : Nat) : 2 * (p : Int) + 1 = ((2 * p + 1 : Nat) : Int) := by omega
theorem odd2 (p : Nat) : 2 * (p : Int) + 1 + 1 = ((2 * p + 2 : Nat) : Int) := by omega
theorem odd63 {p n : Nat} (h : p < n) (k : n ≤ 1000000) : (p : Int) < 2 ^ 63 := Int.lt_of_le_of_lt (Int.ofNat_le.mpr (Nat.le_trans (Nat.le_of_lt h) k)) (by decide)
theorem siftup_spec
  {a : Addr} {vs : List Value} {ds : List DD} {n : Nat} {sh : List Bool} {t0 : Tok}
  (X : (Mine.heapK w.params).In base) (T : Top topProg GL mean mg mb base) (hS : base.StaysIn s.heap)
  (ha : s.heap.get? a = some (listOf vs.toArray n)) (hb : base.get? a = none)
  (hA : AllAt (TupAt s.heap) vs ds) (hsh : ∀ d ∈ ds, d.map Pv.isI = sh) (hpos : 0 < ds.length) (inv : UInv lexLt ds 0) (hsz : ds.length ≤ 1000000)
  (hdp : dp < 800) (hu : un < 900)
  (ret : ∀ vs' ds' h' tk', Keep [a] s.heap h' → h'.get? a = some (listOf vs'.toArray n) → AllAt (TupAt h') vs' ds' → HeapOk lexLt ds' → ds'.Perm ds → Q .none { s with heap := h', toks := tk' }) :
  wpAny (model PySem.Challenge.rw_ik0220_01.row.prog w) (amb dp un gd fr) (call (.ref 210) [.ref a, .int 0 t0]) Q E s := by
  revert X; k_fill; intro X
  refine wpAny_call ?_
  k_dflt (refine' enterF [(Str.ofString "pos", .int 0 t0), (Str.ofString "heap", .ref a)] [(a, listOf vs.toArray n)] ?kX ?kT hS ?kD ?kho ?khcd ?kroom ?kb ?kl ?kr ?_ ?c1 ?c2 ?c3 ?c4; (
  (case kX => assumption); (case kT => assumption); (case kho => k_is); (case khcd => k_is); (case kb => first | exact BindsTo.of_eq rfl | exact binds_K (by k_in) rfl (by k_is) rfl rfl rfl);
  (case kl => exact locs rfl); (case kr => exact rfl); (case c1 => exact rfl); (case c2 => exact rfl); (case c3 => exact rfl); (case c4 => decide); (case kroom => first | exact rm0 hdp rfl | (simp only [recursionLimit]; omega))); (case kD => intro q hq; rcases List.mem_singleton.mp hq with rfl; exact ⟨ha, hb⟩))
  intro g L h1 fr' tk F N X1 T1 KP LT
  k_fold
  have hAg : AllAt (TupAt g) vs ds := hA.mono fun v d z => z.kept KP fun b hb o ho => by
    simp at hb; subst hb; rw [ha] at ho; cases ho; simp
  (repeat' (first | (k_unfold; (try dsimp only)) | ((with_reducible show wpAny _ _ (storeName _ _ _) _ _ _); (try dsimp only); walk1) | ((with_reducible show PySem.wpAt _ _ _ _ _ _ _); walk_at "wpAt") | ((fail_if_success (with_reducible refine Stop.go (by constructor) ?_)); first | walk1 | (dsimp only; walk1))))
  refine len_li (N _ (List.mem_cons_self ..)).1 (by rw [hA.length]; (clear hdp hu; omega)) fun t2 tk2 => ?_
  (repeat' (first | (k_unfold; (try dsimp only)) | ((with_reducible show wpAny _ _ (storeName _ _ _) _ _ _); (try dsimp only); walk1) | ((with_reducible show PySem.wpAt _ _ _ _ _ _ _); walk_at "wpAt") | ((fail_if_success (with_reducible refine Stop.go (by constructor) ?_)); first | walk1 | (dsimp only; walk1))))
  rename_i h2 F2 N2
  obtain ⟨v, hv, tv⟩ := hAg.get hpos
  refine sub_list (N2 _ (List.mem_cons_self ..)).1 (by (clear hsz hdp hu; omega)) (by (clear hsz hdp hu; omega)) (by simpa using hv) ?_
  (repeat' (first | (k_unfold; (try dsimp only)) | ((with_reducible show wpAny _ _ (storeName _ _ _) _ _ _); (try dsimp only); walk1) | ((with_reducible show PySem.wpAt _ _ _ _ _ _ _); walk_at "wpAt") | ((fail_if_success (with_reducible refine Stop.go (by constructor) ?_)); first | walk1 | (dsimp only; walk1))))
  rename_i h3 F3 N3
  have hvx : ds[0] = nth ds 0 := by simp [nth, List.getD_eq_getElem?_getD, hpos]
  rw [hvx] at tv
  have hshx := hsh _ (nth_mem hpos)
  generalize hx : nth ds 0 = x at tv hshx
  have hlv := hA.length
  refine while_D (fun k s' => ∃ (h : Heap) (tk : Nat) (u : Str → Option Value) (vs' : List Value) (ds' : List DD) (tp tc : Tok) (pos : Nat), s' = { s with heap := h, toks := tk } ∧
    Fr g L h (KF [(Str.ofString "heap", .ref a), (Str.ofString "startpos", .int 0 t0), (Str.ofString "newitem", v), (Str.ofString "pos", .int (pos : Int) tp), (Str.ofString "childpos", .int (2 * (pos : Int) + 1) tc), (Str.ofString "endpos", .int (vs.length : Int) t2)] u) ∧ News g L h [(a, listOf vs'.toArray n)] ∧
    AllAt (TupAt g) vs' ds' ∧ UInv lexLt ds' pos ∧ pos < ds'.length ∧ ds'.length = ds.length ∧ (ds'.set pos x).Perm ds ∧ (∀ d ∈ ds', d.map Pv.isI = sh) ∧ k = ds.length - pos)
    (fun s' => ∃ (h : Heap) (tk : Nat) (u : Str → Option Value) (vs' : List Value) (ds' : List DD) (tp : Tok) (pos : Nat), s' = { s with heap := h, toks := tk } ∧
    Fr g L h (KF [(Str.ofString "heap", .ref a), (Str.ofString "startpos", .int 0 t0), (Str.ofString "newitem", v), (Str.ofString "pos", .int (pos : Int) tp)] u) ∧ News g L h [(a, listOf vs'.toArray n)] ∧
    AllAt (TupAt g) vs' ds' ∧ pos < ds'.length ∧ ds'.length = ds.length ∧ (ds'.set pos x).Perm ds ∧ (∀ d ∈ ds', d.map Pv.isI = sh) ∧ DInv lexLt ds' pos x) (ds.length - 0) ?_ ?_ ?_
  · refine ⟨_, _, _, _, _, _, _, 0, rfl, toKF [(Str.ofString "heap", .ref a), (Str.ofString "startpos", .int 0 t0), (Str.ofString "newitem", v), (Str.ofString "pos", .int 0 t0), (Str.ofString "childpos", .int (2 * 0 + 1) _), (Str.ofString "endpos", .int (vs.length : Int) t2)] F3 ⟨rfl, rfl, rfl, rfl, rfl, rfl, trivial⟩, N3, hAg, inv, hpos, rfl, ?_, hsh, rfl⟩
    rw [← hx, ← hvx, List.set_getElem_self]
  · clear N3 F3 hv inv hAg
    rintro k _ ⟨h3, tk3, u3, vs3, ds3, tp3, tc3, pos, rfl, F3, N3, A3, I3, hk3, hl3, hp3, hs3, rfl⟩
    (repeat' (first | (k_unfold; (try dsimp only)) | ((with_reducible show wpAny _ _ (storeName _ _ _) _ _ _); (try dsimp only); walk1) | ((with_reducible show PySem.wpAt _ _ _ _ _ _ _); walk_at "wpAt") | ((fail_if_success (with_reducible refine Stop.go (by constructor) ?_)); first | walk1 | (dsimp only; walk1))))
    by_cases hc : 2 * pos + 1 < ds3.length
    · refine WhlIf.yes (by simp; (clear hsz hdp hu hk3; omega)) ?_
      k_fold
      have hP1 : Par (2 * pos + 1) = pos := by unfold Par; (clear hsz hdp hu hlv hk3 hl3 hc; omega)
      have hP2 : Par (2 * pos + 2) = pos := by unfold Par; (clear hsz hdp hu hlv hk3 hl3 hc; omega)
      have kids : ∀ j, 0 < j → Par j = pos → j = 2 * pos + 1 ∨ j = 2 * pos + 2 := fun j j0 h => by unfold Par at h; (clear hsz hdp hu hlv hk3 hl3 hc; omega)
      have hhu : (amb (dp + 1) (un + 3) gd fr').units < cLine := by show un + 3 < cLine; rw [cLine_is]; (clear hsz hdp hlv hk3 hl3 hc hP1 hP2; omega)
      repeat' (first | (k_unfold; (try dsimp only)) | ((with_reducible show wpAny _ _ (storeName _ _ _) _ _ _); (try dsimp only); walk1) | ((fail_if_success (with_reducible show wpAny _ _ (exec (Stmt.If _ _ _ _) _) _ _ _)); ((fail_if_success (with_reducible refine Stop.go (by constructor) ?_)); first | walk1 | (dsimp only; walk1))))
      k_fold
      have key : ∀ (c : Nat) (z : Int) (tz : Tok) (tk5 : Nat) (h5 : Heap) (u5 : Str → Option Value), z = (c : Int) → Fr g L h5 (KF [(Str.ofString "heap", .ref a), (Str.ofString "startpos", .int 0 t0), (Str.ofString "newitem", v), (Str.ofString "pos", .int (pos : Int) tp3), (Str.ofString "childpos", .int z tz), (Str.ofString "endpos", .int (vs.length : Int) t2)] u5) → News g L h5 [(a, listOf vs3.toArray n)] →
          c < ds3.length → Par c = pos → 0 < c → (∀ j, 0 < j → j < ds3.length → Par j = pos → lexLt (nth ds3 j) (nth ds3 c) = false) → qk .next { s with heap := h5, toks := tk5 } := by
        clear kids hP1 hP2 hc
        rintro c _ tz tk5 h5 u5 rfl FZ NZ hcl hcp hc0 hmin
        (repeat' (first | (k_unfold; (try dsimp only)) | ((with_reducible show wpAny _ _ (storeName _ _ _) _ _ _); (try dsimp only); walk1) | ((with_reducible show PySem.wpAt _ _ _ _ _ _ _); walk_at "wpAt") | ((fail_if_success (with_reducible refine Stop.go (by constructor) ?_)); first | walk1 | (dsimp only; walk1))))
        obtain ⟨vc, hvc, tvc⟩ := A3.get hcl
        have en : ds3[c] = nth ds3 c := by simp [nth, List.getD_eq_getElem?_getD, hcl]
        rw [en] at tvc
        have hpc : pos < c := by have := par_lt hc0; rw [hcp] at this; exact this
        have hcz : c ≤ 1000000 := Nat.le_of_lt (Nat.lt_of_lt_of_le hcl (hl3 ▸ hsz))
        have hc63 : (c : Int) < 2 ^ 63 := Int.lt_of_le_of_lt (Int.ofNat_le.mpr hcz) (by decide)
        refine sub_list (NZ _ (List.mem_cons_self ..)).1 (Int.natCast_nonneg _) hc63 (by simpa using hvc) ?_
        (repeat' (first | (k_unfold; (try dsimp only)) | ((with_reducible show wpAny _ _ (storeName _ _ _) _ _ _); (try dsimp only); walk1) | ((with_reducible show PySem.wpAt _ _ _ _ _ _ _); walk_at "wpAt") | ((fail_if_success (with_reducible refine Stop.go (by constructor) ?_)); first | walk1 | (dsimp only; walk1))))
        refine set_list FZ NZ (fun _ h => no_mem h) (Int.natCast_nonneg _) (Int.lt_trans (Int.ofNat_lt.mpr hpc) hc63) (by rw [A3.length]; exact Int.ofNat_lt.mpr hk3) ?_
        intro h8 F8 N8
        (repeat' (first | (k_unfold; (try dsimp only)) | ((with_reducible show wpAny _ _ (storeName _ _ _) _ _ _); (try dsimp only); walk1) | ((with_reducible show PySem.wpAt _ _ _ _ _ _ _); walk_at "wpAt") | ((fail_if_success (with_reducible refine Stop.go (by constructor) ?_)); first | walk1 | (dsimp only; walk1))))
        rename_i h9 F9 N9
        try dsimp only at F9 N9 ⊢
        exact WhlP.next (ds.length - c) (Nat.sub_lt_sub_left (Nat.lt_of_lt_of_eq hk3 hl3) hpc) ⟨_, _, _, _, ds3.set pos (nth ds3 c), _, _, c, rfl,
          toKF [(Str.ofString "heap", .ref a), (Str.ofString "startpos", .int 0 t0), (Str.ofString "newitem", v), (Str.ofString "pos", .int (c : Int) _), (Str.ofString "childpos", .int (2 * (c : Int) + 1) _), (Str.ofString "endpos", .int (vs.length : Int) t2)] F9 ⟨rfl, rfl, rfl, rfl, rfl, rfl, trivial⟩, N9,
          A3.set tvc pos, I3.step hk3 c hcl hcp hc0 hmin, by rw [List.length_set]; exact hcl, by rw [List.length_set]; exact hl3, (set_swap_perm hk3 hcl (Nat.ne_of_lt hpc) x).trans hp3, set_mem_all hs3 (hs3 _ (nth_mem hcl)), rfl⟩
      clear_value qk
      (repeat' (first | (k_unfold; (try dsimp only)) | ((with_reducible show wpAny _ _ (storeName _ _ _) _ _ _); (try dsimp only); walk1) | ((with_reducible show PySem.wpAt _ _ _ _ _ _ _); walk_at "wpAt") | ((fail_if_success (with_reducible refine Stop.go (by constructor) ?_)); first | walk1 | (dsimp only; walk1))))
      · rename_i h5 F5 N5 hr
        have hr' : 2 * pos + 2 < ds3.length := by rw [hlv, ← hl3] at hr; (clear hsz hdp hu hlv hk3 hl3 hc hhu; omega)
        obtain ⟨v1, hv1, tv1⟩ := A3.get hc
        obtain ⟨v2, hv2, tv2⟩ := A3.get hr'
        have z1 : (((2 * pos + 1 : Nat) : Int)) < 2 ^ 63 := odd63 hc (hl3 ▸ hsz)
        have z2 : (((2 * pos + 2 : Nat) : Int)) < 2 ^ 63 := odd63 hr' (hl3 ▸ hsz)
        refine sub_list (N5 _ (List.mem_cons_self ..)).1 (odd1 pos ▸ Int.natCast_nonneg _) (odd1 pos ▸ z1) (by rw [odd1, Int.toNat_natCast]; exact hv1) ?_
        (repeat' (first | (k_unfold; (try dsimp only)) | ((with_reducible show wpAny _ _ (storeName _ _ _) _ _ _); (try dsimp only); walk1) | ((with_reducible show PySem.wpAt _ _ _ _ _ _ _); walk_at "wpAt") | ((fail_if_success (with_reducible refine Stop.go (by constructor) ?_)); first | walk1 | (dsimp only; walk1))))
        refine sub_list (N5 _ (List.mem_cons_self ..)).1 (odd2 pos ▸ Int.natCast_nonneg _) (odd2 pos ▸ z2) (by rw [odd2, Int.toNat_natCast]; exact hv2) ?_
        (repeat' (first | (k_unfold; (try dsimp only)) | ((with_reducible show wpAny _ _ (storeName _ _ _) _ _ _); (try dsimp only); walk1) | ((with_reducible show PySem.wpAt _ _ _ _ _ _ _); walk_at "wpAt") | ((fail_if_success (with_reducible refine Stop.go (by constructor) ?_)); first | walk1 | (dsimp only; walk1))))
        have e1 : ds3[2 * pos + 1] = nth ds3 (2 * pos + 1) := by simp [nth, List.getD_eq_getElem?_getD, hc]
        have e2 : ds3[2 * pos + 2] = nth ds3 (2 * pos + 2) := by simp [nth, List.getD_eq_getElem?_getD, hr']
        rw [e1] at tv1
        rw [e2] at tv2
        refine cmp_tup (tv1.keeps F5.keep) (tv2.keeps F5.keep) (by rw [hs3 _ (nth_mem hc), hs3 _ (nth_mem hr')]) hhu ?_
        (repeat' (first | (k_unfold; (try dsimp only)) | ((with_reducible show wpAny _ _ (storeName _ _ _) _ _ _); (try dsimp only); walk1) | ((with_reducible show PySem.wpAt _ _ _ _ _ _ _); walk_at "wpAt") | ((fail_if_success (with_reducible refine Stop.go (by constructor) ?_)); first | walk1 | (dsimp only; walk1))))
        · rename_i hlt
          exact key (2 * pos + 1) _ _ _ _ _ (odd1 pos) (toKF [(Str.ofString "heap", .ref a), (Str.ofString "startpos", .int 0 t0), (Str.ofString "newitem", v), (Str.ofString "pos", .int (pos : Int) tp3), (Str.ofString "childpos", .int _ _), (Str.ofString "endpos", .int (vs.length : Int) t2)] F5 ⟨rfl, rfl, rfl, rfl, rfl, rfl, trivial⟩) N5 hc hP1 (Nat.succ_pos _) fun j j0 hj h => by
            rcases kids j j0 h with rfl | rfl
            · exact lexLt_irr _
            · exact lexLt_asym _ _ hlt
        · rename_i hlt hZ FZ NZ
          exact key (2 * pos + 2) _ _ _ _ _ (odd2 pos) (toKF [(Str.ofString "heap", .ref a), (Str.ofString "startpos", .int 0 t0), (Str.ofString "newitem", v), (Str.ofString "pos", .int (pos : Int) tp3), (Str.ofString "childpos", .int _ _), (Str.ofString "endpos", .int (vs.length : Int) t2)] FZ ⟨rfl, rfl, rfl, rfl, rfl, rfl, trivial⟩) NZ hr' hP2 (Nat.succ_pos _) fun j j0 hj h => by
            rcases kids j j0 h with rfl | rfl
            · exact hlt
            · exact lexLt_irr _
      · rename_i hZ FZ NZ hr
        exact key (2 * pos + 1) _ _ _ _ _ (odd1 pos) (toKF [(Str.ofString "heap", .ref a), (Str.ofString "startpos", .int 0 t0), (Str.ofString "newitem", v), (Str.ofString "pos", .int (pos : Int) tp3), (Str.ofString "childpos", .int _ _), (Str.ofString "endpos", .int (vs.length : Int) t2)] FZ ⟨rfl, rfl, rfl, rfl, rfl, rfl, trivial⟩) NZ hc hP1 (Nat.succ_pos _) fun j j0 hj h => by
          rcases kids j j0 h with rfl | rfl
          · exact lexLt_irr _
          · rw [hlv, ← hl3] at hr; (clear hsz hdp hu hlv hk3 hl3 hc hhu; omega)
    · refine WhlIf.no (by simp; (clear hsz hdp hu hk3; omega)) ⟨_, _, _, _, _, _, pos, rfl, toKF [(Str.ofString "heap", .ref a), (Str.ofString "startpos", .int 0 t0), (Str.ofString "newitem", v), (Str.ofString "pos", .int (pos : Int) _)] F3 ⟨rfl, rfl, rfl, rfl, trivial⟩, N3, A3, hk3, hl3, hp3, hs3, I3.leaf (by (clear hsz hdp hu hlv hk3 hl3; omega)) x⟩
  · clear N3 F3 hv inv hAg
    rintro _ ⟨h3, tk3, u3, vs3, ds3, tp3, pos, rfl, F3, N3, A3, hk3, hl3, hp3, hs3, hO⟩
    (repeat' (first | (k_unfold; (try dsimp only)) | ((with_reducible show wpAny _ _ (storeName _ _ _) _ _ _); (try dsimp only); walk1) | ((with_reducible show PySem.wpAt _ _ _ _ _ _ _); walk_at "wpAt") | ((fail_if_success (with_reducible refine Stop.go (by constructor) ?_)); first | walk1 | (dsimp only; walk1))))
    refine set_list F3 N3 (fun _ h => no_mem h) (by (clear hsz hdp hu hlv hk3 hl3; omega)) (by (clear hdp hu; omega)) (by rw [A3.length]; (clear hsz hdp hu hlv hl3; omega)) ?_
    intro h4 F4 N4
    (repeat' (first | (k_unfold; (try dsimp only)) | ((with_reducible show wpAny _ _ (storeName _ _ _) _ _ _); (try dsimp only); walk1) | ((with_reducible show PySem.wpAt _ _ _ _ _ _ _); walk_at "wpAt") | ((fail_if_success (with_reducible refine Stop.go (by constructor) ?_)); first | walk1 | (dsimp only; walk1))))
    have tup : AllAt (TupAt h4) (vs3.set (pos : Int).toNat v) (ds3.set pos x) := (A3.set tv pos).mono fun _ _ z => z.keeps F4.keep
    have z4 := N4 _ (List.mem_cons_self ..)
    have hl5 : (ds3.set pos x).length = ds.length := by rw [List.length_set]; exact hl3
    refine siftdown_spec (ds := ds3.set pos x) (x := x) (sh := sh) X1 T1 F4.keep z4.1 z4.2.2 tup (set_mem_all hs3 hshx) (by (clear hsz hdp hu z4; omega)) (nth_set_eq hk3) hO.any (by (clear hdp hu hk3 z4; omega)) (by (clear hsz hu hlv hk3 hl3 z4 hl5; omega)) (by (clear hsz hdp hlv hk3 hl3 z4 hl5; omega)) fun vs5 ds5 h5 tk5 k5 e5 A5 O5 p5 => ?_
    (repeat' (first | (k_unfold; (try dsimp only)) | ((with_reducible show wpAny _ _ (storeName _ _ _) _ _ _); (try dsimp only); walk1) | ((with_reducible show PySem.wpAt _ _ _ _ _ _ _); walk_at "wpAt") | ((fail_if_success (with_reducible refine Stop.go (by constructor) ?_)); first | walk1 | (dsimp only; walk1))))
    exact ret vs5 ds5 h5 _ (fun b o hb e => k5 b o hb (F4.keep b o (KP b o (by simpa using hb) e))) e5 A5 O5 (p5.trans hp3)
theorem heappush_spec
  {a : Addr} {vs : List Value} {ds : List DD} {n : Nat} {sh : List Bool} {v : Value} {x : DD}
  (X : (Mine.heapK w.params).In base) (T : Top topProg GL mean mg mb base) (hS : base.StaysIn s.heap)
  (ha : s.heap.get? a = some (listOf vs.toArray n)) (hb : base.get? a = none)
  (hA : AllAt (TupAt s.heap) vs ds) (tv : TupAt s.heap v x) (hsh : ∀ d ∈ ds, d.map Pv.isI = sh) (hx : x.map Pv.isI = sh) (hO : HeapOk lexLt ds) (hsz : ds.length < 1000000)
  (hdp : dp < 700) (hu : un < 800)
  (ret : ∀ vs' ds' n' h' tk', Keep [a] s.heap h' → h'.get? a = some (listOf vs'.toArray n') → AllAt (TupAt h') vs' ds' → HeapOk lexLt ds' → ds'.Perm (x :: ds) → Q .none { s with heap := h', toks := tk' }) :
  wpAny (model PySem.Challenge.rw_ik0220_01.row.prog w) (amb dp un gd fr) (call (.ref 189) [.ref a, v]) Q E s := by
  revert X; k_fill; intro X
  refine wpAny_call ?_
  k_dflt (refine' enterF [(Str.ofString "item", v), (Str.ofString "heap", .ref a)] [(a, listOf vs.toArray n)] ?kX ?kT hS ?kD ?kho ?khcd ?kroom ?kb ?kl ?kr ?_ ?c1 ?c2 ?c3 ?c4; (
  (case kX => assumption); (case kT => assumption); (case kho => k_is); (case khcd => k_is); (case kb => first | exact BindsTo.of_eq rfl | exact binds_K (by k_in) rfl (by k_is) rfl rfl rfl);
  (case kl => exact locs rfl); (case kr => exact rfl); (case c1 => exact rfl); (case c2 => exact rfl); (case c3 => exact rfl); (case c4 => decide); (case kroom => first | exact rm0 hdp rfl | (simp only [recursionLimit]; omega))); (case kD => intro q hq; rcases List.mem_singleton.mp hq with rfl; exact ⟨ha, hb⟩))
  intro g L h1 fr' tk F N X1 T1 KP LT
  k_fold
  have kt : ∀ v d, TupAt s.heap v d → TupAt g v d := fun v d z => z.kept KP fun b hb o ho => by
    simp at hb; subst hb; rw [ha] at ho; cases ho; simp
  have hAg : AllAt (TupAt g) vs ds := hA.mono kt
  have tvg := kt _ _ tv
  (repeat' (first | (k_unfold; (try dsimp only)) | ((with_reducible show wpAny _ _ (storeName _ _ _) _ _ _); (try dsimp only); walk1) | ((with_reducible show PySem.wpAt _ _ _ _ _ _ _); walk_at "wpAt") | ((fail_if_success (with_reducible refine Stop.go (by constructor) ?_)); first | walk1 | (dsimp only; walk1))))
  refine append_li F N (fun _ h => no_mem h) (by rw [hA.length]; (clear hdp hu; omega)) ?_
  intro h2 F2 N2
  (repeat' (first | (k_unfold; (try dsimp only)) | ((with_reducible show wpAny _ _ (storeName _ _ _) _ _ _); (try dsimp only); walk1) | ((with_reducible show PySem.wpAt _ _ _ _ _ _ _); walk_at "wpAt") | ((fail_if_success (with_reducible refine Stop.go (by constructor) ?_)); first | walk1 | (dsimp only; walk1))))
  refine len_li (N2 _ (List.mem_cons_self ..)).1 (by simp; rw [hA.length]; (clear hdp hu; omega)) fun t3 tk3 => ?_
  (repeat' (first | (k_unfold; (try dsimp only)) | ((with_reducible show wpAny _ _ (storeName _ _ _) _ _ _); (try dsimp only); walk1) | ((with_reducible show PySem.wpAt _ _ _ _ _ _ _); walk_at "wpAt") | ((fail_if_success (with_reducible refine Stop.go (by constructor) ?_)); first | walk1 | (dsimp only; walk1))))
  try dsimp only
  have el : ((vs ++ [v]).length : Int) - 1 = ((ds.length : Nat) : Int) := by rw [← hA.length]; simp
  rw [el]
  have z2 := N2 _ (List.mem_cons_self ..)
  have hpu := DInv.push hO x
  refine siftdown_spec (ds := ds ++ [x]) (x := x) (sh := sh) X1 T1 F2.keep z2.1 z2.2.2 ((hAg.append (.cons tvg .nil)).mono fun _ _ z => z.keeps F2.keep) (fun d hd => ?_) (by simp) (by simp [nth, List.getD_eq_getElem?_getD]) hpu (by simp; (clear hdp hu z2; omega)) (by (clear hsz hu el z2; omega)) (by (clear hsz hdp el z2; omega)) fun vs5 ds5 h5 tk5 k5 e5 A5 O5 p5 => ?_
  · rcases List.mem_append.mp hd with hd | hd
    · exact hsh d hd
    · rw [List.mem_singleton.mp hd]; exact hx
  (repeat' (first | (k_unfold; (try dsimp only)) | ((with_reducible show wpAny _ _ (storeName _ _ _) _ _ _); (try dsimp only); walk1) | ((with_reducible show PySem.wpAt _ _ _ _ _ _ _); walk_at "wpAt") | ((fail_if_success (with_reducible refine Stop.go (by constructor) ?_)); first | walk1 | (dsimp only; walk1))))
  exact ret vs5 ds5 _ h5 _ (fun b o hb e => k5 b o hb (F2.keep b o (KP b o (by simpa using hb) e))) e5 A5 O5 (p5.trans List.perm_append_comm)
theorem heappop_spec
  {a : Addr} {vs : List Value} {ds : List DD} {n : Nat} {sh : List Bool}
  (X : (Mine.heapK w.params).In base) (T : Top topProg GL mean mg mb base) (hS : base.StaysIn s.heap)
  (ha : s.heap.get? a = some (listOf vs.toArray n)) (hb : base.get? a = none)
  (hA : AllAt (TupAt s.heap) vs ds) (hsh : ∀ d ∈ ds, d.map Pv.isI = sh) (hO : HeapOk lexLt ds) (hne : 0 < ds.length) (hsz : ds.length < 1000000)
  (hdp : dp < 700) (hu : un < 800)
  (ret : ∀ v x vs' ds' n' h' tk', Keep [a] s.heap h' → h'.get? a = some (listOf vs'.toArray n') → TupAt h' v x → AllAt (TupAt h') vs' ds' → HeapOk lexLt ds' → (x :: ds').Perm ds → (∀ d ∈ ds, lexLt d x = false) → Q v { s with heap := h', toks := tk' }) :
  wpAny (model PySem.Challenge.rw_ik0220_01.row.prog w) (amb dp un gd fr) (call (.ref 196) [.ref a]) Q E s := by
  revert X; k_fill; intro X
  refine wpAny_call ?_
  k_dflt (refine' enterF [(Str.ofString "heap", .ref a)] [(a, listOf vs.toArray n)] ?kX ?kT hS ?kD ?kho ?khcd ?kroom ?kb ?kl ?kr ?_ ?c1 ?c2 ?c3 ?c4; (
  (case kX => assumption); (case kT => assumption); (case kho => k_is); (case khcd => k_is); (case kb => first | exact BindsTo.of_eq rfl | exact binds_K (by k_in) rfl (by k_is) rfl rfl rfl);
  (case kl => exact locs rfl); (case kr => exact rfl); (case c1 => exact rfl); (case c2 => exact rfl); (case c3 => exact rfl); (case c4 => decide); (case kroom => first | exact rm0 hdp rfl | (simp only [recursionLimit]; omega))); (case kD => intro q hq; rcases List.mem_singleton.mp hq with rfl; exact ⟨ha, hb⟩))
  intro g L h1 fr' tk F N X1 T1 KP LT
  k_fold
  have kt : ∀ v d, TupAt s.heap v d → TupAt g v d := fun v d z => z.kept KP fun b hb o ho => by
    simp at hb; subst hb; rw [ha] at ho; cases ho; simp
  have hAg : AllAt (TupAt g) vs ds := hA.mono kt
  have hvl := hA.length
  obtain ⟨vi, vz, rfl⟩ : ∃ vi vz, vs = vi ++ [vz] := ⟨vs.dropLast, vs.getLast (by intro h; subst h; simp at hvl; (clear hdp hu; omega)), (List.dropLast_concat_getLast _).symm⟩
  obtain ⟨di, dz, rfl⟩ : ∃ di dz, ds = di ++ [dz] := ⟨ds.dropLast, ds.getLast (by intro h; subst h; simp at hne), (List.dropLast_concat_getLast _).symm⟩
  have hil : vi.length = di.length := by simpa using hvl
  have hAi : AllAt (TupAt g) vi di := by have := hAg.dropLast; simpa using this
  have tz : TupAt g vz dz := by
    obtain ⟨v9, e9, t9⟩ := hAg.get (i := di.length) (by simp)
    rw [← hil] at e9
    simp at e9
    subst e9
    simpa using t9
  have hOi : HeapOk lexLt di := by have := hO.dropLast; simpa using this
  have hroot := hO.rootMem (lexLt_ok sh) hsh
  have hsi : ∀ d ∈ di, d.map Pv.isI = sh := fun d hd => hsh d (List.mem_append_left _ hd)
  have hsz' : di.length < 1000000 := by simp at hsz; (clear hdp hu hne hvl; omega)
  (repeat' (first | (k_unfold; (try dsimp only)) | ((with_reducible show wpAny _ _ (storeName _ _ _) _ _ _); (try dsimp only); walk1) | ((with_reducible show PySem.wpAt _ _ _ _ _ _ _); walk_at "wpAt") | ((fail_if_success (with_reducible refine Stop.go (by constructor) ?_)); first | walk1 | (dsimp only; walk1))))
  refine pop_li F N (fun _ h => no_mem h) (by (clear hdp hu hne hsz hvl; omega)) ?_
  intro h2 F2 N2
  (repeat' (first | (k_unfold; (try dsimp only)) | ((with_reducible show wpAny _ _ (storeName _ _ _) _ _ _); (try dsimp only); walk1) | ((with_reducible show PySem.wpAt _ _ _ _ _ _ _); walk_at "wpAt") | ((fail_if_success (with_reducible refine Stop.go (by constructor) ?_)); first | walk1 | (dsimp only; walk1))))
  · rename_i h3 F3 N3 tk3 he
    have ev : vi = [] := List.isEmpty_iff.mp he
    subst ev
    have ed : di = [] := List.length_eq_zero_iff.mp hil.symm
    subst ed
    exact ret vz dz [] [] _ h3 _ (fun b o hb e => F3.keep b o (KP b o (by simpa using hb) e)) (N3 _ (List.mem_cons_self ..)).1 (tz.keeps F3.keep) .nil HeapOk.nil (List.Perm.refl _) (fun d hd => by rw [List.mem_singleton.mp hd]; exact lexLt_irr _)
  · rename_i h3 F3 N3 tk3 he
    have hne' : 0 < di.length := by
      rcases Nat.eq_zero_or_pos di.length with e | e
      · rw [← hil] at e; rw [List.length_eq_zero_iff.mp e] at he; cases he
      · exact e
    obtain ⟨v0, hv0, t0⟩ := hAi.get hne'
    refine sub_list (N3 _ (List.mem_cons_self ..)).1 (by (clear hdp hu hne hsz hvl hil hsz'; omega)) (by (clear hdp hu hne hsz hvl hil hsz'; omega)) (by simpa using hv0) ?_
    (repeat' (first | (k_unfold; (try dsimp only)) | ((with_reducible show wpAny _ _ (storeName _ _ _) _ _ _); (try dsimp only); walk1) | ((with_reducible show PySem.wpAt _ _ _ _ _ _ _); walk_at "wpAt") | ((fail_if_success (with_reducible refine Stop.go (by constructor) ?_)); first | walk1 | (dsimp only; walk1))))
    rename_i h4 F4 N4
    refine set_list F4 N4 (fun _ h => no_mem h) (by (clear hdp hu hne hsz hvl hil hsz'; omega)) (by (clear hdp hu hne hsz hvl hil hsz'; omega)) (by (clear hdp hu hne hsz hvl; omega)) ?_
    intro h5 F5 N5
    (repeat' (first | (k_unfold; (try dsimp only)) | ((with_reducible show wpAny _ _ (storeName _ _ _) _ _ _); (try dsimp only); walk1) | ((with_reducible show PySem.wpAt _ _ _ _ _ _ _); walk_at "wpAt") | ((fail_if_success (with_reducible refine Stop.go (by constructor) ?_)); first | walk1 | (dsimp only; walk1))))
    have z5 := N5 _ (List.mem_cons_self ..)
    have e0 : di[0] = nth di 0 := by simp [nth, List.getD_eq_getElem?_getD, hne']
    obtain ⟨d0, dr, rfl⟩ : ∃ d0 dr, di = d0 :: dr := by cases di with
      | nil => exact absurd hne' (Nat.lt_irrefl _)
      | cons d0 dr => exact ⟨d0, dr, rfl⟩
    have e0' : nth ((d0 :: dr) ++ [dz]) 0 = nth (d0 :: dr) 0 := rfl
    rw [e0] at t0
    rw [e0'] at hroot
    refine siftup_spec (ds := (d0 :: dr).set 0 dz) (sh := sh) X1 T1 F5.keep z5.1 z5.2.2 ((hAi.set tz 0).mono fun _ _ z => z.keeps F5.keep) (set_mem_all hsi (hsh _ (by simp))) (by rw [List.length_set]; exact hne') (UInv.start hOi dz) (by rw [List.length_set]; (clear hdp hu z5 hne hsz hvl; omega)) (by (clear hu z5 hne hsz hvl hil hsz'; omega)) (by (clear hdp z5 hne hsz hvl hil hsz'; omega)) fun vs6 ds6 h6 tk6 k6 e6 A6 O6 p6 => ?_
    (repeat' (first | (k_unfold; (try dsimp only)) | ((with_reducible show wpAny _ _ (storeName _ _ _) _ _ _); (try dsimp only); walk1) | ((with_reducible show PySem.wpAt _ _ _ _ _ _ _); walk_at "wpAt") | ((fail_if_success (with_reducible refine Stop.go (by constructor) ?_)); first | walk1 | (dsimp only; walk1))))
    have kk : Keep [a] g h6 := fun b o hb e => k6 b o hb (F5.keep b o e)
    have F6 := Fr.kept F5 k6 (fun b hb => by rw [List.mem_singleton.mp hb]; exact z5.2.2) (fun hb => z5.2.1 (List.mem_singleton.mp hb).symm)
    have N6 : News g L h6 [(a, listOf vs6.toArray (n + 1))] := fun p hp => by rw [List.mem_singleton.mp hp]; exact ⟨e6, z5.2⟩
    (repeat' (first | (k_unfold; (try dsimp only)) | ((with_reducible show wpAny _ _ (storeName _ _ _) _ _ _); (try dsimp only); walk1) | ((with_reducible show PySem.wpAt _ _ _ _ _ _ _); walk_at "wpAt") | ((fail_if_success (with_reducible refine Stop.go (by constructor) ?_)); first | walk1 | (dsimp only; walk1))))
    refine ret v0 d0 vs6 ds6 _ h6 _ (fun b o hb e => kk b o hb (KP b o (by simpa using hb) e)) e6 (t0.keeps F6.keep) A6 O6 ((p6.cons d0).trans ?_) hroot
    show (d0 :: dz :: dr).Perm (d0 :: (dr ++ [dz]))
    exact (List.perm_append_comm (l₁ := [dz]) (l₂ := dr)).cons d0

end
section
variable {w : World} {mg mb : Str → Option Value} {mean : ExcName → Option Value} {dp un : Nat} {gd : Option (List Code)} {fr : List Env} {base : Heap} {s : Shared} {Q E : Value → Shared → Prop}
theorem part_count_spec
  {c d : Addr} {vs : List Value} {n : Nat} {es : List DictEntry} {k : Nat}
  (X : (Mine.heapK w.params).In base) (T : Top topProg GL mean mg mb base) (hS : base.StaysIn s.heap)
  (hc : s.heap.get? c = some (accObj d vs n)) (hd : s.heap.get? d = some (dictOf es k)) (hbc : base.get? c = none) (hbd : base.get? d = none)
  (hdp : dp < 900) (hu : un < 1000)
  (ret : ∀ t h' tk', Keep [] s.heap h' → Q (.int (vs.length : Int) t) { s with heap := h', toks := tk' }) :
  wpAny (model PySem.Challenge.rw_ik0220_01.row.prog w) (amb dp un gd fr) (call (.ref 175) [.ref c]) Q E s := by
  revert X; k_fill; intro X
  refine wpAny_call ?_
  k_dflt (refine' enterS [(Str.ofString "self", .ref c)] [(c, accObj d vs n), (d, dictOf es k)] ?kX ?kT hS ?kD ?kho ?khcd ?kroom ?kb ?kl ?kr ?_ ?c1 ?c2 ?c3 ?c4; (
  (case kX => assumption); (case kT => assumption); (case kho => k_is); (case khcd => k_is); (case kb => first | exact BindsTo.of_eq rfl | exact binds_K (by k_in) rfl (by k_is) rfl rfl rfl);
  (case kl => exact locs rfl); (case kr => exact rfl); (case c1 => exact rfl); (case c2 => exact rfl); (case c3 => exact rfl); (case c4 => decide); (case kroom => first | exact rm0 hdp rfl | (simp only [recursionLimit]; omega))); (case kD => intro q hq; rcases List.mem_cons.mp hq with rfl | hq; exact ⟨hc, hbc⟩; rcases List.mem_singleton.mp hq with rfl; exact ⟨hd, hbd⟩))
  intro g L h1 tk F N X1 T1 KP LT
  (repeat' (first | (k_unfold; (try dsimp only)) | ((with_reducible show wpAny _ _ (storeName _ _ _) _ _ _); (try dsimp only); walk1) | ((with_reducible show PySem.wpAt _ _ _ _ _ _ _); walk_at "wpAt") | ((fail_if_success (with_reducible refine Stop.go (by constructor) ?_)); first | walk1 | (dsimp only; walk1))))
  rename_i so h2 F2 N2 l2
  k_dflt (refine' sup_method d_len F2 X1 N2 (.head _) ?kI ?k1 ?k2 ?k3 ?k4 ?_; (case kI => exact accInst N2 (.tail _ (.head _)) (.tail _ (.tail _ (.head _)))); (case k1 => k_is); (case k2 => ks_is); (case k3 => k_is); (case k4 => decide))
  intro q h3 F3 N3 l3
  refine bnd_callWith0 (by decide) (by decide) (N3 _ (.head _)).1 ?_
  refine sup_len (N3 _ (.head _)).1 (N3 _ (.tail _ (.tail _ (.head _)))).1 rfl fun t tk => ?_
  refine ret t h3 _ (keep_of (D := [(c, accObj d vs n), (d, dictOf es k)]) (fun q hq => by rcases List.mem_cons.mp hq with rfl | hq; exact hc; rw [List.mem_singleton.mp hq]; exact hd) KP F3.keep ?_)
  intro q hq _
  rcases List.mem_cons.mp hq with rfl | hq
  · exact (N3 _ (.tail _ (.tail _ (.head _)))).1
  · rw [List.mem_singleton.mp hq]; exact (N3 _ (.tail _ (.tail _ (.tail _ (.head _))))).1

end
section
variable {w : World} {mg mb : Str → Option Value} {mean : ExcName → Option Value} {dp un : Nat} {gd : Option (List Code)} {fr : List Env} {base : Heap} {s : Shared} {Q E : Value → Shared → Prop}
theorem init_spec
  {c d : Addr} {n : Int} {tn : Tok} {k : Nat} {R : Result → Shared → Prop}
  (X : (Mine.heapK w.params).In base) (T : Top topProg GL mean mg mb base) (hS : base.StaysIn s.heap)
  (hc : s.heap.get? c = some (accObj d [] k)) (hd : s.heap.get? d = some (dictOf [] 0)) (hbc : base.get? c = none) (hbd : base.get? d = none) (hdc : @LT.lt Nat _ d c)
  (hdp : dp < 900) (_hu : un < 1000)
  (ret : ∀ h' tk' hh tk, Keep [c, d] s.heap h' → h'.get? c = some (accObj d [] k) → h'.get? d = some (dictOf (iniE hh tk n tn) 1) → R (.ok (.ret .none)) { s with heap := h', toks := tk' }) :
  codeAny (model PySem.Challenge.rw_ik0220_01.row.prog w) (amb dp un gd fr) (.call (.ref 115) ⟨[.ref c, .int n tn], []⟩) R s := by
  revert X; k_fill; intro X
  have XS := X.keeps hS
  k_dflt (refine' enterS [(Str.ofString "initial_size", .int n tn), (Str.ofString "self", .ref c)] [(c, accObj d [] k), (d, dictOf [] 0)] ?kX ?kT hS ?kD ?kho ?khcd ?kroom ?kb ?kl ?kr ?_ ?c1 ?c2 ?c3 ?c4; (
  (case kX => assumption); (case kT => assumption); (case kho => k_is); (case khcd => k_is); (case kb => first | exact BindsTo.of_eq rfl | exact binds_K (by k_in) rfl (by k_is) rfl rfl rfl);
  (case kl => exact locs rfl); (case kr => exact rfl); (case c1 => exact rfl); (case c2 => exact rfl); (case c3 => exact rfl); (case c4 => decide); (case kroom => first | exact rm0 hdp rfl | (simp only [recursionLimit]; omega))); (case kD => intro q hq; rcases List.mem_cons.mp hq with rfl | hq; exact ⟨hc, hbc⟩; rcases List.mem_singleton.mp hq with rfl; exact ⟨hd, hbd⟩))
  intro g L h1 tk F N X1 T1 KP LT
  clear XS
  (repeat' (first | (k_unfold; (try dsimp only)) | ((with_reducible show wpAny _ _ (storeName _ _ _) _ _ _); (try dsimp only); walk1) | ((with_reducible show PySem.wpAt _ _ _ _ _ _ _); walk_at "wpAt") | ((fail_if_success (with_reducible refine Stop.go (by constructor) ?_)); first | walk1 | (dsimp only; walk1))))
  rename_i so h3 F3 N3 l3
  k_dflt (refine' sup_method d_init F3 X1 N3 (.head _) ?kI ?k1 ?k2 ?k3 ?k4 ?_; (case kI => k_inst); (case k1 => k_is); (case k2 => ks_is); (case k3 => k_is); (case k4 => decide))
  intro q h4 F4 N4 l4
  have l5 := allLt_of l4
  simp only [AllLt] at l5
  refine bnd_callWith0 (by decide) (by decide) (N4 _ (.head _)).1 ?_
  refine init_bnd F4 N4 (N4 _ (.head _)).1 (N4 _ (.tail _ (.tail _ (.head _)))).1 rfl rfl (by k_upd) ?_
  intro h5 F5 N5
  (repeat' (first | (k_unfold; (try dsimp only)) | ((with_reducible show wpAny _ _ (storeName _ _ _) _ _ _); (try dsimp only); walk1) | ((with_reducible show PySem.wpAt _ _ _ _ _ _ _); walk_at "wpAt") | ((fail_if_success (with_reducible refine Stop.go (by constructor) ?_)); first | walk1 | (dsimp only; walk1))))
  have KX : Keep [c, d] s.heap h5 := keep_of (D := [(c, accObj d [] k), (d, dictOf [] 0)]) (fun q hq => by rcases List.mem_cons.mp hq with rfl | hq; exact hc; rw [List.mem_singleton.mp hq]; exact hd) KP F5.keep (fun q hq hn => by
    rcases List.mem_cons.mp hq with rfl | hq
    · simp at hn
    · rw [List.mem_singleton.mp hq] at hn; simp at hn)
  exact ret h5 _ _ _ KX (N5 _ (.tail _ (.tail _ (.head _)))).1 (N5 _ (.tail _ (.tail _ (.tail _ (.head _))))).1

end
section
variable {w : World} {mg mb : Str → Option Value} {mean : ExcName → Option Value} {dp un : Nat} {gd : Option (List Code)} {fr : List Env} {base : Heap} {s : Shared} {Q E : Value → Shared → Prop}
theorem push_code
  {c d : Addr} {vs : List Value} {f x : Value} {hh : Int} {n : Int} {tk0 tn : Tok} {k : Nat} {R : Result → Shared → Prop}
  (X : (Mine.heapK w.params).In base) (T : Top topProg GL mean mg mb base) (hS : base.StaysIn s.heap)
  (hc : s.heap.get? c = some (accObj d vs k)) (hd : s.heap.get? d = some (dictOf (iniE hh tk0 n tn) 1)) (hbc : base.get? c = none) (hbd : base.get? d = none) (hdc : @LT.lt Nat _ d c) (hz : vs.length < 1000000)
  (hdp : dp < 900) (_hu : un < 1000)
  (ret : ∀ h' tk' T, Keep [c] s.heap h' → h'.get? c = some (accObj d (vs ++ [.ref T]) (k + 1)) → h'.get? T = some (tupOf [f, x] 0) → R (.ok (.ret .none)) { s with heap := h', toks := tk' }) :
  codeAny (model PySem.Challenge.rw_ik0220_01.row.prog w) (amb dp un gd fr) (.call (.ref 122) ⟨[.ref c, f, x], []⟩) R s := by
  revert X; k_fill; intro X
  k_dflt (refine' enterF [(Str.ofString "string", x), (Str.ofString "fws", f), (Str.ofString "self", .ref c)] [(c, accObj d vs k), (d, dictOf (iniE hh tk0 n tn) 1)] ?kX ?kT hS ?kD ?kho ?khcd ?kroom ?kb ?kl ?kr ?_ ?c1 ?c2 ?c3 ?c4; (
  (case kX => assumption); (case kT => assumption); (case kho => k_is); (case khcd => k_is); (case kb => first | exact BindsTo.of_eq rfl | exact binds_K (by k_in) rfl (by k_is) rfl rfl rfl);
  (case kl => exact locs rfl); (case kr => exact rfl); (case c1 => exact rfl); (case c2 => exact rfl); (case c3 => exact rfl); (case c4 => decide); (case kroom => first | exact rm0 hdp rfl | (simp only [recursionLimit]; omega))); (case kD => intro q hq; rcases List.mem_cons.mp hq with rfl | hq; exact ⟨hc, hbc⟩; rcases List.mem_singleton.mp hq with rfl; exact ⟨hd, hbd⟩))
  intro g L h1 fr' tk F N X1 T1 KP LT
  k_fold
  (repeat' (first | (k_unfold; (try dsimp only)) | ((with_reducible show wpAny _ _ (storeName _ _ _) _ _ _); (try dsimp only); walk1) | ((with_reducible show PySem.wpAt _ _ _ _ _ _ _); walk_at "wpAt") | ((fail_if_success (with_reducible refine Stop.go (by constructor) ?_)); first | walk1 | (dsimp only; walk1))))
  rename_i T h2 F2 N2 l2
  k_dflt (refine' append_bi F2 X1 N2 ?kI ?k1 rfl rfl (by k_upd) hz ?_; (case kI => k_inst); (case k1 => k_is))
  intro h3 F3 N3
  (repeat' (first | (k_unfold; (try dsimp only)) | ((with_reducible show wpAny _ _ (storeName _ _ _) _ _ _); (try dsimp only); walk1) | ((with_reducible show PySem.wpAt _ _ _ _ _ _ _); walk_at "wpAt") | ((fail_if_success (with_reducible refine Stop.go (by constructor) ?_)); first | walk1 | (dsimp only; walk1))))
  refine ret h3 _ T (keep_of (D := [(c, accObj d vs k), (d, dictOf (iniE hh tk0 n tn) 1)]) (fun q hq => by rcases List.mem_cons.mp hq with rfl | hq; exact hc; rw [List.mem_singleton.mp hq]; exact hd) KP F3.keep (fun q hq hn => ?_)) ?_ ?_
  · rcases List.mem_cons.mp hq with rfl | hq
    · simp at hn
    · rw [List.mem_singleton.mp hq]; exact (N3 _ (.tail _ (.tail _ (.head _)))).1
  · have z := (N3 _ (.tail _ (.head _))).1
    simpa [Obj.mapSeq] using z
  · exact (N3 _ (.head _)).1
theorem push_spec
  {c d : Addr} {vs : List Value} {f x : Value} {hh : Int} {n : Int} {tk0 tn : Tok} {k : Nat}
  (X : (Mine.heapK w.params).In base) (T : Top topProg GL mean mg mb base) (hS : base.StaysIn s.heap)
  (hc : s.heap.get? c = some (accObj d vs k)) (hd : s.heap.get? d = some (dictOf (iniE hh tk0 n tn) 1)) (hbc : base.get? c = none) (hbd : base.get? d = none) (hdc : @LT.lt Nat _ d c) (hz : vs.length < 1000000)
  (hdp : dp < 900) (_hu : un < 1000)
  (ret : ∀ h' tk' T, Keep [c] s.heap h' → h'.get? c = some (accObj d (vs ++ [.ref T]) (k + 1)) → h'.get? T = some (tupOf [f, x] 0) → Q .none { s with heap := h', toks := tk' }) :
  wpAny (model PySem.Challenge.rw_ik0220_01.row.prog w) (amb dp un gd fr) (call (.ref 122) [.ref c, f, x]) Q E s :=
  wpAny_call (push_code X T hS hc hd hbc hbd hdc hz hdp _hu ret)

end
section
variable {w : World} {mg mb : Str → Option Value} {mean : ExcName → Option Value} {dp un : Nat} {gd : Option (List Code)} {fr : List Env} {base : Heap} {s : Shared} {Q E : Value → Shared → Prop}
theorem pop_spec
  {c d : Addr} {vs : List Value} {hh : Int} {n : Int} {tk0 tn : Tok} {k : Nat}
  (X : (Mine.heapK w.params).In base) (T : Top topProg GL mean mg mb base) (hS : base.StaysIn s.heap)
  (hc : s.heap.get? c = some (accObj d vs k)) (hd : s.heap.get? d = some (dictOf (iniE hh tk0 n tn) 1)) (hbc : base.get? c = none) (hbd : base.get? d = none) (hdc : @LT.lt Nat _ d c) (hz : vs.length < 1000000)
  (hdp : dp < 800) (_hu : un < 900)
  (ret0 : vs = [] → ∀ h' tk' T t1 t2, Keep [] s.heap h' → h'.get? T = some (tupOf [.str (Str.ofString "") t1, .str (Str.ofString "") t2] 0) → Q (.ref T) { s with heap := h', toks := tk' })
  (ret1 : ∀ vs' v, vs = vs' ++ [v] → ∀ h' tk', Keep [c] s.heap h' → h'.get? c = some (accObj d vs' (k + 1)) → Q v { s with heap := h', toks := tk' }) :
  wpAny (model PySem.Challenge.rw_ik0220_01.row.prog w) (amb dp un gd fr) (call (.ref 138) [.ref c]) Q E s := by
  revert X; k_fill; intro X
  refine wpAny_call ?_
  k_dflt (refine' enterS [(Str.ofString "self", .ref c)] [(c, accObj d vs k), (d, dictOf (iniE hh tk0 n tn) 1)] ?kX ?kT hS ?kD ?kho ?khcd ?kroom ?kb ?kl ?kr ?_ ?c1 ?c2 ?c3 ?c4; (
  (case kX => assumption); (case kT => assumption); (case kho => k_is); (case khcd => k_is); (case kb => first | exact BindsTo.of_eq rfl | exact binds_K (by k_in) rfl (by k_is) rfl rfl rfl);
  (case kl => exact locs rfl); (case kr => exact rfl); (case c1 => exact rfl); (case c2 => exact rfl); (case c3 => exact rfl); (case c4 => decide); (case kroom => first | exact rm0 hdp rfl | (simp only [recursionLimit]; omega))); (case kD => intro q hq; rcases List.mem_cons.mp hq with rfl | hq; exact ⟨hc, hbc⟩; rcases List.mem_singleton.mp hq with rfl; exact ⟨hd, hbd⟩))
  intro g L h1 tk F N X1 T1 KP LT
  (repeat' (first | (k_unfold; (try dsimp only)) | ((with_reducible show wpAny _ _ (storeName _ _ _) _ _ _); (try dsimp only); walk1) | ((with_reducible show PySem.wpAt _ _ _ _ _ _ _); walk_at "wpAt") | ((fail_if_success (with_reducible refine Stop.go (by constructor) ?_)); first | walk1 | (dsimp only; walk1))))
  try dsimp only
  refine part_count_spec X1 T1 F.keep (N _ (.head _)).1 (N _ (.tail _ (.head _))).1 (N _ (.head _)).2.2 (N _ (.tail _ (.head _))).2.2 (by (clear hdc hz; omega)) (by (clear hdc hz hdp; omega)) fun t2 h2 tk2 k2 => ?_
  have F2 := F.keeps k2.nil
  have N2 := N.grown k2.nil
  clear F N
  (repeat' (first | (k_unfold; (try dsimp only)) | ((with_reducible show wpAny _ _ (storeName _ _ _) _ _ _); (try dsimp only); walk1) | ((with_reducible show PySem.wpAt _ _ _ _ _ _ _); walk_at "wpAt") | ((fail_if_success (with_reducible refine Stop.go (by constructor) ?_)); first | walk1 | (dsimp only; walk1))))
  · rename_i e0 T h3 F3 N3 l3
    have ev : vs = [] := List.length_eq_zero_iff.mp (by (clear hdc hz hdp l3; omega))
    exact ret0 ev h3 _ T _ _ (keep2 hc hd KP F3.keep (fun _ => (N3 _ (.tail _ (.head _))).1) fun _ => (N3 _ (.tail _ (.tail _ (.head _)))).1) (N3 _ (.head _)).1
  · rename_i e0 so h3 F3 N3 l3
    obtain ⟨vs', v, rfl⟩ := snoc_of (vs := vs) (fun q => by subst q; simp at e0)
    k_dflt (refine' sup_method d_pop F3 X1 N3 (.head _) ?kI ?k1 ?k2 ?k3 ?k4 ?_; (case kI => k_inst); (case k1 => k_is); (case k2 => ks_is); (case k3 => k_is); (case k4 => decide))
    intro q h4 F4 N4 l4
    have l5 := allLt_of l4
    simp only [AllLt] at l5
    refine bnd_callWith0 (by decide) (by decide) (N4 _ (.head _)).1 ?_
    k_dflt (refine' pop_bnd F4 X1 N4 (N4 _ (.head _)).1 ?kI ?k1 ?k2 rfl rfl (by k_upd) ?kz ?_; (case kI => k_inst); (case k1 => k_is); (case k2 => k_is); (case kz => simp at hz; (clear hdc hdp l3 e0 l5; omega)))
    intro h5 F5 N5
    (repeat' (first | (k_unfold; (try dsimp only)) | ((with_reducible show wpAny _ _ (storeName _ _ _) _ _ _); (try dsimp only); walk1) | ((with_reducible show PySem.wpAt _ _ _ _ _ _ _); walk_at "wpAt") | ((fail_if_success (with_reducible refine Stop.go (by constructor) ?_)); first | walk1 | (dsimp only; walk1))))
    refine ret1 vs' v rfl h5 _ (keep2 hc hd KP F5.keep (fun q => absurd List.mem_cons_self q) fun _ => (N5 _ (.tail _ (.tail _ (.tail _ (.head _))))).1) ?_
    have z := (N5 _ (.tail _ (.tail _ (.head _)))).1
    simpa [Obj.mapSeq] using z

end
section
variable {w : World} {mg mb : Str → Option Value} {mean : ExcName → Option Value} {dp un : Nat} {gd : Option (List Code)} {fr : List Env} {base : Heap} {s : Shared} {Q E : Value → Shared → Prop}
theorem len_spec
  {c d : Addr} {vs : List Value} {cs : List (Str × Str)} {hh : Int} {n : Int} {tk0 tn : Tok} {k : Nat} {ps : Array Value}
  (X : (Mine.heapK w.params).In base) (T : Top topProg GL mean mg mb base) (hS : base.StaysIn s.heap)
  (hc : s.heap.get? c = some (accObj d vs k)) (hd : s.heap.get? d = some (dictOf (iniE hh tk0 n tn) 1)) (hbc : base.get? c = none) (hbd : base.get? d = none) (hdc : @LT.lt Nat _ d c) (hlow : @LT.lt Nat _ 300 d)
  (hp : s.heap.get? 140 = some (tabObj ps)) (hbp : base.get? 140 = none) (ht : TabOk posLen ps) (G : AllBare s.gens)
  (hA : AllAt (TupAt s.heap) vs (cs.map ckd)) (hb : tlen cs ≤ 1000000) (hn : 0 ≤ n ∧ n ≤ 1000000)
  (hdp : dp < 800) (_hu : un < 900)
  (ret : ∀ t h' g' tk' ps', Keep [140] s.heap h' → h'.get? 140 = some (tabObj ps') → TabOk posLen ps' → AllBare g' → Q (.int (n + tlen cs) t) { s with heap := h', gens := g', toks := tk' }) :
  wpAny (model PySem.Challenge.rw_ik0220_01.row.prog w) (amb dp un gd fr) (call (.ref 145) [.ref c]) Q E s := by
  revert X; k_fill; intro X
  refine wpAny_call ?_
  k_dflt (refine' enterF [(Str.ofString "self", .ref c)] [(140, tabObj ps), (c, accObj d vs k), (d, dictOf (iniE hh tk0 n tn) 1)] ?kX ?kT hS ?kD ?kho ?khcd ?kroom ?kb ?kl ?kr ?_ ?c1 ?c2 ?c3 ?c4; (
  (case kX => assumption); (case kT => assumption); (case kho => k_is); (case khcd => k_is); (case kb => first | exact BindsTo.of_eq rfl | exact binds_K (by k_in) rfl (by k_is) rfl rfl rfl);
  (case kl => exact locs rfl); (case kr => exact rfl); (case c1 => exact rfl); (case c2 => exact rfl); (case c3 => exact rfl); (case c4 => decide); (case kroom => first | exact rm0 hdp rfl | (simp only [recursionLimit]; omega))); (case kD => intro q hq; rcases List.mem_cons.mp hq with rfl | hq; exact ⟨hp, hbp⟩; rcases List.mem_cons.mp hq with rfl | hq; exact ⟨hc, hbc⟩; rcases List.mem_singleton.mp hq with rfl; exact ⟨hd, hbd⟩))
  intro g L h1 fr' tk F N X1 T1 KP LTs
  k_fold
  have HC : CodeHd g 144 140 := codeHd_of_K X1 (by kernel_rfl)
  have hAg : AllAt (TupAt g) vs (cs.map ckd) := hA.mono fun v d' z => z.kept KP fun b hb o ho => by
    simp at hb
    rcases hb with rfl | rfl | rfl
    · rw [hp] at ho; cases ho; simp
    · rw [hc] at ho; cases ho; simp
    · rw [hd] at ho; cases ho; simp
  obtain ⟨Ts, ta, tb, hch⟩ := choose_ck (hAg.mono fun _ _ z => z.keeps F.keep)
  have hvl : vs.length = cs.length := by simpa using hA.length
  have hlt : @LT.lt Nat _ 140 d := by (clear hdc hb hn hdp hvl; omega)
  (repeat' (first | (k_unfold; (try dsimp only)) | ((with_reducible show wpAny _ _ (storeName _ _ _) _ _ _); (try dsimp only); walk1) | ((with_reducible show PySem.wpAt _ _ _ _ _ _ _); walk_at "wpAt") | ((fail_if_success (with_reducible refine Stop.go (by constructor) ?_)); first | walk1 | (dsimp only; walk1))))
  refine genT (x := c) (P := 140) (items := vs.toArray) (Ts := Ts) (va := fun j => .str ((cs[j]?).getD (Str.ofString "", Str.ofString "")).1 (ta j)) (vb := fun j => .str ((cs[j]?).getD (Str.ofString "", Str.ofString "")).2 (tb j)) (Fv := fun i y => ∃ t, y = .int ((cs.map clen).getD i 0) t)
    F N ?hnP G T1 HC ht ?hev ?hit ⟨_, _, (N _ (.tail _ (.head _))).1, rfl⟩ ?hxP ?hat ?htup ?helt ?hk (hroom := by simp only [recursionLimit]; (clear hdc hlow hb hn hvl hlt; omega))
  case hnP => intro q hq; simp at hq; rcases hq with rfl | rfl <;> (show @Ne Nat _ _; (clear hb hn hdp hvl hlt; omega))
  case hev => intro Q' h; (repeat' (first | (k_unfold; (try dsimp only)) | ((with_reducible show wpAny _ _ (storeName _ _ _) _ _ _); (try dsimp only); walk1) | ((with_reducible show PySem.wpAt _ _ _ _ _ _ _); walk_at "wpAt") | ((fail_if_success (with_reducible refine Stop.go (by constructor) ?_)); first | walk1 | (dsimp only; walk1)))); exact h
  case hit =>
    intro Q' h
    k_dflt (refine' iter_inst (X1.keeps F.keep) ?kI ?k1 ?k2 h; (case kI => k_inst); (case k1 => k_is); (case k2 => k_is))
  case hxP => show @Ne Nat _ _; (clear hb hn hdp hvl hlt; omega)
  case hat =>
    intro j hj
    simp at hj
    have hj' : j < cs.length := by (clear hdc hlow hb hn hdp hlt; omega)
    have := (hch j _ (List.getElem?_eq_getElem hj')).1
    simpa using this
  case htup =>
    intro j hj
    simp at hj
    have hj' : j < cs.length := by (clear hdc hlow hb hn hdp hlt; omega)
    have := (hch j _ (List.getElem?_eq_getElem hj')).2
    simpa [List.getElem?_eq_getElem hj'] using this
  case helt =>
    intro c' C t m₂ i E' A' hA1 hA2 hA3 hi F9 hma hmb
    clear F N hch hA1 hA2 hA3
    simp at hi
    have hi' : i < cs.length := by (clear hdc hlow hb hn hdp hlt; omega)
    have hce : cs[i]? = some cs[i] := List.getElem?_eq_getElem hi'
    rw [hce, Option.getD_some] at hma hmb
    have hle := clen_le (List.getElem_mem hi')
    have hcl : (cs.map clen).getD i 0 = clen cs[i] := by simp [List.getD_eq_getElem?_getD, hi']
    rw [hcl]
    generalize cs[i] = p0 at hma hmb hle
    have F10 := toKF [(Str.ofString "fws", .str p0.1 (ta i)), (Str.ofString "part", .str p0.2 (tb i))] F9 ⟨hma, hmb, trivial⟩
    clear F9 hma hmb
    have N10 : News g C t.heap [] := News.nil
    unfold clen at hle
    clear ret hc hd hbc hbd hdc hlow hp hbp ht G hA hAg HC KP LTs ek qk X T hS hvl hlt
    (repeat' (first | (k_unfold; (try dsimp only)) | ((with_reducible show wpAny _ _ (storeName _ _ _) _ _ _); (try dsimp only); walk1) | ((with_reducible show PySem.wpAt _ _ _ _ _ _ _); walk_at "wpAt") | ((fail_if_success (with_reducible refine Stop.go (by constructor) ?_)); first | walk1 | (dsimp only; walk1))))
    exact ⟨_, _, rfl, fun _ _ e => e⟩
  case hk =>
    intro a h2 g2 tk2 ps2 F2 N2 ht2 G2 K2 z2 X2
    have kg1 : ∀ b o, g.get? b = some o → b ≠ 140 ∧ h1.get? b = some o := fun b o e => ⟨fun q => ne_none e (by rw [q]; exact (N _ (.head _)).2.2), F.keep b o e⟩
    have zc := Heap.lt_size (N _ (.tail _ (.head _))).1
    have zd := Heap.lt_size (N _ (.tail _ (.tail _ (.head _)))).1
    have zp := Heap.lt_size (N _ (.head _)).1
    clear F N hch
    (repeat' (first | (k_unfold; (try dsimp only)) | ((with_reducible show wpAny _ _ (storeName _ _ _) _ _ _); (try dsimp only); walk1) | ((with_reducible show PySem.wpAt _ _ _ _ _ _ _); walk_at "wpAt") | ((fail_if_success (with_reducible refine Stop.go (by constructor) ?_)); first | walk1 | (dsimp only; walk1))))
    refine sum_gen (X2.toks (Nat.le_succ _)) G2 (fun i => (cs.map clen).getD i 0) (fun j v h => h) ⟨by (clear hdc hlow hb hdp hvl hlt z2 zc zd zp; omega), by (clear hdc hlow hb hdp hvl hlt z2 zc zd zp; omega)⟩ (fun j hj => ?_) fun h3 g3 tk3 t3 G3 K3 => ?_
    · rw [preSum_ck]
      have h9 := take_le cs (j + 1)
      have h8 : 0 ≤ (cs.map clen).getD j 0 ∧ (cs.map clen).getD j 0 ≤ tlen cs := by
        simp at hj
        have hj' : j < cs.length := by (clear hdc hlow hb hn hdp hlt z2 zc zd zp h9; omega)
        have := clen_le (List.getElem_mem hj')
        have := clen_nn cs[j]
        simp [List.getD_eq_getElem?_getD, hj']
        (clear hdc hlow hb hn hdp hvl hlt z2 zc zd zp h9 hj; omega)
      exact ⟨⟨by (clear hdc hlow hb hn hdp hvl hlt z2 zc zd zp hj h9; omega), by (clear hdc hlow hn hdp hvl hlt z2 zc zd zp hj h9; omega)⟩, by (clear hdc hlow hdp hvl hlt z2 zc zd zp hj h8; omega), by (clear hdc hlow hdp hvl hlt z2 zc zd zp hj h8; omega)⟩
    · rw [preSum_ck]
      have e9 : ((cs.map clen).take vs.toArray.size).sum = tlen cs := by
        rw [List.take_of_length_le (by simp; (clear hdc hlow hb hn hdp hlt z2 zc zd zp; omega))]; rfl
      rw [e9]
      refine ret t3 h3 g3 tk3 ps2 (keep3 hp hc hd KP (fun b o e => K3 b o (Heap.lt_size (kg1 b o e).2) (K2 b o (kg1 b o e).1 (kg1 b o e).2)) (fun q => absurd List.mem_cons_self q) (fun _ => K3 _ _ zc (N2 _ (.tail _ (.head _))).1) fun _ => K3 _ _ zd (N2 _ (.tail _ (.tail _ (.head _)))).1)
        (K3 _ _ zp (N2 _ (.head _)).1) ht2 G3

end
section
variable {w : World} {mg mb : Str → Option Value} {mean : ExcName → Option Value} {dp un : Nat} {gd : Option (List Code)} {fr : List Env} {base : Heap} {s : Shared} {Q E : Value → Shared → Prop}
theorem str_spec
  {c d : Addr} {vs : List Value} {cs : List (Str × Str)} {hh : Int} {n : Int} {tk0 tn : Tok} {k : Nat} {ps : Array Value}
  (X : (Mine.heapK w.params).In base) (T : Top topProg GL mean mg mb base) (hS : base.StaysIn s.heap)
  (hc : s.heap.get? c = some (accObj d vs k)) (hd : s.heap.get? d = some (dictOf (iniE hh tk0 n tn) 1)) (hbc : base.get? c = none) (hbd : base.get? d = none) (hdc : @LT.lt Nat _ d c) (hlow : @LT.lt Nat _ 300 d) (hz : vs.length < 1000000)
  (hp : s.heap.get? 147 = some (tabObj ps)) (hbp : base.get? 147 = none) (ht : TabOk posStr ps) (G : AllBare s.gens)
  (hA : AllAt (TupAt s.heap) vs (cs.map ckd)) (hb : tlen cs ≤ 1000000) (hn : 0 ≤ n ∧ n ≤ 1000000)
  (hdp : dp < 800) (_hu : un < 900)
  (ret : ∀ t h' g' tk' ps', Keep [147] s.heap h' → h'.get? 147 = some (tabObj ps') → TabOk posStr ps' → AllBare g' → Q (.str (ctxt cs) t) { s with heap := h', gens := g', toks := tk' }) :
  wpAny (model PySem.Challenge.rw_ik0220_01.row.prog w) (amb dp un gd fr) (call (.ref 152) [.ref c]) Q E s := by
  revert X; k_fill; intro X
  refine wpAny_call ?_
  k_dflt (refine' enterF [(Str.ofString "self", .ref c)] [(147, tabObj ps), (c, accObj d vs k), (d, dictOf (iniE hh tk0 n tn) 1)] ?kX ?kT hS ?kD ?kho ?khcd ?kroom ?kb ?kl ?kr ?_ ?c1 ?c2 ?c3 ?c4; (
  (case kX => assumption); (case kT => assumption); (case kho => k_is); (case khcd => k_is); (case kb => first | exact BindsTo.of_eq rfl | exact binds_K (by k_in) rfl (by k_is) rfl rfl rfl);
  (case kl => exact locs rfl); (case kr => exact rfl); (case c1 => exact rfl); (case c2 => exact rfl); (case c3 => exact rfl); (case c4 => decide); (case kroom => first | exact rm0 hdp rfl | (simp only [recursionLimit]; omega))); (case kD => intro q hq; rcases List.mem_cons.mp hq with rfl | hq; exact ⟨hp, hbp⟩; rcases List.mem_cons.mp hq with rfl | hq; exact ⟨hc, hbc⟩; rcases List.mem_singleton.mp hq with rfl; exact ⟨hd, hbd⟩))
  intro g L h1 fr' tk F N X1 T1 KP LTs
  k_fold
  have HC : CodeHd g 151 147 := codeHd_of_K X1 (by kernel_rfl)
  have hAg : AllAt (TupAt g) vs (cs.map ckd) := hA.mono fun v d' z => z.kept KP fun b hb o ho => by
    simp at hb
    rcases hb with rfl | rfl | rfl
    · rw [hp] at ho; cases ho; simp
    · rw [hc] at ho; cases ho; simp
    · rw [hd] at ho; cases ho; simp
  obtain ⟨Ts, ta, tb, hch⟩ := choose_ck (hAg.mono fun _ _ z => z.keeps F.keep)
  have hvl : vs.length = cs.length := by simpa using hA.length
  have hlt : @LT.lt Nat _ 147 d := by (clear hdc hz hb hn hdp hvl; omega)
  (repeat' (first | (k_unfold; (try dsimp only)) | ((with_reducible show wpAny _ _ (storeName _ _ _) _ _ _); (try dsimp only); walk1) | ((with_reducible show PySem.wpAt _ _ _ _ _ _ _); walk_at "wpAt") | ((fail_if_success (with_reducible refine Stop.go (by constructor) ?_)); first | walk1 | (dsimp only; walk1))))
  refine genT (x := c) (P := 147) (items := vs.toArray) (Ts := Ts) (va := fun j => .str ((cs[j]?).getD (Str.ofString "", Str.ofString "")).1 (ta j)) (vb := fun j => .str ((cs[j]?).getD (Str.ofString "", Str.ofString "")).2 (tb j)) (Fv := fun i y => ∃ t, y = .str ((cs.map cone).getD i (Str.ofString "")) t)
    F N ?hnP G T1 HC ht ?hev ?hit ⟨_, _, (N _ (.tail _ (.head _))).1, rfl⟩ ?hxP ?hat ?htup ?helt ?hk (hroom := by simp only [recursionLimit]; (clear hdc hlow hz hb hn hvl hlt; omega))
  case hnP => intro q hq; simp at hq; rcases hq with rfl | rfl <;> (show @Ne Nat _ _; (clear hz hb hn hdp hvl hlt; omega))
  case hev => intro Q' h; (repeat' (first | (k_unfold; (try dsimp only)) | ((with_reducible show wpAny _ _ (storeName _ _ _) _ _ _); (try dsimp only); walk1) | ((with_reducible show PySem.wpAt _ _ _ _ _ _ _); walk_at "wpAt") | ((fail_if_success (with_reducible refine Stop.go (by constructor) ?_)); first | walk1 | (dsimp only; walk1)))); exact h
  case hit =>
    intro Q' h
    k_dflt (refine' iter_inst (X1.keeps F.keep) ?kI ?k1 ?k2 h; (case kI => k_inst); (case k1 => k_is); (case k2 => k_is))
  case hxP => show @Ne Nat _ _; (clear hz hb hn hdp hvl hlt; omega)
  case hat =>
    intro j hj
    simp at hj
    have hj' : j < cs.length := by (clear hdc hlow hz hb hn hdp hlt; omega)
    have := (hch j _ (List.getElem?_eq_getElem hj')).1
    simpa using this
  case htup =>
    intro j hj
    simp at hj
    have hj' : j < cs.length := by (clear hdc hlow hz hb hn hdp hlt; omega)
    have := (hch j _ (List.getElem?_eq_getElem hj')).2
    simpa [List.getElem?_eq_getElem hj'] using this
  case helt =>
    intro c' C t m₂ i E' A' hA1 hA2 hA3 hi F9 hma hmb
    clear F N hch hA1 hA2 hA3
    simp at hi
    have hi' : i < cs.length := by (clear hdc hlow hz hb hn hdp hlt; omega)
    have hce : cs[i]? = some cs[i] := List.getElem?_eq_getElem hi'
    rw [hce, Option.getD_some] at hma hmb
    have hle := clen_le (List.getElem_mem hi')
    have hcl : (cs.map cone).getD i (Str.ofString "") = cone cs[i] := by simp [List.getD_eq_getElem?_getD, hi']
    rw [hcl]
    generalize cs[i] = p0 at hma hmb hle
    have F10 := toKF [(Str.ofString "fws", .str p0.1 (ta i)), (Str.ofString "part", .str p0.2 (tb i))] F9 ⟨hma, hmb, trivial⟩
    clear F9 hma hmb
    have N10 : News g C t.heap [] := News.nil
    unfold clen at hle
    (repeat' (first | (k_unfold; (try dsimp only)) | ((fail_if_success (with_reducible show wpAny _ _ (newTuple _) _ _ _)); ((fail_if_success (with_reducible refine Stop.go (by constructor) ?_)); first | walk1 | (dsimp only; walk1)))))
    refine wpAny_newTuple ?_ (by simp [sizeLine_eq])
    obtain ⟨F11, N11, l11⟩ := ks_newsPush (s := t) (o := { cls := .type "tuple", data := .seq #[.str p0.1 (ta i), .str p0.2 (tb i)] }) F10 N10 rfl (Heap.get?_push_at rfl rfl) (fun b o e => Heap.get?_push_of_some _ e)
    clear F10 N10
    (repeat' (first | (k_unfold; (try dsimp only)) | ((with_reducible show wpAny _ _ (storeName _ _ _) _ _ _); (try dsimp only); walk1) | ((with_reducible show PySem.wpAt _ _ _ _ _ _ _); walk_at "wpAt") | ((fail_if_success (with_reducible refine Stop.go (by constructor) ?_)); first | walk1 | (dsimp only; walk1))))
    exact ⟨_, _, rfl, fun _ _ e => Heap.get?_push_of_some _ e⟩
  case hk =>
    intro a h2 g2 tk2 ps2 F2 N2 ht2 G2 K2 z2 X2
    have kg1 : ∀ b o, g.get? b = some o → b ≠ 147 ∧ h1.get? b = some o := fun b o e => ⟨fun q => ne_none e (by rw [q]; exact (N _ (.head _)).2.2), F.keep b o e⟩
    have zc := Heap.lt_size (N _ (.tail _ (.head _))).1
    have zd := Heap.lt_size (N _ (.tail _ (.tail _ (.head _)))).1
    have zp := Heap.lt_size (N _ (.head _)).1
    clear F N hch
    (repeat' (first | (k_unfold; (try dsimp only)) | ((with_reducible show wpAny _ _ (storeName _ _ _) _ _ _); (try dsimp only); walk1) | ((with_reducible show PySem.wpAt _ _ _ _ _ _ _); walk_at "wpAt") | ((fail_if_success (with_reducible refine Stop.go (by constructor) ?_)); first | walk1 | (dsimp only; walk1))))
    have e9 : (List.range vs.toArray.size).map (fun i => (cs.map cone).getD i (Str.ofString "")) = cs.map cone := by
      apply List.ext_getElem?
      intro j
      by_cases hj : j < cs.length
      · have hj2 : j < vs.length := by (clear hdc hlow hz hb hn hdp hlt z2 zc zd zp; omega)
        simp [hj, hj2, List.getD_eq_getElem?_getD]
      · have hj2 : ¬ j < vs.length := by (clear hdc hlow hz hb hn hdp hlt z2 zc zd zp; omega)
        rw [List.getElem?_eq_none (by simp; (clear hdc hlow hz hb hn hdp hlt z2 zc zd zp hj2; omega)), List.getElem?_eq_none (by simp; (clear hdc hlow hz hb hn hdp hvl hlt z2 zc zd zp hj2; omega))]
    refine join_gen X2 G2 (fun i => (cs.map cone).getD i (Str.ofString "")) (fun j v h => h) (by rw [e9]; exact cone_ok hb) (fun h3 g3 tk3 t3 G3 K3 => ?_) (by simp; (clear hdc hlow hb hn hdp hlt z2 zc zd zp; omega))
    rw [e9]
    refine ret t3 h3 g3 tk3 ps2 (keep3 hp hc hd KP (fun b o e => K3 b o (Heap.lt_size (kg1 b o e).2) (K2 b o (kg1 b o e).1 (kg1 b o e).2)) (fun q => absurd List.mem_cons_self q) (fun _ => K3 _ _ zc (N2 _ (.tail _ (.head _))).1) fun _ => K3 _ _ zd (N2 _ (.tail _ (.tail _ (.head _)))).1)
      (K3 _ _ zp (N2 _ (.head _)).1) ht2 G3

end
section
variable {w : World} {mg mb : Str → Option Value} {mean : ExcName → Option Value} {dp un : Nat} {gd : Option (List Code)} {fr : List Env} {base : Heap} {s : Shared} {Q E : Value → Shared → Prop}
theorem onlyws_spec
  {c d : Addr} {vs : List Value} {cs : List (Str × Str)} {hh : Int} {n : Int} {tk0 tn : Tok} {k : Nat} {ps qs : Array Value}
  (X : (Mine.heapK w.params).In base) (T : Top topProg GL mean mg mb base) (hS : base.StaysIn s.heap)
  (hc : s.heap.get? c = some (accObj d vs k)) (hd : s.heap.get? d = some (dictOf (iniE hh tk0 n tn) 1)) (hbc : base.get? c = none) (hbd : base.get? d = none) (hdc : @LT.lt Nat _ d c) (hlow : @LT.lt Nat _ 300 d) (hz : vs.length < 1000000)
  (hp : s.heap.get? 140 = some (tabObj ps)) (hbp : base.get? 140 = none) (ht : TabOk posLen ps) (hq : s.heap.get? 147 = some (tabObj qs)) (hbq : base.get? 147 = none) (htq : TabOk posStr qs) (G : AllBare s.gens)
  (hA : AllAt (TupAt s.heap) vs (cs.map ckd)) (hb : tlen cs ≤ 1000000) (hn : 0 ≤ n ∧ n ≤ 1000000)
  (hdp : dp < 700) (_hu : un < 800)
  (ret : ∀ h' g' tk' ps' qs', Keep [140, 147] s.heap h' → h'.get? 140 = some (tabObj ps') → TabOk posLen ps' → h'.get? 147 = some (tabObj qs') → TabOk posStr qs' → AllBare g' → Q (.bool (decide (n = 0) && (decide (tlen cs = 0) || Txt.isspace (ctxt cs)))) { s with heap := h', gens := g', toks := tk' }) :
  wpAny (model PySem.Challenge.rw_ik0220_01.row.prog w) (amb dp un gd fr) (call (.ref 167) [.ref c]) Q E s := by
  revert X; k_fill; intro X
  refine wpAny_call ?_
  k_dflt (refine' enterF [(Str.ofString "self", .ref c)] [(140, tabObj ps), (147, tabObj qs), (c, accObj d vs k), (d, dictOf (iniE hh tk0 n tn) 1)] ?kX ?kT hS ?kD ?kho ?khcd ?kroom ?kb ?kl ?kr ?_ ?c1 ?c2 ?c3 ?c4; (
  (case kX => assumption); (case kT => assumption); (case kho => k_is); (case khcd => k_is); (case kb => first | exact BindsTo.of_eq rfl | exact binds_K (by k_in) rfl (by k_is) rfl rfl rfl);
  (case kl => exact locs rfl); (case kr => exact rfl); (case c1 => exact rfl); (case c2 => exact rfl); (case c3 => exact rfl); (case c4 => decide); (case kroom => first | exact rm0 hdp rfl | (simp only [recursionLimit]; omega))); (case kD => intro q hq'; rcases List.mem_cons.mp hq' with rfl | hq'; exact ⟨hp, hbp⟩; rcases List.mem_cons.mp hq' with rfl | hq'; exact ⟨hq, hbq⟩; rcases List.mem_cons.mp hq' with rfl | hq'; exact ⟨hc, hbc⟩; rcases List.mem_singleton.mp hq' with rfl; exact ⟨hd, hbd⟩))
  intro g L h1 fr' tk F N X1 T1 KP LTs
  k_fold
  (repeat' (first | (k_unfold; (try dsimp only)) | ((with_reducible show wpAny _ _ (storeName _ _ _) _ _ _); (try dsimp only); walk1) | ((with_reducible show PySem.wpAt _ _ _ _ _ _ _); walk_at "wpAt") | ((fail_if_success (with_reducible refine StopT.go (by constructor) ?_)); ((fail_if_success (with_reducible refine Stop.go (by constructor) ?_)); first | walk1 | (dsimp only; walk1)))))
  · rename_i e0
    subst e0
    have hAg : AllAt (TupAt g) vs (cs.map ckd) := hA.mono fun v d' z => z.kept KP fun b hb' o ho => by
      simp at hb'
      rcases hb' with rfl | rfl | rfl | rfl
      · rw [hp] at ho; cases ho; simp
      · rw [hq] at ho; cases ho; simp
      · rw [hc] at ho; cases ho; simp
      · rw [hd] at ho; cases ho; simp
    k_dflt (refine' truthy_lenK (X1.keeps F.keep) ?kI ?k1 ?k2 ?k3 ?_; (case kI => k_inst); (case k1 => k_is); (case k2 => k_is); (case k3 => k_is))
    show wpAny _ (amb (dp + 1) (un + 4) gd fr') _ _ _ _
    refine len_spec (cs := cs) X1 T1 F.keep (N _ (.tail _ (.tail _ (.head _)))).1 (N _ (.tail _ (.tail _ (.tail _ (.head _))))).1 (N _ (.tail _ (.tail _ (.head _)))).2.2 (N _ (.tail _ (.tail _ (.tail _ (.head _))))).2.2 hdc hlow (N _ (.head _)).1 (N _ (.head _)).2.2 ht G (hAg.mono fun _ _ z => z.keeps F.keep) hb hn (by (clear hdc hlow hz hb hn; omega)) (by (clear hdc hlow hz hb hdp hn; omega)) fun t2 h2 g2 tk2 ps2 k2 e2 ht2 G2 => ?_
    have F2 := Fr.re1 F N k2 (.head _)
    have N2 : News g L h2 [(140, tabObj ps2), (147, tabObj qs), (c, accObj d vs k), (d, dictOf (iniE hh tk0 0 tn) 1)] := News.re_new N (.head _) e2 (News.re_keep N k2 (.tail _ (.head _)) (off1 (by (clear hdc hlow hz hb hdp hn; omega))) (News.re_keep N k2 (.tail _ (.tail _ (.head _))) (off1 (by (clear hz hb hdp hn; omega))) (News.re_keep N k2 (.tail _ (.tail _ (.tail _ (.head _)))) (off1 (by (clear hdc hz hb hdp hn; omega))) News.nil)))
    have nn := tlen_nn cs
    clear F N
    refine ⟨⟨by (clear hdc hlow hz hdp hn; omega), by (clear hdc hlow hz hdp hn; omega)⟩, ?_⟩
    simp only [Int.zero_add]
    (repeat' (first | (k_unfold; (try dsimp only)) | ((with_reducible show wpAny _ _ (storeName _ _ _) _ _ _); (try dsimp only); walk1) | ((with_reducible show PySem.wpAt _ _ _ _ _ _ _); walk_at "wpAt") | ((fail_if_success (with_reducible refine StopT.go (by constructor) ?_)); ((fail_if_success (with_reducible refine Stop.go (by constructor) ?_)); first | walk1 | (dsimp only; walk1)))))
    · rename_i e1
      k_dflt (refine' kso_call ?hu (X1.keeps F2.keep) ?kI ?k1 ?k2 ?_; (case hu => show un + 3 + 1 + 1 < cLine; simp only [cLine]; (clear hdc hlow hz hb hdp hn nn e1; omega)); (case kI => k_inst); (case k1 => k_is); (case k2 => k_is))
      show wpAny _ (amb (dp + 1) (un + 5) gd fr') _ _ _ _
      refine str_spec (cs := cs) X1 T1 F2.keep (N2 _ (.tail _ (.tail _ (.head _)))).1 (N2 _ (.tail _ (.tail _ (.tail _ (.head _))))).1 (N2 _ (.tail _ (.tail _ (.head _)))).2.2 (N2 _ (.tail _ (.tail _ (.tail _ (.head _))))).2.2 hdc hlow hz (N2 _ (.tail _ (.head _))).1 (N2 _ (.tail _ (.head _))).2.2 htq G2 (hAg.mono fun _ _ z => z.keeps F2.keep) hb hn (by (clear hdc hlow hz hb hn nn e1; omega)) (by (clear hdc hlow hz hb hdp hn nn e1; omega)) fun t3 h3 g3 tk3 qs3 k3 e3 ht3 G3 => ?_
      have F3 := Fr.re1 F2 N2 k3 (.tail _ (.head _))
      have N3 : News g L h3 [(140, tabObj ps2), (147, tabObj qs3), (c, accObj d vs k), (d, dictOf (iniE hh tk0 0 tn) 1)] := News.re_keep N2 k3 (.head _) (off1 (by (clear hdc hlow hz hb hdp hn nn e1; omega))) (News.re_new N2 (.tail _ (.head _)) e3 (News.re_keep N2 k3 (.tail _ (.tail _ (.head _))) (off1 (by (clear hz hb hdp hn nn e1; omega))) (News.re_keep N2 k3 (.tail _ (.tail _ (.tail _ (.head _)))) (off1 (by (clear hdc hz hb hdp hn nn e1; omega))) News.nil)))
      clear F2 N2
      dsimp only [StrBack]
      (repeat' (first | (k_unfold; (try dsimp only)) | ((with_reducible show wpAny _ _ (storeName _ _ _) _ _ _); (try dsimp only); walk1) | ((with_reducible show PySem.wpAt _ _ _ _ _ _ _); walk_at "wpAt") | ((fail_if_success (with_reducible refine Stop.go (by constructor) ?_)); first | walk1 | (dsimp only; walk1))))
      have ev : (decide ((0 : Int) = 0) && (decide (tlen cs = 0) || Txt.isspace (ctxt cs))) = Txt.isspace (ctxt cs) := by simp [e1]
      rw [ev] at ret
      exact ret h3 g3 _ ps2 qs3 (keep4 hp hq hc hd KP (fun b o e => F3.keep b o e) (fun q => absurd List.mem_cons_self q) (fun q => absurd (.tail _ (.head _)) q) (fun _ => (N3 _ (.tail _ (.tail _ (.head _)))).1) fun _ => (N3 _ (.tail _ (.tail _ (.tail _ (.head _))))).1)
        (N3 _ (.head _)).1 ht2 (N3 _ (.tail _ (.head _))).1 ht3 G3
    · rename_i e1
      have ev : (decide ((0 : Int) = 0) && (decide (tlen cs = 0) || Txt.isspace (ctxt cs))) = !tlen cs != 0 := by simp [e1]
      rw [ev] at ret
      exact ret h2 g2 _ ps2 qs (keep4 hp hq hc hd KP (fun b o e => F2.keep b o e) (fun q => absurd List.mem_cons_self q) (fun q => absurd (.tail _ (.head _)) q) (fun _ => (N2 _ (.tail _ (.tail _ (.head _)))).1) fun _ => (N2 _ (.tail _ (.tail _ (.tail _ (.head _))))).1)
        (N2 _ (.head _)).1 ht2 (N2 _ (.tail _ (.head _))).1 htq G2
  · rename_i e0
    have ev : (decide (n = 0) && (decide (tlen cs = 0) || Txt.isspace (ctxt cs))) = (n == 0) := by simp [e0]
    rw [ev] at ret
    exact ret h1 _ _ ps qs (keep4 hp hq hc hd KP (fun b o e => F.keep b o e) (fun q => absurd List.mem_cons_self q) (fun q => absurd (.tail _ (.head _)) q) (fun _ => (N _ (.tail _ (.tail _ (.head _)))).1) fun _ => (N _ (.tail _ (.tail _ (.tail _ (.head _))))).1)
      (N _ (.head _)).1 ht (N _ (.tail _ (.head _))).1 htq G

end
section
variable {w : World} {mg mb : Str → Option Value} {mean : ExcName → Option Value} {dp un : Nat} {gd : Option (List Code)} {fr : List Env} {base : Heap} {s : Shared} {Q E : Value → Shared → Prop}
theorem popfrom_spec
  {c d : Addr} {vs : List Value} {hh : Int} {n : Int} {tk0 tn ti : Tok} {k i : Nat}
  (X : (Mine.heapK w.params).In base) (T : Top topProg GL mean mg mb base) (hS : base.StaysIn s.heap)
  (hc : s.heap.get? c = some (accObj d vs k)) (hd : s.heap.get? d = some (dictOf (iniE hh tk0 n tn) 1)) (hbc : base.get? c = none) (hbd : base.get? d = none) (hdc : @LT.lt Nat _ d c) (hz : vs.length < 100000) (hi : i ≤ vs.length)
  (hdp : dp < 800) (_hu : un < 900)
  (ret : ∀ h' tk' P k', s.heap.get? P = none → Keep [c] s.heap h' → h'.get? P = some (listOf (vs.drop i).toArray 0) → h'.get? c = some (accObj d (vs.take i) k') → Q (.ref P) { s with heap := h', toks := tk' }) :
  wpAny (model PySem.Challenge.rw_ik0220_01.row.prog w) (amb dp un gd fr) (call (.ref 130) [.ref c, .int (i : Int) ti]) Q E s := by
  revert X; k_fill; intro X
  have XS := X.keeps hS
  refine wpAny_call ?_
  k_dflt (refine' enterF [(Str.ofString "i", .int (i : Int) ti), (Str.ofString "self", .ref c)] [(c, accObj d vs k), (d, dictOf (iniE hh tk0 n tn) 1)] ?kX ?kT hS ?kD ?kho ?khcd ?kroom ?kb ?kl ?kr ?_ ?c1 ?c2 ?c3 ?c4; (
  (case kX => assumption); (case kT => assumption); (case kho => k_is); (case khcd => k_is); (case kb => first | exact BindsTo.of_eq rfl | exact binds_K (by k_in) rfl (by k_is) rfl rfl rfl);
  (case kl => exact locs rfl); (case kr => exact rfl); (case c1 => exact rfl); (case c2 => exact rfl); (case c3 => exact rfl); (case c4 => decide); (case kroom => first | exact rm0 hdp rfl | (simp only [recursionLimit]; omega))); (case kD => intro q hq; rcases List.mem_cons.mp hq with rfl | hq; exact ⟨hc, hbc⟩; rcases List.mem_singleton.mp hq with rfl; exact ⟨hd, hbd⟩))
  intro g L h1 fr' tk F N X1 T1 KP LTs
  k_fold
  clear XS
  (repeat' (first | (k_unfold; (try dsimp only)) | ((with_reducible show wpAny _ _ (storeName _ _ _) _ _ _); (try dsimp only); walk1) | ((with_reducible show PySem.wpAt _ _ _ _ _ _ _); walk_at "wpAt") | ((fail_if_success (with_reducible refine Stop.go (by constructor) ?_)); first | walk1 | (dsimp only; walk1))))
  obtain ⟨F2, N2, l2⟩ := ks_newsPush (s := { s with heap := h1, toks := tk }) (o := sliceO (.int (i : Int) ti) .none) F N rfl (Heap.get?_push_at rfl rfl) (fun b o e => Heap.get?_push_of_some _ e)
  have l3 := allLt_of l2
  simp only [AllLt] at l3
  k_dflt (refine' sub_from (o := accObj d vs k) (vs := vs) (n := k) F2 X1 N2 ?kI ?k1 ?k2 ?k3 rfl (.head _) (by (clear hdc hi hdp l3; omega)) ?_; (case kI => k_inst); (case k1 => k_is); (case k2 => k_is); (case k3 => k_is))
  intro P h3 F3 N3 l4
  have l5 := allLt_of l4
  simp only [AllLt] at l5
  clear F N F2 N2
  (repeat' (first | (k_unfold; (try dsimp only)) | ((with_reducible show wpAny _ _ (storeName _ _ _) _ _ _); (try dsimp only); walk1) | ((with_reducible show PySem.wpAt _ _ _ _ _ _ _); walk_at "wpAt") | ((fail_if_success (with_reducible refine Stop.go (by constructor) ?_)); first | walk1 | (dsimp only; walk1))))
  rename_i lE h5 F5 N5 l6
  obtain ⟨F6, N6, l7⟩ := ks_newsPush (s := { s with heap := h5 }) (o := sliceO (.int (i : Int) ti) .none) F5 N5 rfl (Heap.get?_push_at rfl rfl) (fun b o e => Heap.get?_push_of_some _ e)
  have l8 := allLt_of l7
  simp only [AllLt] at l8
  clear F5 N5
  obtain ⟨k9, ek9⟩ : ∃ k', Obj.mapSeq (fun xs => xs.extract 0 (sliceBounds (some (i : Int)) none none vs.toArray.size).1.toNat ++ ([] : List Value).toArray ++ xs.extract (max (sliceBounds (some (i : Int)) none none vs.toArray.size).1 (sliceBounds (some (i : Int)) none none vs.toArray.size).2.1).toNat xs.size) (accObj d vs k) = accObj d (vs.take i ++ []) k' := mapSeq_is (cut_from vs [] i hi)
  k_dflt (refine' set_cut (o := accObj d vs k) (vs := vs) (new := []) (n := k) (lo := some (i : Int)) F6 X1 N6 ?kI ?k1 ?k2 ?k3 rfl (.head _) (.int _ _) (.tail _ (.head _)) ?k4 ?k5 ek9 ?k6 ?_; (case kI => k_inst); (case k1 => k_is); (case k2 => k_is); (case k3 => k_is); (case k4 => (show @Ne Nat _ _); (clear hdc hz hi hdp l3 l5 l8; omega)); (case k5 => simp; (clear hdc hi hdp l3 l5 l6 l8; omega)); (case k6 => k_upd))
  intro h9 F9 N9
  clear F6 N6
  (repeat' (first | (k_unfold; (try dsimp only)) | ((with_reducible show wpAny _ _ (storeName _ _ _) _ _ _); (try dsimp only); walk1) | ((with_reducible show PySem.wpAt _ _ _ _ _ _ _); walk_at "wpAt") | ((fail_if_success (with_reducible refine Stop.go (by constructor) ?_)); first | walk1 | (dsimp only; walk1))))
  have z := (N9 _ (.tail _ (.tail _ (.tail _ (.tail _ (.head _)))))).1
  rw [List.append_nil] at z
  exact ret h9 _ P _ (keep_none KP (N9 _ (.tail _ (.tail _ (.head _)))).2.2 (fun hm => by simp only [List.map_cons, List.map_nil, List.mem_cons, List.not_mem_nil, or_false] at hm; rcases hm with h | h <;> (have h' : @Eq Nat P _ := h; (clear hdc hz hi hdp l3 l6 l8 h; omega)))) (keep2 hc hd KP F9.keep (fun q => absurd List.mem_cons_self q) fun _ => (N9 _ (.tail _ (.tail _ (.tail _ (.tail _ (.tail _ (.head _))))))).1) (N9 _ (.tail _ (.tail _ (.head _)))).1 z

end
section
variable {w : World} {mg mb : Str → Option Value} {mean : ExcName → Option Value} {dp un : Nat} {gd : Option (List Code)} {fr : List Env} {base : Heap} {s : Shared} {Q E : Value → Shared → Prop}
theorem reset0_spec
  {c d : Addr} {vs : List Value} {hh : Int} {n : Int} {tk0 tn : Tok} {k : Nat}
  (X : (Mine.heapK w.params).In base) (T : Top topProg GL mean mg mb base) (hS : base.StaysIn s.heap)
  (hc : s.heap.get? c = some (accObj d vs k)) (hd : s.heap.get? d = some (dictOf (iniE hh tk0 n tn) 1)) (hbc : base.get? c = none) (hbd : base.get? d = none) (hdc : @LT.lt Nat _ d c) (hz : vs.length < 100000)
  (hdp : dp < 800) (_hu : un < 900)
  (ret : ∀ h' tk' k' tn', Keep [c, d] s.heap h' → h'.get? c = some (accObj d [] k') → h'.get? d = some (dictOf (iniE hh tk0 0 tn') 1) → Q .none { s with heap := h', toks := tk' }) :
  wpAny (model PySem.Challenge.rw_ik0220_01.row.prog w) (amb dp un gd fr) (call (.ref 160) [.ref c]) Q E s := by
  revert X; k_fill; intro X
  have XS := X.keeps hS
  refine wpAny_call ?_
  k_dflt (refine' enterF [(Str.ofString "startval", .none), (Str.ofString "self", .ref c)] [(c, accObj d vs k), (d, dictOf (iniE hh tk0 n tn) 1)] ?kX ?kT hS ?kD ?kho ?khcd ?kroom ?kb ?kl ?kr ?_ ?c1 ?c2 ?c3 ?c4; (
  (case kX => assumption); (case kT => assumption); (case kho => k_is); (case khcd => k_is); (case kb => first | exact BindsTo.of_eq rfl | exact binds_K (by k_in) rfl (by k_is) rfl rfl rfl);
  (case kl => exact locs rfl); (case kr => exact rfl); (case c1 => exact rfl); (case c2 => exact rfl); (case c3 => exact rfl); (case c4 => decide); (case kroom => first | exact rm0 hdp rfl | (simp only [recursionLimit]; omega))); (case kD => intro q hq; rcases List.mem_cons.mp hq with rfl | hq; exact ⟨hc, hbc⟩; rcases List.mem_singleton.mp hq with rfl; exact ⟨hd, hbd⟩))
  intro g L h1 fr' tk F N X1 T1 KP LTs
  k_fold
  clear XS
  (repeat' (first | (k_unfold; (try dsimp only)) | ((with_reducible show wpAny _ _ (storeName _ _ _) _ _ _); (try dsimp only); walk1) | ((with_reducible show PySem.wpAt _ _ _ _ _ _ _); walk_at "wpAt") | ((fail_if_success (with_reducible refine Stop.go (by constructor) ?_)); first | walk1 | (dsimp only; walk1))))
  rename_i lE hOld l6 h5 F5 N5
  obtain ⟨F6, N6, l7⟩ := ks_newsPush (s := { s with heap := h5, toks := tk }) (o := sliceO .none .none) F5 N5 rfl (Heap.get?_push_at rfl rfl) (fun b o e => Heap.get?_push_of_some _ e)
  have l8 := allLt_of l7
  simp only [AllLt] at l8
  clear F5 N5
  obtain ⟨k9, ek9⟩ : ∃ k', Obj.mapSeq (fun xs => xs.extract 0 (sliceBounds none none none vs.toArray.size).1.toNat ++ ([] : List Value).toArray ++ xs.extract (max (sliceBounds none none none vs.toArray.size).1 (sliceBounds none none none vs.toArray.size).2.1).toNat xs.size) (accObj d vs k) = accObj d [] k' := mapSeq_is (cut_all vs [])
  k_dflt (refine' set_cut (o := accObj d vs k) (vs := vs) (new := []) (n := k) (lo := none) F6 X1 N6 ?kI ?k1 ?k2 ?k3 rfl (.head _) .none (.tail _ (.head _)) ?k4 ?k5 ek9 ?k6 ?_; (case kI => k_inst); (case k1 => k_is); (case k2 => k_is); (case k3 => k_is); (case k4 => (show @Ne Nat _ _); (clear hdc hz hdp l8; omega)); (case k5 => simp; (clear hdc hdp l6 l8; omega)); (case k6 => k_upd))
  intro h9 F9 N9
  clear F6 N6
  (repeat' (first | (k_unfold; (try dsimp only)) | ((with_reducible show wpAny _ _ (storeName _ _ _) _ _ _); (try dsimp only); walk1) | ((with_reducible show PySem.wpAt _ _ _ _ _ _ _); walk_at "wpAt") | ((fail_if_success (with_reducible refine Stop.go (by constructor) ?_)); first | walk1 | (dsimp only; walk1))))
  rename_i h10 F10 N10
  exact ret h10 _ _ _ (keep2 hc hd KP F10.keep (fun q => absurd List.mem_cons_self q) (fun q => absurd (.tail _ (.head _)) q)) (N10 _ (.tail _ (.tail _ (.head _)))).1 (N10 _ (.tail _ (.tail _ (.tail _ (.head _))))).1
theorem reset1_spec
  {c d P : Addr} {vs ws : List Value} {np : Nat} {hh : Int} {n : Int} {tk0 tn : Tok} {k : Nat}
  (X : (Mine.heapK w.params).In base) (T : Top topProg GL mean mg mb base) (hS : base.StaysIn s.heap)
  (hc : s.heap.get? c = some (accObj d vs k)) (hd : s.heap.get? d = some (dictOf (iniE hh tk0 n tn) 1)) (hbc : base.get? c = none) (hbd : base.get? d = none) (hdc : @LT.lt Nat _ d c) (hP : s.heap.get? P = some (listOf ws.toArray np)) (hbP : base.get? P = none) (hcP : @Ne Nat c P) (hdP : @Ne Nat d P) (hz : vs.length < 100000) (hz2 : ws.length < 100000)
  (hdp : dp < 800) (_hu : un < 900)
  (ret : ∀ h' tk' k' tn', Keep [c, d] s.heap h' → h'.get? c = some (accObj d ws k') → h'.get? d = some (dictOf (iniE hh tk0 0 tn') 1) → Q .none { s with heap := h', toks := tk' }) :
  wpAny (model PySem.Challenge.rw_ik0220_01.row.prog w) (amb dp un gd fr) (call (.ref 160) [.ref c, .ref P]) Q E s := by
  revert X; k_fill; intro X
  have XS := X.keeps hS
  refine wpAny_call ?_
  k_dflt (refine' enterF [(Str.ofString "startval", .ref P), (Str.ofString "self", .ref c)] [(P, listOf ws.toArray np), (c, accObj d vs k), (d, dictOf (iniE hh tk0 n tn) 1)] ?kX ?kT hS ?kD ?kho ?khcd ?kroom ?kb ?kl ?kr ?_ ?c1 ?c2 ?c3 ?c4; (
  (case kX => assumption); (case kT => assumption); (case kho => k_is); (case khcd => k_is); (case kb => first | exact BindsTo.of_eq rfl | exact binds_K (by k_in) rfl (by k_is) rfl rfl rfl);
  (case kl => exact locs rfl); (case kr => exact rfl); (case c1 => exact rfl); (case c2 => exact rfl); (case c3 => exact rfl); (case c4 => decide); (case kroom => first | exact rm0 hdp rfl | (simp only [recursionLimit]; omega))); (case kD => intro q hq; rcases List.mem_cons.mp hq with rfl | hq; exact ⟨hP, hbP⟩; rcases List.mem_cons.mp hq with rfl | hq; exact ⟨hc, hbc⟩; rcases List.mem_singleton.mp hq with rfl; exact ⟨hd, hbd⟩))
  intro g L h1 fr' tk F N X1 T1 KP LTs
  k_fold
  clear XS
  (repeat' (first | (k_unfold; (try dsimp only)) | ((with_reducible show wpAny _ _ (storeName _ _ _) _ _ _); (try dsimp only); walk1) | ((with_reducible show PySem.wpAt _ _ _ _ _ _ _); walk_at "wpAt") | ((fail_if_success (with_reducible refine Stop.go (by constructor) ?_)); first | walk1 | (dsimp only; walk1))))
  walk1
  (repeat' (first | (k_unfold; (try dsimp only)) | ((with_reducible show wpAny _ _ (storeName _ _ _) _ _ _); (try dsimp only); walk1) | ((with_reducible show PySem.wpAt _ _ _ _ _ _ _); walk_at "wpAt") | ((fail_if_success (with_reducible refine Stop.go (by constructor) ?_)); first | walk1 | (dsimp only; walk1))))
  obtain ⟨F6, N6, l7⟩ := ks_newsPush (s := { s with heap := h1, toks := tk }) (o := sliceO .none .none) F N rfl (Heap.get?_push_at rfl rfl) (fun b o e => Heap.get?_push_of_some _ e)
  have l8 := allLt_of l7
  simp only [AllLt] at l8
  clear F N
  obtain ⟨k9, ek9⟩ : ∃ k', Obj.mapSeq (fun xs => xs.extract 0 (sliceBounds none none none vs.toArray.size).1.toNat ++ ws.toArray ++ xs.extract (max (sliceBounds none none none vs.toArray.size).1 (sliceBounds none none none vs.toArray.size).2.1).toNat xs.size) (accObj d vs k) = accObj d ws k' := mapSeq_is (cut_all vs ws)
  k_dflt (refine' set_cut (o := accObj d vs k) (vs := vs) (new := ws) (n := k) (lo := none) F6 X1 N6 ?kI ?k1 ?k2 ?k3 rfl (.head _) .none (.tail _ (.head _)) ?k4 ?k5 ek9 ?k6 ?_; (case kI => k_inst); (case k1 => k_is); (case k2 => k_is); (case k3 => k_is); (case k4 => (show @Ne Nat _ _); (clear hz hz2 hdp l8; omega)); (case k5 => (clear hdc hcP hdP hdp l8; omega)); (case k6 => k_upd))
  intro h9 F9 N9
  clear F6 N6
  (repeat' (first | (k_unfold; (try dsimp only)) | ((with_reducible show wpAny _ _ (storeName _ _ _) _ _ _); (try dsimp only); walk1) | ((with_reducible show PySem.wpAt _ _ _ _ _ _ _); walk_at "wpAt") | ((fail_if_success (with_reducible refine Stop.go (by constructor) ?_)); first | walk1 | (dsimp only; walk1))))
  rename_i h10 F10 N10
  exact ret h10 _ _ _ (keep3 hP hc hd KP F10.keep (fun _ => (N10 _ (.tail _ (.head _))).1) (fun q => absurd List.mem_cons_self q) (fun q => absurd (.tail _ (.head _)) q)) (N10 _ (.tail _ (.tail _ (.head _)))).1 (N10 _ (.tail _ (.tail _ (.tail _ (.head _))))).1

end
section
variable {w : World} {mg mb : Str → Option Value} {mean : ExcName → Option Value} {dp un : Nat} {gd : Option (List Code)} {fr : List Env} {base : Heap} {s : Shared} {Q E : Value → Shared → Prop}
theorem finit_spec
  {f fd : Addr} {n W : Int} {tn tw t1 t2 : Tok} {cw sp : Str} {R : Result → Shared → Prop}
  (X : (Mine.heapK w.params).In base) (T : Top topProg GL mean mg mb base) (hS : base.StaysIn s.heap)
  (hf : s.heap.get? f = some (instObj 94 fd)) (hd : s.heap.get? fd = some (dictOf [] 0)) (hbf : base.get? f = none) (hbd : base.get? fd = none) (hfd : @LT.lt Nat _ fd f) (hcw : cw.length ≤ 10)
  (hdp : dp < 700) (_hu : un < 800)
  (ret : ∀ h' tk' q dC k hh tk0 tn0, Keep [f, fd] s.heap h' → q.mx = W → q.cw = cw → q.sp = sp → h'.get? f = some (instObj 94 fd) → h'.get? fd = some (dictOf (fmtE q) 6) → h'.get? q.ln = some (listOf #[] 0) →
    h'.get? q.cu = some (accObj dC [] k) → h'.get? dC = some (dictOf (iniE hh tk0 n tn0) 1) → s.heap.get? q.ln = none → s.heap.get? q.cu = none → s.heap.get? dC = none → @LT.lt Nat _ f q.ln → @LT.lt Nat _ q.ln dC → @LT.lt Nat _ dC q.cu → R (.ok (.ret .none)) { s with heap := h', toks := tk' }) :
  codeAny (model PySem.Challenge.rw_ik0220_01.row.prog w) (amb dp un gd fr) (.call (.ref 35) ⟨[.ref f, .int n tn, .int W tw, .str cw t1, .str sp t2], []⟩) R s := by
  revert X; k_fill; intro X
  k_dflt (refine' enterF [(Str.ofString "splitchars", .str sp t2), (Str.ofString "continuation_ws", .str cw t1), (Str.ofString "maxlen", .int W tw), (Str.ofString "headerlen", .int n tn), (Str.ofString "self", .ref f)] [(f, instObj 94 fd), (fd, dictOf [] 0)] ?kX ?kT hS ?kD ?kho ?khcd ?kroom ?kb ?kl ?kr ?_ ?c1 ?c2 ?c3 ?c4; (
  (case kX => assumption); (case kT => assumption); (case kho => k_is); (case khcd => k_is); (case kb => first | exact BindsTo.of_eq rfl | exact binds_K (by k_in) rfl (by k_is) rfl rfl rfl);
  (case kl => exact locs rfl); (case kr => exact rfl); (case c1 => exact rfl); (case c2 => exact rfl); (case c3 => exact rfl); (case c4 => decide); (case kroom => first | exact rm0 hdp rfl | (simp only [recursionLimit]; omega))); (case kD => intro q hq; rcases List.mem_cons.mp hq with rfl | hq; exact ⟨hf, hbf⟩; rcases List.mem_singleton.mp hq with rfl; exact ⟨hd, hbd⟩))
  intro g L h1 fr' tk F N X1 T1 KP LTs
  k_fold
  (repeat' (first | (k_unfold; (try dsimp only)) | ((with_reducible show wpAny _ _ (storeName _ _ _) _ _ _); (try dsimp only); walk1) | ((with_reducible show PySem.wpAt _ _ _ _ _ _ _); walk_at "wpAt") | ((fail_if_success (with_reducible refine Stop.go (by constructor) ?_)); first | walk1 | (dsimp only; walk1))))
  rename_i lE hO l5 h6 F6 N6
  k_dflt (refine' call_list F6 X1 N6 ?k1 ?k2 ?k3 ?_; (case k1 => kernel_rfl); (case k2 => k_is); (case k3 => k_is))
  intro c dC h7 F7 N7 l7 l8 z7
  have l9 := allLt_of l7
  simp only [AllLt] at l9
  rw [under_make]
  refine init_spec X1 T1 F7.keep (N7 _ (.head _)).1 (N7 _ (.tail _ (.head _))).1 (N7 _ (.head _)).2.2 (N7 _ (.tail _ (.head _))).2.2 l8 (by (clear hfd hcw l5 l8 z7 l9; omega)) (by (clear hfd hcw hdp l5 l8 z7 l9; omega)) fun h8 tk8 hh tk0 k8 e8 d8 => ?_
  refine ⟨rfl, ?_⟩
  have F8 := Fr.re2 F7 N7 k8 (.head _) (.tail _ (.head _))
  have l8' : @LT.lt Nat _ dC c := l8
  have N8 := News.re_new N7 (.head _) e8 (News.re_new N7 (.tail _ (.head _)) d8 (News.re_keep N7 k8 (.tail _ (.tail _ (.head _))) (off2 (by (clear hfd hcw hdp l5 l8 z7; omega)) (by (clear hfd hcw hdp l5 l8 z7 l8'; omega))) (News.re_keep N7 k8 (.tail _ (.tail _ (.tail _ (.head _)))) (off2 (by (clear hfd hcw hdp l5 l8 z7; omega)) (by (clear hfd hcw hdp l5 l8 z7 l8'; omega))) (News.re_keep N7 k8 (.tail _ (.tail _ (.tail _ (.tail _ (.head _))))) (off2 (by (clear hfd hcw hdp l5 l8 z7; omega)) (by (clear hfd hcw hdp l5 l8 z7 l8'; omega))) News.nil))))
  clear F6 N6 F7 N7
  dsimp only
  (repeat' (first | (k_unfold; (try dsimp only)) | ((with_reducible show wpAny _ _ (storeName _ _ _) _ _ _); (try dsimp only); walk1) | ((with_reducible show PySem.wpAt _ _ _ _ _ _ _); walk_at "wpAt") | ((fail_if_success (with_reducible refine Stop.go (by constructor) ?_)); first | walk1 | (dsimp only; walk1))))
  rename_i h9 F9 N9
  have off : ∀ {x : Nat}, x ≠ f → x ≠ fd → (x : Addr) ∉ [(f, instObj 94 fd), (fd, dictOf [] 0)].map Prod.fst := fun a b => off2 a b
  refine ret h9 _ ⟨_, _, _, _, _, _, _, _, _, _, _, _, W, tw, cw, t1, _, _, sp, t2, lE, c⟩ dC 0 hh tk0 tn
    (keep2 hf hd KP F9.keep (fun q => absurd List.mem_cons_self q) (fun q => absurd (.tail _ (.head _)) q)) rfl rfl rfl (N9 _ (.tail _ (.tail _ (.tail _ (.head _))))).1 (N9 _ (.tail _ (.tail _ (.tail _ (.tail _ (.head _)))))).1
    (N9 _ (.tail _ (.tail _ (.head _)))).1 (N9 _ (.head _)).1 (N9 _ (.tail _ (.head _))).1
    (keep_none KP (N9 _ (.tail _ (.tail _ (.head _)))).2.2 (off (x := lE) (by (clear hfd hcw hdp l8 z7 l9 l8'; omega)) (by (clear hfd hcw hdp l8 z7 l9 l8'; omega)))) (keep_none KP (N9 _ (.head _)).2.2 (off (x := c) (by (clear hfd hcw hdp l5 l8 z7; omega)) (by (clear hfd hcw hdp l5 l8 z7; omega)))) (keep_none KP (N9 _ (.tail _ (.head _))).2.2 (off (x := dC) (by (clear hfd hcw hdp l5 l8 z7 l8'; omega)) (by (clear hfd hcw hdp l5 l8 z7 l8'; omega)))) (by show @LT.lt Nat _ f lE; (clear hfd hcw hdp l8 z7 l9 l8'; omega)) (by show @LT.lt Nat _ lE dC; (clear hfd hcw hdp l5 l8 z7 l8'; omega)) l8'

end
section
variable {w : World} {mg mb : Str → Option Value} {mean : ExcName → Option Value} {dp un : Nat} {gd : Option (List Code)} {fr : List Env} {base : Heap} {s : Shared} {Q E : Value → Shared → Prop}
theorem pop2_spec
  {c d : Addr} {vs : List Value} {cs : List (Str × Str)} {hh : Int} {n : Int} {tk0 tn : Tok} {k : Nat}
  (X : (Mine.heapK w.params).In base) (T : Top topProg GL mean mg mb base) (hS : base.StaysIn s.heap)
  (hc : s.heap.get? c = some (accObj d vs k)) (hd : s.heap.get? d = some (dictOf (iniE hh tk0 n tn) 1)) (hbc : base.get? c = none) (hbd : base.get? d = none) (hdc : @LT.lt Nat _ d c) (hz : vs.length < 1000000)
  (hA : AllAt (TupAt s.heap) vs (cs.map ckd)) (hdp : dp < 800) (hu : un < 900)
  (ret : ∀ h' tk' T vs' cs' e k', Keep [c] s.heap h' → h'.get? c = some (accObj d vs' k') → AllAt (TupAt h') vs' (cs'.map ckd) → TupAt h' (.ref T) (ckd e) → ((vs' ++ [.ref T] = vs ∧ cs' ++ [e] = cs) ∨ (vs = [] ∧ vs' = [] ∧ cs = [] ∧ cs' = [] ∧ e = (Str.ofString "", Str.ofString ""))) → Q (.ref T) { s with heap := h', toks := tk' }) :
  wpAny (model PySem.Challenge.rw_ik0220_01.row.prog w) (amb dp un gd fr) (call (.ref 138) [.ref c]) Q E s := by
  refine pop_spec X T hS hc hd hbc hbd hdc hz hdp hu (fun ev h' tk' T t1 t2 k' e' => ?_) fun vs' v ev h' tk' k' e' => ?_
  · subst ev
    have ec : cs = [] := by
      have := hA.length
      cases cs with
      | nil => rfl
      | cons a b => simp at this
    subst ec
    exact ret h' tk' T [] [] (Str.ofString "", Str.ofString "") k (k'.mono (fun _ h => no_mem h)) (k'.nil _ _ hc) .nil ⟨T, _, 0, rfl, e', .cons (.s _ _) (.cons (.s _ _) .nil)⟩ (.inr ⟨rfl, rfl, rfl, rfl, rfl⟩)
  · subst ev
    have hne : cs ≠ [] := fun q => by subst q; have := hA.length; simp at this
    obtain ⟨cs', e, rfl⟩ := snoc_of hne
    have kt : ∀ v d', TupAt s.heap v d' → TupAt h' v d' := fun v d' z => z.kept k' fun b hb o ho => by
      rw [List.mem_singleton.mp hb, hc] at ho; cases ho; simp
    have hl : vs'.length = cs'.length := by have := hA.length; simpa using this
    have hA' := hA.dropLast
    rw [List.map_append, List.map_cons, List.map_nil, List.dropLast_concat, List.dropLast_concat] at hA'
    obtain ⟨v9, e9, t9⟩ := hA.get (i := cs'.length) (by simp)
    rw [← hl] at e9
    simp at e9
    subst e9
    have tv : TupAt s.heap v (ckd e) := by simpa using t9
    obtain ⟨T, t1, t2, rfl, -⟩ := tv.pair
    exact ret h' tk' T vs' cs' e (k + 1) k' e' (hA'.mono kt) (kt _ _ tv) (.inl ⟨rfl, rfl⟩)
theorem newline_spec
  {f fd dC : Addr} {q : FK} {ls : List Value} {LS : List Str} {nl : Nat} {vs : List Value} {cs : List (Str × Str)} {k : Nat} {hh : Int} {tk0 : Tok} {n : Int} {tn : Tok} {ps qs : Array Value}
  (X : (Mine.heapK w.params).In base) (T : Top topProg GL mean mg mb base) (hS : base.StaysIn s.heap) (G : AllBare s.gens)
  (a : FAt s.heap f fd dC q ls nl vs k hh tk0 n tn ps qs) (o : FOff base f fd dC q)
  (hA : AllAt (TupAt s.heap) vs (cs.map ckd)) (hb : tlen cs ≤ 1000000) (hn : 0 ≤ n ∧ n ≤ 1000000) (hz : vs.length < 10000) (hok : ∀ c ∈ cs, PyData.strOk c.1 = true ∧ PyData.strOk c.2 = true) (hLS : StrsAre ls LS) (hlz : ls.length < 100000)
  (how : (decide (n = 0) && (decide (tlen (nlc cs) = 0) || Txt.isspace (ctxt (nlc cs)))) = false)
  (hdp : dp < 600) (_hu : un < 700)
  (ret : ∀ h' g' tk' ls' nl' k' ps' qs' tn', Keep [q.ln, q.cu, dC, 140, 147] s.heap h' → FAt h' f fd dC q ls' nl' [] k' hh tk0 0 tn' ps' qs' → StrsAre ls' (if 0 < n + tlen (nlc cs) then LS ++ [ctxt (nlc cs)] else LS) → AllBare g' → Q .none { s with heap := h', gens := g', toks := tk' }) :
  wpAny (model PySem.Challenge.rw_ik0220_01.row.prog w) (amb dp un gd fr) (call (.ref 56) [.ref f]) Q E s := by
  revert X; k_fill; intro X
  obtain ⟨p1, p2, p3, p4, p5⟩ := (⟨o.o1, o.o2, o.o3, o.o4, o.o5⟩ : _ ∧ _ ∧ _ ∧ _ ∧ _)
  refine wpAny_call ?_
  k_dflt (refine' enterF [(Str.ofString "self", .ref f)] (fD f fd dC q ls nl vs k hh tk0 n tn ps qs) ?kX ?kT hS ?kD ?kho ?khcd ?kroom ?kb ?kl ?kr ?_ ?c1 ?c2 ?c3 ?c4; (
  (case kX => assumption); (case kT => assumption); (case kho => k_is); (case khcd => k_is); (case kb => first | exact BindsTo.of_eq rfl | exact binds_K (by k_in) rfl (by k_is) rfl rfl rfl);
  (case kl => exact locs rfl); (case kr => exact rfl); (case c1 => exact rfl); (case c2 => exact rfl); (case c3 => exact rfl); (case c4 => decide); (case kroom => first | exact rm0 hdp rfl | (simp only [recursionLimit]; omega))); (case kD => exact a.all o))
  intro g L h1 fr' tk F N X1 T1 KP LTs
  k_fold
  unfold fD at N
  (repeat' (first | (k_unfold; (try dsimp only)) | ((with_reducible show wpAny _ _ (storeName _ _ _) _ _ _); (try dsimp only); walk1) | ((with_reducible show PySem.wpAt _ _ _ _ _ _ _); walk_at "wpAt") | ((fail_if_success (with_reducible refine Stop.go (by constructor) ?_)); first | walk1 | (dsimp only; walk1))))
  try dsimp only
  have hAg : AllAt (TupAt g) vs (cs.map ckd) := hA.mono fun v d' z => z.kept KP fun b hb' ob ho => by
    obtain ⟨r, hr, rfl⟩ := List.mem_map.mp hb'
    have e9 := (a.all o r hr).1
    rw [e9] at ho; cases ho
    simp only [fD, List.mem_cons, List.not_mem_nil, or_false] at hr
    rcases hr with rfl | rfl | rfl | rfl | rfl | rfl | rfl <;> simp
  refine pop2_spec (cs := cs) X1 T1 F.keep (N _ (.tail _ (.tail _ (.tail _ (.head _))))).1 (N _ (.tail _ (.tail _ (.tail _ (.tail _ (.head _)))))).1 (N _ (.tail _ (.tail _ (.tail _ (.head _))))).2.2 (N _ (.tail _ (.tail _ (.tail _ (.tail _ (.head _)))))).2.2 p5 (by (clear hb hn hlz hdp p1 p2 p3 p4 p5; omega)) (hAg.mono fun _ _ z => z.keeps F.keep) (by (clear hb hn hz hlz p1 p2 p3 p4 p5; omega)) (by (clear hb hn hz hlz hdp p1 p2 p3 p4 p5; omega)) fun h2 tk2 TE vs2 cs2 ee k2 kp2 e2 hA2 tE hcs => ?_
  have a1 : FAt h1 f fd dC q ls nl vs k hh tk0 n tn ps qs := FAt.of N (fun p hp => hp) a.atp a.atq
  have a2 := a1.cu' o kp2 e2
  have F2 := fr_kept F N kp2 (fun b hb => by rw [List.mem_singleton.mp hb]; exact ⟨_, .tail _ (.tail _ (.tail _ (.head _)))⟩)
  have tL : ∀ {v : Value} {d : DD}, TupAt h2 v d → v ≠ .ref L := fun z q => by
    obtain ⟨a9, vs9, n9, e9, g9, -⟩ := z
    obtain ⟨oL, es, ep, hl, hdL, -⟩ := F2.ns
    rw [e9] at q; cases q
    rw [hl] at g9; cases g9; cases hdL
  have N2' := a2.news N (fun p hp => hp)
  obtain ⟨ex, hex, N2⟩ : ∃ ex : List (Addr × Obj), (∀ h', (∀ b ob, g.get? b = some ob → h'.get? b = some ob) → (∀ p ∈ ex, h'.get? p.1 = some p.2) → TupAt h' (.ref TE) (ckd ee)) ∧
      News g L h2 ((f, instObj 94 fd) :: (fd, dictOf (fmtE q) 6) :: (q.ln, listOf ls.toArray nl) :: (q.cu, accObj dC vs2 k2) :: (dC, dictOf (iniE hh tk0 n tn) 1) :: (140, tabObj ps) :: (147, tabObj qs) :: ex) := by
    have tE' := tE
    obtain ⟨a9, vs9, n9, e9, g9, p9⟩ := tE'
    cases e9
    cases hg : g.get? TE with
    | some ob =>
      refine ⟨[], fun h' k' _ => ⟨TE, vs9, n9, rfl, k' _ _ (by rw [hg, ← F2.keep _ _ hg, g9]), p9⟩, N2'⟩
    | none =>
      refine ⟨[(TE, tupOf vs9 n9)], fun h' _ k' => ⟨TE, vs9, n9, rfl, k' _ (.head _), p9⟩, fun p hp => ?_⟩
      rcases List.mem_append.mp (show p ∈ fD f fd dC q ls nl vs2 k2 hh tk0 n tn ps qs ++ [(TE, tupOf vs9 n9)] from hp) with hp | hp
      · exact N2' p hp
      · rw [List.mem_singleton.mp hp]; exact ⟨g9, fun q9 => tL tE (congrArg Value.ref q9), hg⟩
  have hA2g : AllAt (TupAt g) vs2 (cs2.map ckd) := by
    rcases hcs with ⟨q1, q2⟩ | ⟨-, q2, -, q4, -⟩
    · subst q1; subst q2
      have := hAg.dropLast
      rwa [List.map_append, List.map_cons, List.map_nil, List.dropLast_concat, List.dropLast_concat] at this
    · subst q2; subst q4; exact .nil
  clear F N N2' hA2
  walk1
  rename_i h2b F2b N2b
  dsimp only
  refine join_cons (NJ g L (fun y => if y = Str.ofString "end_of_line" then some (Value.ref TE) else List.lookup y [(Str.ofString "self", Value.ref f)]) s f fd dC q ls nl hh tk0 n tn ps qs (if ee = (Str.ofString " ", Str.ofString "") then cs2 else cs2 ++ [ee])) ?_ ?_
  · (repeat' (first | (k_unfold; (try dsimp only)) | ((with_reducible show wpAny _ _ (storeName _ _ _) _ _ _); (try dsimp only); walk1) | ((with_reducible show PySem.wpAt _ _ _ _ _ _ _); walk_at "wpAt") | ((fail_if_success (with_reducible refine Stop.go (by constructor) ?_)); first | walk1 | (dsimp only; walk1))))
    rename_i TB h3 F3 N3 l3
    have heok : PyData.strOk ee.1 = true ∧ PyData.strOk ee.2 = true := by
      rcases hcs with ⟨-, q9⟩ | ⟨-, -, -, -, q9⟩
      · exact hok ee (by rw [← q9]; simp)
      · subst q9; exact ⟨by decide +kernel, by decide +kernel⟩
    have tE3 : TupAt h3 (.ref TE) (ckd ee) := hex h3 F3.keep fun p hp => (N3 p (.tail _ (.tail _ (.tail _ (.tail _ (.tail _ (.tail _ (.tail _ (.tail _ hp))))))))).1
    have tB : TupAt h3 (.ref TB) (ckd (Str.ofString " ", Str.ofString "")) := ⟨TB, _, 0, rfl, (N3 _ (.head _)).1, .cons (.s _ _) (.cons (.s _ _) .nil)⟩
    refine ne_ck tE3 tB heok.1 heok.2 (by decide +kernel) (by decide +kernel) (by show un + 3 + 64 < cLine; simp only [cLine]; (clear hb hn hz hlz hdp p1 p2 p3 p4 p5 hcs l3 heok; omega)) ?_
    (repeat' (first | (k_unfold; (try dsimp only)) | ((with_reducible show wpAny _ _ (storeName _ _ _) _ _ _); (try dsimp only); walk1) | ((with_reducible show PySem.wpAt _ _ _ _ _ _ _); walk_at "wpAt") | ((fail_if_success (with_reducible refine Stop.go (by constructor) ?_)); first | walk1 | (dsimp only; walk1))))
    · rename_i heq
      refine NJ.mk F3 (fun p hp => N3 p (.tail _ (List.mem_append_left ex hp))) ?_
      rw [if_pos heq]
      exact hA2g.mono fun _ _ z => z.keeps F3.keep
    · rename_i hne
      refine star_method ?_
      (repeat' (first | (k_unfold; (try dsimp only)) | ((with_reducible show wpAny _ _ (storeName _ _ _) _ _ _); (try dsimp only); walk1) | ((with_reducible show PySem.wpAt _ _ _ _ _ _ _); walk_at "wpAt") | ((fail_if_success (with_reducible refine Stop.go (by constructor) ?_)); first | walk1 | (dsimp only; walk1))))
      k_dflt (refine' bound_L (es := iniE hh tk0 n tn) (n := 1) F3 X1 N3 ?kI ?k1 ?k2 ?k3 ?k4 ?k5 ?k6 ?k7 ?k8 (by decide) (by k_get) ?_; (case kI => k_inst); (case k1 => k_is); (case k2 => k_is); (case k3 => k_is); (case k4 => k_is); (case k5 => k_is); (case k6 => k_is); (case k7 => k_is); (case k8 => k_is))
      intro qm h4 F4 N4 l4
      k_dflt (refine' callWith_MS (K := Mine.heapK w.params) (g := 122) (self := .ref q.cu) ?k1 ?_; (case k1 => k_is))
      clear F3 N3
      (repeat' (first | (k_unfold; (try dsimp only)) | ((with_reducible show wpAny _ _ (storeName _ _ _) _ _ _); (try dsimp only); walk1) | ((with_reducible show PySem.wpAt _ _ _ _ _ _ _); walk_at "wpAt") | ((fail_if_success (with_reducible refine Stop.go (by constructor) ?_)); first | walk1 | (dsimp only; walk1))))
      have tE4 : TupAt h4 (.ref TE) (ckd ee) := hex h4 F4.keep fun p hp => (N4 p (.tail _ (.tail _ (.tail _ (.tail _ (.tail _ (.tail _ (.tail _ (.tail _ (.tail _ hp)))))))))).1
      obtain ⟨a9, vs9, n9, e9, g9, p9⟩ := tE4
      cases e9
      obtain ⟨v1, v2, rfl⟩ := pvs_two p9
      refine star_tup g9 (by simp) fun h5 k5 => ⟨⟨k5 _ _ (N4 _ (.head _)).1, (X1.keeps F4.keep).keeps k5⟩, ?_⟩
      have F5 := F4.keeps k5
      have N5 := N4.grown k5
      clear F4 N4
      refine call_meth N5 (.head _) ?_
      have N5' : News g L h5 (fD f fd dC q ls nl vs2 k2 hh tk0 n tn ps qs) := fun p hp => N5 p (.tail _ (.tail _ (List.mem_append_left ex hp)))
      clear N5
      have a5 : FAt h5 f fd dC q ls nl vs2 k2 hh tk0 n tn ps qs := FAt.of N5' (fun p hp => hp) a.atp a.atq
      have hl2 : vs2.length ≤ vs.length := by
        rcases hcs with ⟨q1, -⟩ | ⟨-, q2, -, -, -⟩
        · rw [← q1]; simp
        · subst q2; simp
      refine push_code X1 T1 F5.keep a5.acu a5.adc (N5' _ (.tail _ (.tail _ (.tail _ (.head _))))).2.2 (N5' _ (.tail _ (.tail _ (.tail _ (.tail _ (.head _)))))).2.2 p5 (by (clear hb hn hlz hdp p1 p2 p3 p4 p5 hcs l3 heok hne; omega)) (by (clear hb hn hz hlz p1 p2 p3 p4 p5 hcs l3 heok hne hl2; omega)) (by (clear hb hn hz hlz hdp p1 p2 p3 p4 p5 hcs l3 heok hne hl2; omega)) fun h6 tk6 Tn k6 e6 eT => ?_
      have F6 := fr_kept F5 N5' k6 (fun b hb => by rw [List.mem_singleton.mp hb]; exact ⟨_, .tail _ (.tail _ (.tail _ (.head _)))⟩)
      have a6 := a5.cu' o k6 e6
      have N6 := a6.news N5' (fun p hp => hp)
      clear F5 N5'
      (repeat' (first | (k_unfold; (try dsimp only)) | ((with_reducible show wpAny _ _ (storeName _ _ _) _ _ _); (try dsimp only); walk1) | ((with_reducible show PySem.wpAt _ _ _ _ _ _ _); walk_at "wpAt") | ((fail_if_success (with_reducible refine Stop.go (by constructor) ?_)); first | walk1 | (dsimp only; walk1))))
      refine NJ.mk F6 N6 ?_
      rw [if_neg hne, List.map_append, List.map_cons, List.map_nil]
      exact (hA2g.mono fun _ _ z => z.keeps F6.keep).append (.cons ⟨Tn, _, 0, rfl, eT, p9⟩ .nil)
  · clear F2b N2b hex tE tL a2 a1 kp2 e2
    rintro _ ⟨F3, N3, hA3⟩
    rename_i h3 tk3 vs3 k3
    unfold fD at N3
    generalize hcs3 : (if ee = (Str.ofString " ", Str.ofString "") then cs2 else cs2 ++ [ee]) = cs3 at hA3
    have hnl : nlc cs = cs3 := by
      rw [← hcs3]
      rcases hcs with ⟨-, q2⟩ | ⟨-, -, q3, q4, q5⟩
      · rw [← q2, nlc_snoc]
      · subst q3; subst q4; subst q5
        rw [if_neg (by decide +kernel)]
        rfl
    rw [hnl] at how ret
    refine join_cons (NJ2 g L (fun y => if y = Str.ofString "end_of_line" then some (Value.ref TE) else List.lookup y [(Str.ofString "self", Value.ref f)]) s f fd dC q hh tk0 n tn (if 0 < n + tlen cs3 then LS ++ [ctxt cs3] else LS) (vs.length + 1)) ?_ ?_
    · (repeat' (first | (k_unfold; (try dsimp only)) | ((with_reducible show wpAny _ _ (storeName _ _ _) _ _ _); (try dsimp only); walk1) | ((with_reducible show PySem.wpAt _ _ _ _ _ _ _); walk_at "wpAt") | ((fail_if_success (with_reducible refine Stop.go (by constructor) ?_)); first | walk1 | (dsimp only; walk1))))
      k_dflt (refine' len_K F3 X1 ?kI ?k1 ?k2 ?_; (case kI => k_inst); (case k1 => k_is); (case k2 => k_is))
      show wpAny _ (amb (dp + 1) (un + 4) gd fr') _ _ _ _
      have htl : tlen cs3 ≤ 1000000 := by
        rw [← hcs3]
        have hcons : ∀ (l : List (Str × Str)) (x : Str × Str), tlen (l ++ [x]) = tlen l + clen x := fun l x => by simp [tlen, Int.add_comm]
        rcases hcs with ⟨-, q2⟩ | ⟨-, -, -, q4, q5⟩
        · have := clen_nn ee
          rw [← q2, hcons] at hb
          split
          · (clear hn hz hlz hdp p1 p2 p3 p4 p5; omega)
          · rw [hcons]; (clear hn hz hlz hdp p1 p2 p3 p4 p5 this; omega)
        · subst q4; subst q5
          split
          · simp [tlen]
          · have e0 : clen (Str.ofString "", Str.ofString "") = 0 := by decide +kernel
            rw [hcons, e0]; simp [tlen]
      have hl3 : vs3.length ≤ vs.length + 1 := by
        have h8 := hA3.length
        have h9 := hA.length
        rw [← hcs3] at h8
        rcases hcs with ⟨q1, q2⟩ | ⟨q1, -, q3, q4, -⟩
        · rw [← q2] at h9
          split at h8 <;> simp only [List.length_map, List.length_append, List.length_cons, List.length_nil] at h8 h9 <;> (clear hb hn hz hlz hdp p1 p2 p3 p4 p5 htl; omega)
        · subst q4
          split at h8 <;> simp only [List.length_map, List.length_append, List.length_cons, List.length_nil] at h8 <;> (clear hb hn hlz hdp p1 p2 p3 p4 p5 htl; omega)
      have a3 : FAt h3 f fd dC q ls nl vs3 k3 hh tk0 n tn ps qs := FAt.of N3 (fun p hp => hp) a.atp a.atq
      have z3 := (N3 _ (.tail _ (.tail _ (.tail _ (.head _))))).2.2
      have z4 := (N3 _ (.tail _ (.tail _ (.tail _ (.tail _ (.head _)))))).2.2
      have z5 := (N3 _ (.tail _ (.tail _ (.tail _ (.tail _ (.tail _ (.head _))))))).2.2
      have z6 := (N3 _ (.tail _ (.tail _ (.tail _ (.tail _ (.tail _ (.tail _ (.head _)))))))).2.2
      refine len_spec (cs := cs3) X1 T1 F3.keep a3.acu a3.adc z3 z4 p5 (by (clear hb hn hz hlz hdp p5 hcs htl hl3; omega)) a3.ap z5 a3.atp G hA3 htl hn (by (clear hb hn hz hlz p1 p2 p3 p4 p5 hcs htl hl3; omega)) (by (clear hb hn hz hlz hdp p1 p2 p3 p4 p5 hcs htl hl3; omega)) fun t4 h4 g4 tk4 ps4 k4 e4 ht4 G4 => ?_
      have F4 := Fr.re1 F3 N3 k4 (.tail _ (.tail _ (.tail _ (.tail _ (.tail _ (.head _))))))
      have a4 := a3.p' o k4 e4 ht4
      have N4 := a4.news N3 (fun p hp => hp)
      have hA4 : AllAt (TupAt h4) vs3 (cs3.map ckd) := hA3.mono fun _ _ z => tup_kept z k4 N3 (fun b hb => by rw [List.mem_singleton.mp hb]; exact ⟨_, .tail _ (.tail _ (.tail _ (.tail _ (.tail _ (.head _))))), by simp⟩)
      have nn := tlen_nn cs3
      clear F3 N3
      unfold fD at N4
      refine ⟨⟨by (clear hb hz hlz hdp p1 p2 p3 p4 p5 hcs hl3; omega), by (clear hb hz hlz hdp p1 p2 p3 p4 p5 hcs hl3; omega)⟩, ?_⟩
      (repeat' (first | (k_unfold; (try dsimp only)) | ((with_reducible show wpAny _ _ (storeName _ _ _) _ _ _); (try dsimp only); walk1) | ((with_reducible show PySem.wpAt _ _ _ _ _ _ _); walk_at "wpAt") | ((fail_if_success (with_reducible refine Stop.go (by constructor) ?_)); first | walk1 | (dsimp only; walk1))))
      · rename_i hgt
        try dsimp only
        refine onlyws_spec (cs := cs3) X1 T1 F4.keep a4.acu a4.adc z3 z4 p5 (by (clear hb hn hz hlz hdp p5 hcs htl hl3 nn hgt; omega)) (by (clear hb hn hlz hdp p1 p2 p3 p4 p5 hcs htl nn hgt; omega)) a4.ap z5 a4.atp a4.aq z6 a4.atq G4 hA4 htl hn (by (clear hb hn hz hlz p1 p2 p3 p4 p5 hcs htl hl3 nn hgt; omega)) (by (clear hb hn hz hlz hdp p1 p2 p3 p4 p5 hcs htl hl3 nn hgt; omega)) fun h5 g5 tk5 ps5 qs5 k5 e5 t5 e5' t5' G5 => ?_
        rw [how]
        have F5 := Fr.re2 F4 N4 k5 (.tail _ (.tail _ (.tail _ (.tail _ (.tail _ (.head _)))))) (.tail _ (.tail _ (.tail _ (.tail _ (.tail _ (.tail _ (.head _)))))))
        have a5 := a4.pq' o k5 e5 t5 e5' t5'
        have N5 := a5.news N4 (fun p hp => hp)
        have hA5 : AllAt (TupAt h5) vs3 (cs3.map ckd) := hA4.mono fun _ _ z => tup_kept z k5 N4 (fun b hb => by
          rcases List.mem_cons.mp hb with rfl | hb
          · exact ⟨_, .tail _ (.tail _ (.tail _ (.tail _ (.tail _ (.head _))))), by simp⟩
          · rw [List.mem_singleton.mp hb]; exact ⟨_, .tail _ (.tail _ (.tail _ (.tail _ (.tail _ (.tail _ (.head _)))))), by simp⟩)
        clear F4 N4
        unfold fD at N5
        (repeat' (first | (k_unfold; (try dsimp only)) | ((with_reducible show wpAny _ _ (storeName _ _ _) _ _ _); (try dsimp only); walk1) | ((with_reducible show PySem.wpAt _ _ _ _ _ _ _); walk_at "wpAt") | ((fail_if_success (with_reducible refine StopT.go (by constructor) ?_)); ((fail_if_success (with_reducible refine Stop.go (by constructor) ?_)); first | walk1 | (dsimp only; walk1)))))
        k_dflt (refine' kso_call ?hu (X1.keeps F5.keep) ?kI ?k1 ?k2 ?_; (case hu => show un + 3 + 1 + 1 < cLine; simp only [cLine]; (clear hb hn hz hlz hdp p1 p2 p3 p4 p5 hcs htl hl3 nn hgt; omega)); (case kI => k_inst); (case k1 => k_is); (case k2 => k_is))
        show wpAny _ (amb (dp + 1) (un + 5) gd fr') _ _ _ _
        refine str_spec (cs := cs3) X1 T1 F5.keep a5.acu a5.adc z3 z4 p5 (by (clear hb hn hz hlz hdp p5 hcs htl hl3 nn hgt; omega)) (by (clear hb hn hlz hdp p1 p2 p3 p4 p5 hcs htl nn hgt; omega)) a5.aq z6 a5.atq G5 hA5 htl hn (by (clear hb hn hz hlz p1 p2 p3 p4 p5 hcs htl hl3 nn hgt; omega)) (by (clear hb hn hz hlz hdp p1 p2 p3 p4 p5 hcs htl hl3 nn hgt; omega)) fun t6 h6 g6 tk6 qs6 k6 e6 t6' G6 => ?_
        have F6 := Fr.re1 F5 N5 k6 (.tail _ (.tail _ (.tail _ (.tail _ (.tail _ (.tail _ (.head _)))))))
        have a6 := a5.q' o k6 e6 t6'
        have N6 := a6.news N5 (fun p hp => hp)
        clear F5 N5
        unfold fD at N6
        dsimp only [StrBack]
        (repeat' (first | (k_unfold; (try dsimp only)) | ((with_reducible show wpAny _ _ (storeName _ _ _) _ _ _); (try dsimp only); walk1) | ((with_reducible show PySem.wpAt _ _ _ _ _ _ _); walk_at "wpAt") | ((fail_if_success (with_reducible refine Stop.go (by constructor) ?_)); first | walk1 | (dsimp only; walk1))))
        refine append_K F6 N6 (by k_upd) (fun h7 F7 N7 => ?_) (by rw [List.size_toArray, sizeLine_eq]; (clear hb hn hz hdp p1 p2 p3 p4 p5 hcs htl hl3 nn hgt; omega))
        have N7' : News g L h7 (fD f fd dC q (ls ++ [.str (ctxt cs3) t6]) (nl + 1) vs3 k3 hh tk0 n tn ps5 qs6) := by simpa [fD] using N7
        clear F6 N6 N7
        (repeat' (first | (k_unfold; (try dsimp only)) | ((with_reducible show wpAny _ _ (storeName _ _ _) _ _ _); (try dsimp only); walk1) | ((with_reducible show PySem.wpAt _ _ _ _ _ _ _); walk_at "wpAt") | ((fail_if_success (with_reducible refine Stop.go (by constructor) ?_)); first | walk1 | (dsimp only; walk1))))
        rw [if_pos (by (clear hb hn hz hlz hdp p1 p2 p3 p4 p5 hcs htl hl3 nn; omega))]
        exact NJ2.mk F7 N7' t5 t6' G6 (hLS.snoc _ _) hl3
      · rename_i hgt
        rw [if_neg (by (clear hb hn hz hlz hdp p1 p2 p3 p4 p5 hcs htl hl3 nn; omega))]
        exact NJ2.mk F4 N4 ht4 a.atq G4 hLS hl3
    · rintro _ ⟨F6, N6, hp6, hq6, G6, hL6, hv6⟩
      rename_i h6 g6 tk6 ls6 nl6 vs6 k6 ps6 qs6
      have a6 : FAt h6 f fd dC q ls6 nl6 vs6 k6 hh tk0 n tn ps6 qs6 := FAt.of N6 (fun p hp => hp) hp6 hq6
      have z3 := (N6 _ (.tail _ (.tail _ (.tail _ (.head _))))).2.2
      have z4 := (N6 _ (.tail _ (.tail _ (.tail _ (.tail _ (.head _)))))).2.2
      unfold fD at N6
      (repeat' (first | (k_unfold; (try dsimp only)) | ((with_reducible show wpAny _ _ (storeName _ _ _) _ _ _); (try dsimp only); walk1) | ((with_reducible show PySem.wpAt _ _ _ _ _ _ _); walk_at "wpAt") | ((fail_if_success (with_reducible refine Stop.go (by constructor) ?_)); first | walk1 | (dsimp only; walk1))))
      try dsimp only
      refine reset0_spec X1 T1 F6.keep a6.acu a6.adc z3 z4 p5 (by (clear hb hn hlz hdp p1 p2 p3 p4 p5 hcs; omega)) (by (clear hb hn hz hlz p1 p2 p3 p4 p5 hcs hv6; omega)) (by (clear hb hn hz hlz hdp p1 p2 p3 p4 p5 hcs hv6; omega)) fun h7 tk7 k7 tn7 kp7 e7 d7 => ?_
      have F7 := fr_kept F6 N6 kp7 (fun b hb => by
        rcases List.mem_cons.mp hb with rfl | hb
        · exact ⟨_, .tail _ (.tail _ (.tail _ (.head _)))⟩
        · rw [List.mem_singleton.mp hb]; exact ⟨_, .tail _ (.tail _ (.tail _ (.tail _ (.head _))))⟩)
      have a7 := a6.cd' o kp7 e7 d7
      clear N6 F6
      (repeat' (first | (k_unfold; (try dsimp only)) | ((with_reducible show wpAny _ _ (storeName _ _ _) _ _ _); (try dsimp only); walk1) | ((with_reducible show PySem.wpAt _ _ _ _ _ _ _); walk_at "wpAt") | ((fail_if_success (with_reducible refine Stop.go (by constructor) ?_)); first | walk1 | (dsimp only; walk1))))
      refine ret h7 g6 _ ls6 nl6 k7 ps6 qs6 tn7 (keep_of (fun r hr => (a.all o r hr).1) KP F7.keep fun r hr hn' => ?_) a7 hL6 G6
      simp only [fD, List.mem_cons, List.not_mem_nil, or_false] at hr
      rcases hr with rfl | rfl | rfl | rfl | rfl | rfl | rfl
      · exact a7.af
      · exact a7.afd
      all_goals exact absurd (by simp) hn'

end
section
variable {w : World} {mg mb : Str → Option Value} {mean : ExcName → Option Value} {dp un : Nat} {gd : Option (List Code)} {fr : List Env} {base : Heap} {s : Shared} {Q E : Value → Shared → Prop}
theorem fstr_spec
  {f fd dC : Addr} {q : FK} {ls : List Value} {LS : List Str} {nl : Nat} {vs : List Value} {cs : List (Str × Str)} {k : Nat} {hh : Int} {tk0 : Tok} {n : Int} {tn : Tok} {ps qs : Array Value} {sep : Str} {tsep : Tok}
  (X : (Mine.heapK w.params).In base) (T : Top topProg GL mean mg mb base) (hS : base.StaysIn s.heap) (G : AllBare s.gens)
  (a : FAt s.heap f fd dC q ls nl vs k hh tk0 n tn ps qs) (o : FOff base f fd dC q)
  (hA : AllAt (TupAt s.heap) vs (cs.map ckd)) (hb : tlen cs ≤ 1000000) (hn : 0 ≤ n ∧ n ≤ 1000000) (hz : vs.length < 10000) (hok : ∀ c ∈ cs, PyData.strOk c.1 = true ∧ PyData.strOk c.2 = true) (hLS : StrsAre ls LS) (hlz : ls.length < 100000)
  (how : (decide (n = 0) && (decide (tlen (nlc cs) = 0) || Txt.isspace (ctxt (nlc cs)))) = false)
  (hjo : JoinOk sep (if 0 < n + tlen (nlc cs) then LS ++ [ctxt (nlc cs)] else LS) = true)
  (hdp : dp < 500) (_hu : un < 600)
  (ret : ∀ h' g' tk' t', Keep [q.ln, q.cu, dC, 140, 147] s.heap h' → (∃ ps' qs', h'.get? 140 = some (tabObj ps') ∧ TabOk posLen ps' ∧ h'.get? 147 = some (tabObj qs') ∧ TabOk posStr qs') → AllBare g' → Q (.str (Txt.join sep (if 0 < n + tlen (nlc cs) then LS ++ [ctxt (nlc cs)] else LS)) t') { s with heap := h', gens := g', toks := tk' }) :
  wpAny (model PySem.Challenge.rw_ik0220_01.row.prog w) (amb dp un gd fr) (call (.ref 42) [.ref f, .str sep tsep]) Q E s := by
  revert X; k_fill; intro X
  obtain ⟨p1, p2, p3, p4, p5⟩ := (⟨o.o1, o.o2, o.o3, o.o4, o.o5⟩ : _ ∧ _ ∧ _ ∧ _ ∧ _)
  refine wpAny_call ?_
  k_dflt (refine' enterF [(Str.ofString "linesep", .str sep tsep), (Str.ofString "self", .ref f)] (fD f fd dC q ls nl vs k hh tk0 n tn ps qs) ?kX ?kT hS ?kD ?kho ?khcd ?kroom ?kb ?kl ?kr ?_ ?c1 ?c2 ?c3 ?c4; (
  (case kX => assumption); (case kT => assumption); (case kho => k_is); (case khcd => k_is); (case kb => first | exact BindsTo.of_eq rfl | exact binds_K (by k_in) rfl (by k_is) rfl rfl rfl);
  (case kl => exact locs rfl); (case kr => exact rfl); (case c1 => exact rfl); (case c2 => exact rfl); (case c3 => exact rfl); (case c4 => decide); (case kroom => first | exact rm0 hdp rfl | (simp only [recursionLimit]; omega))); (case kD => exact a.all o))
  intro g L h1 fr' tk F N X1 T1 KP LTs
  k_fold
  have a1 : FAt h1 f fd dC q ls nl vs k hh tk0 n tn ps qs := FAt.of N (fun p hp => hp) a.atp a.atq
  have hAg : AllAt (TupAt g) vs (cs.map ckd) := hA.mono fun v d' z => z.kept KP fun b hb' ob ho => by
    obtain ⟨r, hr, rfl⟩ := List.mem_map.mp hb'
    have e9 := (a.all o r hr).1
    rw [e9] at ho; cases ho
    simp only [fD, List.mem_cons, List.not_mem_nil, or_false] at hr
    rcases hr with rfl | rfl | rfl | rfl | rfl | rfl | rfl <;> simp
  have o1 : FOff g f fd dC q := ⟨(N _ (.head _)).2.2, (N _ (.tail _ (.head _))).2.2, (N _ (.tail _ (.tail _ (.head _)))).2.2, (N _ (.tail _ (.tail _ (.tail _ (.head _))))).2.2, (N _ (.tail _ (.tail _ (.tail _ (.tail _ (.head _)))))).2.2, (N _ (.tail _ (.tail _ (.tail _ (.tail _ (.tail _ (.head _))))))).2.2, (N _ (.tail _ (.tail _ (.tail _ (.tail _ (.tail _ (.tail _ (.head _)))))))).2.2, p1, p2, p3, p4, p5⟩
  unfold fD at N
  (repeat' (first | (k_unfold; (try dsimp only)) | ((with_reducible show wpAny _ _ (storeName _ _ _) _ _ _); (try dsimp only); walk1) | ((with_reducible show PySem.wpAt _ _ _ _ _ _ _); walk_at "wpAt") | ((fail_if_success (with_reducible refine Stop.go (by constructor) ?_)); first | walk1 | (dsimp only; walk1))))
  try dsimp only
  refine newline_spec (cs := cs) X1 T1 F.keep G a1 o1 (hAg.mono fun _ _ z => z.keeps F.keep) hb hn hz hok hLS hlz how (by (clear hb hn hz hlz p1 p2 p3 p4 p5; omega)) (by (clear hb hn hz hlz hdp p1 p2 p3 p4 p5; omega)) fun h2 g2 tk2 ls2 nl2 k2 ps2 qs2 tn2 kp2 a2 hL2 G2 => ?_
  have F2 := fr_kept F N kp2 (fun b hb => by
    simp only [List.mem_cons, List.not_mem_nil, or_false] at hb
    rcases hb with rfl | rfl | rfl | rfl | rfl
    · exact ⟨_, .tail _ (.tail _ (.head _))⟩
    · exact ⟨_, .tail _ (.tail _ (.tail _ (.head _)))⟩
    · exact ⟨_, .tail _ (.tail _ (.tail _ (.tail _ (.head _))))⟩
    · exact ⟨_, .tail _ (.tail _ (.tail _ (.tail _ (.tail _ (.head _)))))⟩
    · exact ⟨_, .tail _ (.tail _ (.tail _ (.tail _ (.tail _ (.tail _ (.head _))))))⟩)
  have N2 := a2.news N (fun p hp => hp)
  clear F N
  unfold fD at N2
  (repeat' (first | (k_unfold; (try dsimp only)) | ((with_reducible show wpAny _ _ (storeName _ _ _) _ _ _); (try dsimp only); walk1) | ((with_reducible show PySem.wpAt _ _ _ _ _ _ _); walk_at "wpAt") | ((fail_if_success (with_reducible refine Stop.go (by constructor) ?_)); first | walk1 | (dsimp only; walk1))))
  obtain ⟨l9, el, em⟩ := hL2.values
  refine SC.join (l := l9) ⟨_, a2.aln, rfl, _, by rw [el]⟩ em hjo fun t9 k9 => ?_
  refine ret h2 g2 _ t9 (keep_of (fun r hr => (a.all o r hr).1) KP F2.keep fun r hr hn' => ?_) ⟨ps2, qs2, a2.ap, a2.atp, a2.aq, a2.atq⟩ G2
  simp only [fD, List.mem_cons, List.not_mem_nil, or_false] at hr
  rcases hr with rfl | rfl | rfl | rfl | rfl | rfl | rfl
  · exact a2.af
  · exact a2.afd
  all_goals exact absurd (by simp) hn'

end
/-- rows of tuples in a heap: those that are new, as a list that goes along -/
theorem all_tail2 {g h : Heap} {L : Addr} {m : Str → Option Value} {vs : List Value} {ds : List (List Pv)} (F : Fr g L h m) (z : AllAt (TupAt h) vs ds) :
    ∃ ex : List (Addr × Obj), (∀ h', (∀ b ob, g.get? b = some ob → h'.get? b = some ob) → (∀ p ∈ ex, h'.get? p.1 = some p.2) → AllAt (TupAt h') vs ds) ∧ News g L h ex ∧ ∀ p ∈ ex, p.2.cls = .type "tuple" := by
  induction z with
  | nil => exact ⟨[], fun _ _ _ => .nil, (fun _ hp => no_mem hp), fun _ hp => no_mem hp⟩
  | cons t _ ih =>
    obtain ⟨ex, hex, Nx, Cx⟩ := ih
    obtain ⟨a9, vs9, n9, e9, g9, p9⟩ := t
    have tL : a9 ≠ L := fun q => by
      obtain ⟨oL, es, ep, hl, hdL, -⟩ := F.ns
      rw [← q] at hl
      rw [hl] at g9; cases g9; cases hdL
    cases hg : g.get? a9 with
    | some ob => exact ⟨ex, fun h' k' kx => .cons ⟨a9, vs9, n9, e9, k' _ _ (by rw [hg, ← F.keep _ _ hg, g9]), p9⟩ (hex h' k' kx), Nx, Cx⟩
    | none =>
      refine ⟨(a9, tupOf vs9 n9) :: ex, fun h' k' kx => .cons ⟨a9, vs9, n9, e9, kx _ (.head _), p9⟩ (hex h' k' fun p hp => kx p (.tail _ hp)), fun p hp => ?_, fun p hp => ?_⟩
      · rcases List.mem_cons.mp hp with rfl | hp
        · exact ⟨g9, tL, hg⟩
        · exact Nx p hp
      · rcases List.mem_cons.mp hp with rfl | hp
        · rfl
        · exact Cx p hp
theorem all_tail {g h : Heap} {L : Addr} {m : Str → Option Value} {vs : List Value} {ds : List (List Pv)} (F : Fr g L h m) (z : AllAt (TupAt h) vs ds) :
    ∃ ex : List (Addr × Obj), (∀ h', (∀ b ob, g.get? b = some ob → h'.get? b = some ob) → (∀ p ∈ ex, h'.get? p.1 = some p.2) → AllAt (TupAt h') vs ds) ∧ News g L h ex :=
  let ⟨ex, a, b, _⟩ := all_tail2 F z
  ⟨ex, a, b⟩
theorem News.app {g h : Heap} {L : Addr} {xs ys : List (Addr × Obj)} (a : News g L h xs) (b : News g L h ys) : News g L h (xs ++ ys) := fun p hp => by
  rcases List.mem_append.mp hp with hp | hp
  · exact a p hp
  · exact b p hp
/-- an iterator's state in a heap: its object, if any, as a list that goes along -/
theorem iter_tail {prog : Program} {w : World} {A : Around} {I : Addr} {wr : List Addr} {n i : Nat} {P : Nat → Value → Prop} {St : Nat → Heap → Prop} {g h : Heap} {L : Addr} (W : Walks prog w A I [I] wr n P St) (st : St i h) (hg : g.get? I = none) (hL : I ≠ L) :
    ∃ ex : List (Addr × Obj), (∀ h', (∀ p ∈ ex, h'.get? p.1 = some p.2) → St i h') ∧ News g L h ex := by
  cases e : h.get? I with
  | none => exact ⟨[], fun h' _ => W.frame _ _ _ st (fun b hb o ho => by rw [List.mem_singleton.mp hb, e] at ho; cases ho), fun _ hp => no_mem hp⟩
  | some oI =>
    refine ⟨[(I, oI)], fun h' k => W.frame _ _ _ st (fun b hb o ho => ?_), fun p hp => ?_⟩
    · rw [List.mem_singleton.mp hb] at ho ⊢
      rw [e] at ho; cases ho
      exact k _ (.head _)
    · rw [List.mem_singleton.mp hp]; exact ⟨e, hL, hg⟩
/-- walking a str: the iterator is a fresh object that is no freed one -/
theorem iter_str {prog : Program} {w : World} {A : Around} {E : Value → Shared → Prop} {s : Shared} {x : Str} {t : Tok} {Q : Value → Shared → Prop}
    (hQ : ∀ (o : Obj) (St : Nat → Heap → Prop), o.isFreed = false → (∀ A' : Around, A'.handled = none → Walks prog w A' s.heap.objs.size [s.heap.objs.size] [s.heap.objs.size] x.cps.size (SignAt x) St) → St 0 (s.heap.push o) →
      Q (.ref s.heap.objs.size) { s with heap := s.heap.push o }) : wpAny (model prog w) A (pyIter (.str x t)) Q E s := by
  cases ha : x.cps.all (· < 128)
  · exact wpAny_pyIter_wide ha (hQ _ _ rfl (fun A' hA => Walks.strWide hA _ x t) ⟨_, Heap.get?_push_size _ rfl, rfl, rfl⟩)
  · exact wpAny_pyIter_ascii ha (hQ _ _ rfl (fun A' hA => Walks.strAscii hA _ x t) ⟨_, Heap.get?_push_size _ rfl, rfl, rfl⟩)
theorem range_down (m : Nat) : Builtin.Range.rangeSize ((m : Int) - 1) 0 (-1) = ((m - 1 : Nat) : Int) := by
  unfold Builtin.Range.rangeSize
  simp
  omega
theorem small_down (m : Nat) (h : m < 100000) : Builtin.Range.small ((m : Int) - 1) 0 (-1) = true := by
  unfold Builtin.Range.small
  rw [range_down]
  simp [Builtin.Range.rangeFitsLong]
  omega
section
variable {prog : Program} {w : World} {A : Around} {E : Value → Shared → Prop} {s : Shared} {K : Frag} {c C : Addr} {o : Obj} {od : Option Obj} {vs : List Value} {n i : Nat} {ti : Tok}
theorem gi_list {B : Around} {v : Value} {j : Int} {Q : Value → Shared → Prop} (ho : s.heap.get? c = some o) (hd : o.data = .seq vs.toArray n) (h0 : 0 ≤ j) (hfit : j < 2 ^ 63) (hx : vs.toArray[j.toNat]? = some v) (h : Q v s) : wpAny (model prog w) B (Builtin.«list.__getitem__» ⟨[.ref c, .int j ti], []⟩) (fun fin s' => ∃ r, fin = .done (.ret r) ∧ Q r s') E s :=
  getitem_int_tree ho hd h0 hfit hx ⟨v, rfl, h⟩
/-- an item of a list subclass instance -/
theorem sub_at {value slice : PySem.Expr} {ops : List Value} {v : Value} {j : Int} {Q : Value → Shared → Prop} (X : K.In s.heap) (I : InstAt s.heap c o C od) (hm : mroIn K C (.type "list") = some true) (hq : noSeq K C = true) (hs : findIn K (.ref C) "__getitem__" = some (some (.builtin "list.__getitem__")))
    (hd : o.data = .seq vs.toArray n) (h0 : 0 ≤ j) (hfit : j < 2 ^ 63) (hx : vs.toArray[j.toNat]? = some v) (h : Q v s)
    (hsub : subscripted slice false (.ref c) (.int j ti) = operate ops (getItem (.ref c) (.int j ti)) := by with_unfolding_all rfl) : wpAny (model prog w) A (subscriptTail value slice (.ref c) (.int j ti)) Q E s :=
  sub_bi X I hm hq hs hsub (gi_list I.at_ hd h0 hfit hx h)
theorem sub_tup {value slice : PySem.Expr} {t : Addr} {items : Array Value} {k : Int} {u : Tok} {j : Nat} {x : Value} {Q : Value → Shared → Prop} (ht : IsTup s.heap t items) (hlo : -(2 ^ 63) ≤ k) (hhi : k < 2 ^ 63) (hj : seqIndex? k items.size = some j) (hx : items[j]? = some x) (h : Q x s)
    (hs : subscripted slice false (.ref t) (.int k u) = operate [.ref t, .int k u] (getItem (.ref t) (.int k u)) := by with_unfolding_all rfl) :
    wpAny (model prog w) A (subscriptTail value slice (.ref t) (.int k u)) Q E s :=
  tail_any (PySem.Heap.IsTuple.typeIs ht) slot_tuple_getitem.lookup (getItem_tuple ht hlo hhi hj hx h) hs
end
/-- does a chunk's text end with this sign -/
def endsC (ch : Nat) (c : Str × Str) : Bool := c.2.cps.back? == some ch
/-- the greatest cut place at k or below, whose chunk ahead ends with the sign -/
def innR (cs : List (Str × Str)) (ch : Nat) : Nat → Option Nat
  | 0 => none
  | k + 1 => match cs[k]? with
    | some c => if endsC ch c then some (k + 1) else innR cs ch k
    | none => innR cs ch k
def cutAt (cs : List (Str × Str)) : List Nat → Option Nat
  | [] => none
  | ch :: r => match innR cs ch (cs.length - 1) with
    | some i => some i
    | none => cutAt cs r
theorem cutAt_some {cs : List (Str × Str)} {r : Nat} : ∀ {l : List Nat} {i : Nat} {ch : Nat}, l[i]? = some ch → (∀ (j : Nat), j < i → ∀ c : Nat, l[j]? = some c → innR cs c (cs.length - 1) = none) → innR cs ch (cs.length - 1) = some r → cutAt cs l = some r
  | [], i, ch, h, _, _ => by simp at h
  | c :: l, 0, ch, h, _, k => by
    simp at h; subst h
    simp [cutAt, k]
  | c :: l, i + 1, ch, h, n, k => by
    have e := n 0 (Nat.succ_pos i) c rfl
    simp only [cutAt, e]
    exact cutAt_some (i := i) (by simpa using h) (fun j hj c' hc => n (j + 1) (by omega) c' (by simpa using hc)) k
theorem cutAt_none {cs : List (Str × Str)} : ∀ {l : List Nat}, (∀ (j : Nat) (c : Nat), l[j]? = some c → innR cs c (cs.length - 1) = none) → cutAt cs l = none
  | [], _ => rfl
  | c :: l, n => by
    have e := n 0 c rfl
    simp only [cutAt, e]
    exact cutAt_none fun j c' hc => n (j + 1) c' (by simpa using hc)
theorem innR_le {cs : List (Str × Str)} {ch : Nat} : ∀ {k r : Nat}, innR cs ch k = some r → 1 ≤ r ∧ r ≤ k
  | 0, r, h => by cases h
  | k + 1, r, h => by
    unfold innR at h
    split at h
    · split at h
      · cases h; omega
      · have := innR_le h; omega
    · have := innR_le h; omega
theorem cutAt_le {cs : List (Str × Str)} : ∀ {l : List Nat} {r : Nat}, cutAt cs l = some r → 1 ≤ r ∧ r ≤ cs.length - 1
  | [], r, h => by cases h
  | c :: l, r, h => by
    unfold cutAt at h
    split at h
    · rename_i i e; cases h; exact innR_le e
    · exact cutAt_le h
/-- what _append_chunk makes of the rows, the current row and its initial size -/
def chunkR (sp : Str) (mx : Int) (LS : List Str) (cs : List (Str × Str)) (n : Int) (c : Str × Str) : List Str × List (Str × Str) × Int :=
  if n + tlen (cs ++ [c]) ≤ mx then (LS, cs ++ [c], n) else
  match cutAt (cs ++ [c]) sp.cps.toList with
  | some i => (LS ++ [ctxt ((cs ++ [c]).take i)], (cs ++ [c]).drop i, 0)
  | none => if 0 < n then (if 0 < n + tlen (nlc cs) then LS ++ [ctxt (nlc cs)] else LS, [(if c.1 = Str.ofString "" then Str.ofString " " else c.1, c.2)], 0) else (LS, cs ++ [c], n)
section
variable {sp : Str} {mx : Int} {LS : List Str} {cs cs2 : List (Str × Str)} {n : Int} {c : Str × Str}
theorem chunkR_fit (e : cs ++ [c] = cs2) (h : n + tlen cs2 ≤ mx) : chunkR sp mx LS cs n c = (LS, cs2, n) := by subst e; unfold chunkR; rw [if_pos h]
theorem chunkR_cut {i : Nat} (e : cs ++ [c] = cs2) (h : ¬ n + tlen cs2 ≤ mx) (k : cutAt cs2 sp.cps.toList = some i) : chunkR sp mx LS cs n c = (LS ++ [ctxt (cs2.take i)], cs2.drop i, 0) := by subst e; unfold chunkR; rw [if_neg h, k]
theorem chunkR_old (e : cs ++ [c] = cs2) (h : ¬ n + tlen cs2 ≤ mx) (k : cutAt cs2 sp.cps.toList = none) (hn : ¬ 0 < n) : chunkR sp mx LS cs n c = (LS, cs2, n) := by subst e; unfold chunkR; rw [if_neg h, k]; exact if_neg hn
theorem chunkR_new {w : Str} (e : cs ++ [c] = cs2) (h : ¬ n + tlen cs2 ≤ mx) (k : cutAt cs2 sp.cps.toList = none) (hn : 0 < n) (hw : (if c.1 = Str.ofString "" then Str.ofString " " else c.1) = w) : chunkR sp mx LS cs n c = (if 0 < n + tlen (nlc cs) then LS ++ [ctxt (nlc cs)] else LS, [(w, c.2)], 0) := by subst e; subst hw; unfold chunkR; rw [if_neg h, k]; exact if_pos hn
end
theorem FAt.keepOf {h h' g base : Heap} {f fd dC : Addr} {q : FK} {ls ls' : List Value} {nl nl' : Nat} {vs vs' : List Value} {k k' : Nat} {hh hh' : Int} {tk0 tk0' : Tok} {n n' : Int} {tn tn' : Tok} {ps qs ps' qs' : Array Value}
    (a : FAt h f fd dC q ls nl vs k hh tk0 n tn ps qs) (o : FOff base f fd dC q) (KP : Keep ((fD f fd dC q ls nl vs k hh tk0 n tn ps qs).map Prod.fst) h g) (kg : ∀ b o, g.get? b = some o → h'.get? b = some o) (a' : FAt h' f fd dC q ls' nl' vs' k' hh' tk0' n' tn' ps' qs') : Keep [q.ln, q.cu, dC, 140, 147] h h' := by
  refine keep_of (fun r hr => (a.all o r hr).1) KP kg fun r hr hn' => ?_
  simp only [fD, List.mem_cons, List.not_mem_nil, or_false] at hr
  rcases hr with rfl | rfl | rfl | rfl | rfl | rfl | rfl
  · exact a'.af
  · exact a'.afd
  all_goals exact absurd (by simp) hn'
theorem innR_hit {cs : List (Str × Str)} {ch t : Nat} {c : Str × Str} (hc : cs[t]? = some c) (he : endsC ch c = true) : innR cs ch (t + 1) = some (t + 1) := by simp [innR, hc, he]
theorem innR_miss {cs : List (Str × Str)} {ch t : Nat} {c : Str × Str} (hc : cs[t]? = some c) (he : endsC ch c = false) : innR cs ch (t + 1) = innR cs ch t := by simp [innR, hc, he]
theorem item_last {x : Str} {ch : Nat} (h : x.length ≠ 0) : (Txt.item x (-1) == ⟨#[ch]⟩) = (x.cps.back? == some ch) := by
  have hs : seqIndex? (-1) x.length = some (x.length - 1) := by
    unfold seqIndex?
    simp
    omega
  have hc : Txt.charAt x (-1) = x.cps.back? := by
    unfold Txt.charAt
    rw [hs, Array.back?]
    rfl
  unfold Txt.item
  rw [hc]
  cases hb : x.cps.back? with
  | none => rw [Array.back?, Array.getElem?_eq_none_iff] at hb; have h' : x.cps.size ≠ 0 := h; (clear h; omega)
  | some a =>
    show (decide _) = _
    by_cases e : a = ch
    · subst e; simp
    · have : (some a == some ch) = false := by simpa using e
      rw [this]
      simpa using e
theorem AllAt.take {P : Value → List Pv → Prop} {vs : List Value} {ds : List (List Pv)} (h : AllAt P vs ds) : ∀ i, AllAt P (vs.take i) (ds.take i) := by
  induction h with
  | nil => intro i; simpa using AllAt.nil
  | cons h1 _ ih =>
    intro i
    cases i with
    | zero => exact .nil
    | succ i => exact .cons h1 (ih i)
theorem AllAt.drop {P : Value → List Pv → Prop} {vs : List Value} {ds : List (List Pv)} (h : AllAt P vs ds) : ∀ i, AllAt P (vs.drop i) (ds.drop i) := by
  induction h with
  | nil => intro i; simpa using AllAt.nil
  | cons h1 h2 ih =>
    intro i
    cases i with
    | zero => exact .cons h1 h2
    | succ i => exact ih i
theorem tlen_take (cs : List (Str × Str)) (j : Nat) : tlen (cs.take j) ≤ tlen cs := by
  have := (take_le cs j).2
  rwa [← List.map_take] at this
theorem tlen_snoc (cs : List (Str × Str)) (c : Str × Str) : tlen (cs ++ [c]) = tlen cs + clen c := by simp [tlen]
theorem list_ne_L {g h : Heap} {L P : Addr} {m : Str → Option Value} {xs : Array Value} {n : Nat} (F : Fr g L h m) (e : h.get? P = some (listOf xs n)) : P ≠ L := fun q => by
  obtain ⟨oL, es, ep, hl, hdL, -⟩ := F.ns
  rw [q, hl] at e; cases e; cases hdL
theorem str_empty {x : Str} (h : x.length = 0) : x = Str.ofString "" := by
  obtain ⟨a⟩ := x
  have : a = #[] := Array.eq_empty_of_size_eq_zero h
  subst this; rfl
theorem str_nonempty {x : Str} (h : x.length ≠ 0) : x ≠ Str.ofString "" := fun e => h (by subst e; rfl)
theorem append_fmt {prog : Program} {w : World} {A : Around} {E : Value → Shared → Prop} {Q : Value → Shared → Prop} {s : Shared} {g : Heap} {L P : Addr} {m : Str → Option Value} {oP : Obj} {f fd dC : Addr} {q : FK} {ls : List Value} {nl : Nat} {vs : List Value} {k : Nat} {hh : Int} {tk0 : Tok} {n : Int} {tn : Tok} {ps qs : Array Value} {ex : List (Addr × Obj)} {x : Value}
    (F : Fr g L s.heap m) (N : News g L s.heap ((P, oP) :: (fD f fd dC q ls nl vs k hh tk0 n tn ps qs ++ ex)))
    (p1 : @LT.lt Nat _ 300 fd) (p2 : @LT.lt Nat _ fd f) (p3 : @LT.lt Nat _ f q.ln) (p4 : @LT.lt Nat _ q.ln dC) (p5 : @LT.lt Nat _ dC q.cu) (lP : @Ne Nat q.ln P) (hex : ∀ p ∈ ex, p.2.cls = .type "tuple") (hz : ls.length < 100000)
    (h : ∀ h', Fr g L h' m → News g L h' ((P, oP) :: (fD f fd dC q (ls ++ [x]) (nl + 1) vs k hh tk0 n tn ps qs ++ ex)) → Q .none { s with heap := h' }) : wpAny (model prog w) A (call (.builtin "list.append") [.ref q.ln, x]) Q E s := by
  have e9 := (N _ (.tail _ (.tail _ (.tail _ (.head _))))).1
  refine append_K F N (Upd.tail (p := (P, oP)) (fun e => lP (id e.symm)) (Upd.tail (p := (f, _)) (show @Ne Nat f q.ln by (clear p1 p2 p4 p5 lP hz; omega)) (Upd.tail (p := (fd, _)) (show @Ne Nat fd q.ln by (clear p1 p4 p5 lP hz; omega)) (Upd.head fun p hp => ?_)))) (fun h' F' N' => h h' F' (by simpa using N')) (by rw [List.size_toArray, sizeLine_eq]; (clear p1 p2 p3 p4 p5 lP; omega))
  rcases List.mem_cons.mp hp with rfl | hp
  · show @Ne Nat q.cu q.ln
    (clear p1 p2 p3 lP hz; omega)
  rcases List.mem_cons.mp hp with rfl | hp
  · show @Ne Nat dC q.ln
    (clear p1 p2 p3 p5 lP hz; omega)
  rcases List.mem_cons.mp hp with rfl | hp
  · show @Ne Nat 140 q.ln
    (clear p4 p5 lP hz; omega)
  rcases List.mem_cons.mp hp with rfl | hp
  · show @Ne Nat 147 q.ln
    (clear p4 p5 lP hz; omega)
  · intro e
    have e8 := (N p (.tail _ (List.mem_append_right _ hp))).1
    have e7 := hex p hp
    rw [e] at e8
    rw [e9] at e8
    rw [← (Option.some.inj e8)] at e7
    simp at e7

section
variable {w : World} {mg mb : Str → Option Value} {mean : ExcName → Option Value} {dp un : Nat} {gd : Option (List Code)} {fr : List Env} {base : Heap} {s : Shared} {Q E : Value → Shared → Prop}
theorem chunk_spec
  {f fd dC : Addr} {q : FK} {ls : List Value} {LS : List Str} {nl : Nat} {vs : List Value} {cs : List (Str × Str)} {k : Nat} {hh : Int} {tk0 : Tok} {n : Int} {tn : Tok} {ps qs : Array Value} {fw st : Str} {tf ts : Tok}
  (X : (Mine.heapK w.params).In base) (T : Top topProg GL mean mg mb base) (hS : base.StaysIn s.heap) (G : AllBare s.gens)
  (a : FAt s.heap f fd dC q ls nl vs k hh tk0 n tn ps qs) (o : FOff base f fd dC q)
  (hA : AllAt (TupAt s.heap) vs (cs.map ckd)) (hb : tlen (cs ++ [(fw, st)]) ≤ 1000000) (hn : 0 ≤ n ∧ n ≤ 1000000) (hz : vs.length < 10000) (hLS : StrsAre ls LS) (hlz : ls.length < 100000)
  (hok : ∀ c ∈ cs ++ [(fw, st)], PyData.strOk c.1 = true ∧ PyData.strOk c.2 = true) (hsp : ∀ (i : Nat) (c : Nat), q.sp.cps[i]? = some c → Txt.isspace ⟨#[c]⟩ = false)
  (hdp : dp < 500) (_hu : un < 600)
  (ret : ∀ h' g' tk' ls' nl' vs' k' ps' qs' tn', Keep [q.ln, q.cu, dC, 140, 147] s.heap h' → FAt h' f fd dC q ls' nl' vs' k' hh tk0 (chunkR q.sp q.mx LS cs n (fw, st)).2.2 tn' ps' qs' → StrsAre ls' (chunkR q.sp q.mx LS cs n (fw, st)).1 → AllAt (TupAt h') vs' ((chunkR q.sp q.mx LS cs n (fw, st)).2.1.map ckd) → AllBare g' → Q .none { s with heap := h', gens := g', toks := tk' }) :
  wpAny (model PySem.Challenge.rw_ik0220_01.row.prog w) (amb dp un gd fr) (call (.ref 91) [.ref f, .str fw tf, .str st ts]) Q E s := by
  revert X; k_fill; intro X
  obtain ⟨p1, p2, p3, p4, p5⟩ := (⟨o.o1, o.o2, o.o3, o.o4, o.o5⟩ : _ ∧ _ ∧ _ ∧ _ ∧ _)
  refine wpAny_call ?_
  k_dflt (refine' enterF [(Str.ofString "string", .str st ts), (Str.ofString "fws", .str fw tf), (Str.ofString "self", .ref f)] (fD f fd dC q ls nl vs k hh tk0 n tn ps qs) ?kX ?kT hS ?kD ?kho ?khcd ?kroom ?kb ?kl ?kr ?_ ?c1 ?c2 ?c3 ?c4; (
  (case kX => assumption); (case kT => assumption); (case kho => k_is); (case khcd => k_is); (case kb => first | exact BindsTo.of_eq rfl | exact binds_K (by k_in) rfl (by k_is) rfl rfl rfl);
  (case kl => exact locs rfl); (case kr => exact rfl); (case c1 => exact rfl); (case c2 => exact rfl); (case c3 => exact rfl); (case c4 => decide); (case kroom => first | exact rm0 hdp rfl | (simp only [recursionLimit]; omega))); (case kD => exact a.all o))
  intro g L h1 fr' tk F N X1 T1 KP LTs
  k_fold
  unfold fD at N
  (repeat' (first | (k_unfold; (try dsimp only)) | ((with_reducible show wpAny _ _ (storeName _ _ _) _ _ _); (try dsimp only); walk1) | ((with_reducible show PySem.wpAt _ _ _ _ _ _ _); walk_at "wpAt") | ((fail_if_success (with_reducible refine Stop.go (by constructor) ?_)); first | walk1 | (dsimp only; walk1))))
  try dsimp only
  have hAg : AllAt (TupAt g) vs (cs.map ckd) := hA.mono fun v d' z => z.kept KP fun b hb' ob ho => by
    obtain ⟨r, hr, rfl⟩ := List.mem_map.mp hb'
    have e9 := (a.all o r hr).1
    rw [e9] at ho; cases ho
    simp only [fD, List.mem_cons, List.not_mem_nil, or_false] at hr
    rcases hr with rfl | rfl | rfl | rfl | rfl | rfl | rfl <;> simp
  refine push_spec X1 T1 F.keep (N _ (.tail _ (.tail _ (.tail _ (.head _))))).1 (N _ (.tail _ (.tail _ (.tail _ (.tail _ (.head _)))))).1 (N _ (.tail _ (.tail _ (.tail _ (.head _))))).2.2 (N _ (.tail _ (.tail _ (.tail _ (.tail _ (.head _)))))).2.2 p5 (by (clear hb hn hlz hdp p1 p2 p3 p4 p5; omega)) (by (clear hb hn hz hlz p1 p2 p3 p4 p5; omega)) (by (clear hb hn hz hlz hdp p1 p2 p3 p4 p5; omega)) fun h2 tk2 TE k2 e2 t2 => ?_
  have a1 : FAt h1 f fd dC q ls nl vs k hh tk0 n tn ps qs := FAt.of N (fun p hp => hp) a.atp a.atq
  have a2 := a1.cu' o k2 e2
  have F2 := fr_kept F N k2 (fun b hb => by rw [List.mem_singleton.mp hb]; exact ⟨_, .tail _ (.tail _ (.tail _ (.head _)))⟩)
  have A2 : AllAt (TupAt h2) (vs ++ [.ref TE]) ((cs ++ [(fw, st)]).map ckd) := by
    rw [List.map_append]
    exact (hAg.mono fun _ _ z => z.keeps F2.keep).append (.cons ⟨TE, _, 0, rfl, t2, .cons (.s _ _) (.cons (.s _ _) .nil)⟩ .nil)
  obtain ⟨ex, hex, Nx⟩ := all_tail F2 A2
  have N2 : News g L h2 ((f, instObj 94 fd) :: (fd, dictOf (fmtE q) 6) :: (q.ln, listOf ls.toArray nl) :: (q.cu, accObj dC (vs ++ [.ref TE]) (k + 1)) :: (dC, dictOf (iniE hh tk0 n tn) 1) :: (140, tabObj ps) :: (147, tabObj qs) :: ex) := Mine.News.app (a2.news N (fun p hp => hp)) Nx
  have lz : (vs ++ [Value.ref TE]).length < 10001 := by simp; (clear hb hn hlz hdp p1 p2 p3 p4 p5; omega)
  have hl2 : (vs ++ [Value.ref TE]).length = (cs ++ [(fw, st)]).length := by have := A2.length; simpa using this
  have hne2 : 0 < (cs ++ [(fw, st)]).length := by simp
  generalize vs ++ [Value.ref TE] = vs2 at *
  replace ret : ∀ R : List Str × List (Str × Str) × Int, chunkR q.sp q.mx LS cs n (fw, st) = R → ∀ h' g' tk' ls' nl' vs' k' ps' qs' tn', Keep [q.ln, q.cu, dC, 140, 147] s.heap h' → FAt h' f fd dC q ls' nl' vs' k' hh tk0 R.2.2 tn' ps' qs' → StrsAre ls' R.1 → AllAt (TupAt h') vs' (R.2.1.map ckd) → AllBare g' → Q .none { s with heap := h', gens := g', toks := tk' } := by
    rintro R rfl
    exact ret
  generalize hcs2 : cs ++ [(fw, st)] = cs2 at *
  generalize k + 1 = k2' at *
  clear F N a1 e2 t2 A2 Nx
  (repeat' (first | (k_unfold; (try dsimp only)) | ((with_reducible show wpAny _ _ (storeName _ _ _) _ _ _); (try dsimp only); walk1) | ((with_reducible show PySem.wpAt _ _ _ _ _ _ _); walk_at "wpAt") | ((fail_if_success (with_reducible refine StopT.go (by constructor) ?_)); ((fail_if_success (with_reducible refine Stop.go (by constructor) ?_)); first | walk1 | (dsimp only; walk1)))))
  k_dflt (refine' len_K F2 X1 ?kI ?k1 ?k2 ?_; (case kI => k_inst); (case k1 => k_is); (case k2 => k_is))
  show wpAny _ (amb (dp + 1) (un + 4) gd fr') _ _ _ _
  have A2 := hex h2 F2.keep fun p hp => (N2 p (.tail _ (.tail _ (.tail _ (.tail _ (.tail _ (.tail _ (.tail _ hp)))))))).1
  have z3 := (N2 _ (.tail _ (.tail _ (.tail _ (.head _))))).2.2
  have z4 := (N2 _ (.tail _ (.tail _ (.tail _ (.tail _ (.head _)))))).2.2
  have z5 := (N2 _ (.tail _ (.tail _ (.tail _ (.tail _ (.tail _ (.head _))))))).2.2
  have z6 := (N2 _ (.tail _ (.tail _ (.tail _ (.tail _ (.tail _ (.tail _ (.head _)))))))).2.2
  have N2' : News g L h2 (fD f fd dC q ls nl vs2 k2' hh tk0 n tn ps qs) := a2.news N2 (fun p hp => List.mem_append_left ex hp)
  refine len_spec (cs := cs2) X1 T1 F2.keep a2.acu a2.adc z3 z4 p5 (by (clear hn hz hlz hdp p5 lz hb hne2 hl2; omega)) a2.ap z5 a2.atp G A2 hb hn (by (clear hn hz hlz p1 p2 p3 p4 p5 lz hb hne2 hl2; omega)) (by (clear hn hz hlz hdp p1 p2 p3 p4 p5 lz hb hne2 hl2; omega)) fun t4 h4 g4 tk4 ps4 k4 e4 ht4 G4 => ?_
  have F4 := Fr.re1 F2 N2' k4 (.tail _ (.tail _ (.tail _ (.tail _ (.tail _ (.head _))))))
  have a4 := a2.p' o k4 e4 ht4
  have N4' := a4.news N2' (fun p hp => hp)
  have A4 : AllAt (TupAt h4) vs2 (cs2.map ckd) := A2.mono fun _ _ z => tup_kept z k4 N2' (fun b hb => by rw [List.mem_singleton.mp hb]; exact ⟨_, .tail _ (.tail _ (.tail _ (.tail _ (.tail _ (.head _))))), by simp⟩)
  have nn := tlen_nn cs2
  clear F2 N2 N2' hex ex A2 k2
  obtain ⟨ex, hex, Nx⟩ := all_tail F4 A4
  have N4 : News g L h4 ((f, instObj 94 fd) :: (fd, dictOf (fmtE q) 6) :: (q.ln, listOf ls.toArray nl) :: (q.cu, accObj dC vs2 k2') :: (dC, dictOf (iniE hh tk0 n tn) 1) :: (140, tabObj ps4) :: (147, tabObj qs) :: ex) := Mine.News.app N4' Nx
  clear N4' Nx
  refine ⟨⟨by (clear hz hlz hdp p1 p2 p3 p4 p5 lz hne2 hl2; omega), by (clear hz hlz hdp p1 p2 p3 p4 p5 lz hne2 hl2; omega)⟩, ?_⟩
  (repeat' (first | (k_unfold; (try dsimp only)) | ((with_reducible show wpAny _ _ (storeName _ _ _) _ _ _); (try dsimp only); walk1) | ((with_reducible show PySem.wpAt _ _ _ _ _ _ _); walk_at "wpAt") | ((fail_if_success (with_reducible refine StopT.go (by constructor) ?_)); ((fail_if_success (with_reducible refine Stop.go (by constructor) ?_)); first | walk1 | (dsimp only; walk1)))))
  · have FK4 := toKF [(Str.ofString "self", .ref f), (Str.ofString "fws", .str fw tf)] F4 ⟨rfl, rfl, trivial⟩
    refine for_W ?_
    (repeat' (first | (k_unfold; (try dsimp only)) | ((with_reducible show wpAny _ _ (storeName _ _ _) _ _ _); (try dsimp only); walk1) | ((with_reducible show PySem.wpAt _ _ _ _ _ _ _); walk_at "wpAt") | ((fail_if_success (with_reducible refine Stop.go (by constructor) ?_)); first | walk1 | (dsimp only; walk1))))
    refine iter_str fun oI St hfr W hst => ?_
    obtain ⟨FI, NI, lI⟩ := ks_newsPush (s := { s with heap := h4, toks := tk }) (o := oI) FK4 N4 rfl (Heap.get?_push_at rfl hfr) (fun b o e => Heap.get?_push_of_some _ e)
    have W' := W (amb (dp + 1) (un + 3) gd fr') rfl
    obtain ⟨nIL, gI⟩ := (NI _ (.head _)).2
    replace NI := fun p hp => NI p (.tail _ hp)
    clear W
    dsimp only at W' hst FI NI nIL gI
    refine ⟨_, _, _, _, _, St, fun i s' => ∃ h tk u, s' = { s with heap := h, gens := g4, toks := tk } ∧ Fr g L h (KF [(Str.ofString "self", .ref f), (Str.ofString "fws", .str fw tf)] u) ∧ News g L h (fD f fd dC q ls nl vs2 k2' hh tk0 n tn ps4 qs ++ ex) ∧ ∀ j : Nat, j < i → ∀ c : Nat, q.sp.cps.toList[j]? = some c → innR cs2 c (cs2.length - 1) = none, rfl, W', hst, ⟨_, _, _, rfl, FI, NI, fun j hj => absurd hj (Nat.not_lt_zero _)⟩, ?_, ?_⟩
    · rintro i s5 v h5 tk5 hi st ⟨h6, tk6, u6, rfl, F6, N6, no6⟩ hv st5 kk
      clear F4 FK4 N4 FI NI hst
      dsimp only at kk
      have F7 := Mine.Fr.kept (h' := h5) (D := [h4.objs.size]) F6 (fun b ob hb e => kk b ob hb e) (fun b hb => by rw [List.mem_singleton.mp hb]; exact gI) (fun hb => nIL (List.mem_singleton.mp hb).symm)
      have N7 := News.kept (h' := h5) (D := [h4.objs.size]) N6 (fun b ob hb e => kk b ob hb e) (fun p hp hb => absurd (lI p hp) (by rw [List.mem_singleton.mp hb]; exact Nat.lt_irrefl _))
      obtain ⟨ei, hei, Ne⟩ := iter_tail W' st5 gI nIL
      have N8 : News g L h5 ((f, instObj 94 fd) :: (fd, dictOf (fmtE q) 6) :: (q.ln, listOf ls.toArray nl) :: (q.cu, accObj dC vs2 k2') :: (dC, dictOf (iniE hh tk0 n tn) 1) :: (140, tabObj ps4) :: (147, tabObj qs) :: (ex ++ ei)) := Mine.News.app N7 Ne
      obtain ⟨ch, tc, hci, rfl⟩ := hv
      clear N7 Ne F6 N6 st st5 kk
      (repeat' (first | (k_unfold; (try dsimp only)) | ((with_reducible show wpAny _ _ (storeName _ _ _) _ _ _); (try dsimp only); walk1) | ((with_reducible show PySem.wpAt _ _ _ _ _ _ _); walk_at "wpAt") | ((fail_if_success (with_reducible refine Stop.go (by constructor) ?_)); first | walk1 | (dsimp only; walk1))))
      rename_i hA FA NA
      have FB := toKF [(Str.ofString "self", .ref f), (Str.ofString "ch", .str ⟨#[ch]⟩ tc), (Str.ofString "fws", .str fw tf)] FA ⟨rfl, rfl, rfl, trivial⟩
      clear FA
      refine for_W ?_
      (repeat' (first | (k_unfold; (try dsimp only)) | ((with_reducible show wpAny _ _ (storeName _ _ _) _ _ _); (try dsimp only); walk1) | ((with_reducible show PySem.wpAt _ _ _ _ _ _ _); walk_at "wpAt") | ((fail_if_success (with_reducible refine Stop.go (by constructor) ?_)); first | walk1 | (dsimp only; walk1))))
      refine part_count_spec X1 T1 FB.keep (NA _ (.tail _ (.tail _ (.tail _ (.head _))))).1 (NA _ (.tail _ (.tail _ (.tail _ (.tail _ (.head _)))))).1 (NA _ (.tail _ (.tail _ (.tail _ (.head _))))).2.2 (NA _ (.tail _ (.tail _ (.tail _ (.tail _ (.head _)))))).2.2 (by (clear hn hz hlz p1 p2 p3 p4 p5 lz hb hne2 hl2 nn nIL hi; omega)) (by (clear hn hz hlz hdp p1 p2 p3 p4 p5 lz hb hne2 hl2 nn nIL hi; omega)) fun tp hB tkB kB => ?_
      have FC := Mine.Fr.kept (h' := hB) (D := []) FB kB (fun b hb => no_mem hb) (fun hb => no_mem hb)
      have NC := News.kept (h' := hB) (D := []) NA kB (fun p hp hb => no_mem hb)
      clear FB NA
      (repeat' (first | (k_unfold; (try dsimp only)) | ((with_reducible show wpAny _ _ (storeName _ _ _) _ _ _); (try dsimp only); walk1) | ((with_reducible show PySem.wpAt _ _ _ _ _ _ _); walk_at "wpAt") | ((fail_if_success (with_reducible refine Stop.go (by constructor) ?_)); first | walk1 | (dsimp only; walk1))))
      rename_i hD tkD t1 u1 v1 hR FD ND kD
      refine wpAny_pyIter_range hR (small_down _ (by (clear hn hz hlz hdp p1 p2 p3 p4 p5 hb nn nIL hi; omega))) ?_
      rw [range_down]
      obtain ⟨FE, NE, lE⟩ := ks_newsPush (s := { s with heap := hD, toks := tkD }) (o := { cls := .type "range_iterator", data := .fields #[rawInt ((vs2.length : Int) - 1), rawInt ((vs2.length - 1 : Nat) : Int), rawInt (-1)] }) FD ND rfl (Heap.get?_push_at rfl rfl) (fun b o e => Heap.get?_push_of_some _ e)
      refine ⟨_, _, _, _, _, _, fun i2 s' => ∃ h tk u, s' = { s with heap := h, gens := g4, toks := tk } ∧ Fr g L h (KF [(Str.ofString "self", .ref f), (Str.ofString "ch", .str ⟨#[ch]⟩ tc), (Str.ofString "fws", .str fw tf)] u) ∧ News g L h (fD f fd dC q ls nl vs2 k2' hh tk0 n tn ps4 qs ++ (ex ++ ei)) ∧ innR cs2 ch (cs2.length - 1) = innR cs2 ch (cs2.length - 1 - i2), rfl, Walks.range rfl hD.objs.size ((vs2.length : Int) - 1) (-1) (vs2.length - 1), ?_, ⟨_, _, _, rfl, FE, fun p hp => NE p (.tail _ hp), rfl⟩, ?_, ?_⟩
      · have e9 := (NE _ (.head _)).1
        show Heap.get? _ _ = _
        simpa using e9
      · rintro i2 s6 v6 h10 tk10 hi2 st10 ⟨h11, tk11, u11, rfl, F11, N11, in11⟩ ⟨ti, rfl⟩ st11 kk11
        have F12 := Mine.Fr.kept (h' := h10) (D := [hD.objs.size]) F11 (fun b ob hb e => kk11 b ob hb e) (fun b hb => by rw [List.mem_singleton.mp hb]; exact (NE _ (.head _)).2.2) (fun hb => (NE _ (.head _)).2.1 (List.mem_singleton.mp hb).symm)
        have N12 := News.kept (h' := h10) (D := [hD.objs.size]) N11 (fun b ob hb e => kk11 b ob hb e) (fun p hp hb => absurd (lE p hp) (by rw [List.mem_singleton.mp hb]; exact Nat.lt_irrefl _))
        have N13 := News.cons N12 (show h10.get? hD.objs.size = some _ from st11) (NE _ (.head _)).2.2 (NE _ (.head _)).2.1
        clear F11 N11 N12 st10 kk11
        simp only [fD, List.cons_append, List.nil_append] at N13
        (repeat' (first | (k_unfold; (try dsimp only)) | ((with_reducible show wpAny _ _ (storeName _ _ _) _ _ _); (try dsimp only); walk1) | ((with_reducible show PySem.wpAt _ _ _ _ _ _ _); walk_at "wpAt") | ((fail_if_success (with_reducible refine Stop.go (by constructor) ?_)); first | walk1 | (dsimp only; walk1))))
        · rename_i w9
          rw [hsp i ch hci] at w9; cases w9
        · rename_i hE F14 N14 nw
          obtain ⟨t, ht⟩ : ∃ t : Nat, cs2.length - 1 - i2 = t + 1 := Nat.exists_eq_add_one.mpr (Nat.sub_pos_of_lt (hl2 ▸ hi2))
          rw [ht] at in11
          have eI : (vs2.length : Int) - 1 + (i2 : Int) * -1 = ((t + 1 : Nat) : Int) := by (clear hn hz hlz hdp p1 p2 p3 p4 p5 lz hb hne2 nn nIL hi hi2; omega)
          rw [eI] at F14 ⊢
          have A14 := hex hE F14.keep fun p hp => (N14 _ (.tail _ (.tail _ (.tail _ (.tail _ (.tail _ (.tail _ (.tail _ (.tail _ (List.mem_append_left ei hp)))))))))).1
          have ht2 : t < cs2.length := by (clear hn hz hlz hdp p1 p2 p3 p4 p5 lz hb hne2 nn nIL hi hi2 ht; omega)
          obtain ⟨v9, ev9, tv9⟩ := A14.get (i := t) (by simpa using ht2)
          rw [List.getElem_map] at tv9
          have hc0 : cs2[t]? = some cs2[t] := List.getElem?_eq_getElem ht2
          generalize cs2[t] = c0 at hc0 tv9
          obtain ⟨d1, d2⟩ := c0
          have hd2 : d2.length ≤ 1000000 := by
            have z := clen_le (List.mem_of_getElem? hc0)
            have z' : clen (d1, d2) = ((d1.length + d2.length : Nat) : Int) := rfl
            (clear hn hz hlz hdp p1 p2 p3 p4 p5 lz hne2 hl2 nIL hi hi2 ht eI ht2; omega)
          obtain ⟨T9, x1, x2, rfl, hT9⟩ := tv9.pair
          k_dflt (refine' sub_at (vs := vs2) (o := accObj dC vs2 k2') (n := k2') (X1.keeps F14.keep) ?kI ?k1 ?k2 ?k3 rfl (by (clear hn hz hlz hdp p1 p2 p3 p4 p5 lz hb hne2 hl2 nn nIL hi hi2 ht eI ht2 hd2; omega)) (by (clear hn hz hlz hdp p1 p2 p3 p4 p5 hb nn nIL hi hi2 ht hd2; omega)) (v := .ref T9) ?k4 ?_; (case kI => k_inst); (case k1 => k_is); (case k2 => k_is); (case k3 => k_is); (case k4 => (rw [show (((t + 1 : Nat) : Int) - 1).toNat = t by (clear hn hz hlz hdp p1 p2 p3 p4 p5 lz hb hne2 hl2 nn nIL hi hi2 ht eI ht2 hd2; omega), List.getElem?_toArray]; exact ev9)))
          (repeat' (first | (k_unfold; (try dsimp only)) | ((with_reducible show wpAny _ _ (storeName _ _ _) _ _ _); (try dsimp only); walk1) | ((with_reducible show PySem.wpAt _ _ _ _ _ _ _); walk_at "wpAt") | ((fail_if_success (with_reducible refine Stop.go (by constructor) ?_)); first | walk1 | (dsimp only; walk1))))
          refine sub_tup hT9 (by decide) (by decide) (j := 1) (x := .str d2 x2) rfl rfl ?_
          (repeat' (first | (k_unfold; (try dsimp only)) | ((with_reducible show wpAny _ _ (storeName _ _ _) _ _ _); (try dsimp only); walk1) | ((with_reducible show PySem.wpAt _ _ _ _ _ _ _); walk_at "wpAt") | ((fail_if_success (with_reducible refine Stop.go (by constructor) ?_)); first | walk1 | (dsimp only; walk1))))
          · rename_i hG F15 N15 tkG e0 e1 e2
            have e0' : d2.length ≠ 0 := by (clear hn hz hlz hdp p1 p2 p3 p4 p5 lz hb hne2 hl2 nn nIL hi hi2 ht eI ht2 hd2 hfact e1; omega)
            rw [item_last e0'] at e2
            have hit : innR cs2 ch (cs2.length - 1) = some (t + 1) := by rw [in11]; exact innR_hit hc0 e2
            have hcut : cutAt cs2 q.sp.cps.toList = some (t + 1) := cutAt_some (i := i) (by rw [Array.getElem?_toList]; exact hci) no6 hit
            have hR9 := chunkR_cut (LS := LS) hcs2 (show ¬ n + tlen cs2 ≤ q.mx from (by (clear hn hz hlz hdp p1 p2 p3 p4 p5 lz hb hne2 hl2 nn nIL hi hi2 ht eI ht2 hd2 hfact e0 e1 e0'; omega))) hcut

            have A15 := hex hG F15.keep fun p hp => (N15 _ (.tail _ (.tail _ (.tail _ (.tail _ (.tail _ (.tail _ (.tail _ (.tail _ (List.mem_append_left ei hp)))))))))).1
            replace N15 : News g L hG (fD f fd dC q ls nl vs2 k2' hh tk0 n tn ps4 qs) := fun p hp => N15 p (.tail _ (List.mem_append_left (ex ++ ei) hp))
            clear W' hT9 tv9 kD hR hei lE lI in11 no6
            dsimp only [WkP]
            (repeat' (first | (k_unfold; (try dsimp only)) | ((with_reducible show wpAny _ _ (storeName _ _ _) _ _ _); (try dsimp only); walk1) | ((with_reducible show PySem.wpAt _ _ _ _ _ _ _); walk_at "wpAt") | ((fail_if_success (with_reducible refine Stop.go (by constructor) ?_)); first | walk1 | (dsimp only; walk1))))
            dsimp only [WkP]
            (repeat' (first | (k_unfold; (try dsimp only)) | ((with_reducible show wpAny _ _ (storeName _ _ _) _ _ _); (try dsimp only); walk1) | ((with_reducible show PySem.wpAt _ _ _ _ _ _ _); walk_at "wpAt") | ((fail_if_success (with_reducible refine Stop.go (by constructor) ?_)); first | walk1 | (dsimp only; walk1))))
            have a15 : FAt hG f fd dC q ls nl vs2 k2' hh tk0 n tn ps4 qs := FAt.of N15 (fun p hp => hp) a4.atp a4.atq
            have lt2 : t + 1 ≤ vs2.length := by (clear hn hz hlz hdp p1 p2 p3 p4 p5 lz hb hne2 nn nIL hi hi2 ht hd2 hfact e0 e1 e0'; omega)
            refine popfrom_spec (i := t + 1) X1 T1 F15.keep a15.acu a15.adc z3 z4 p5 (by (clear hn hz hlz hdp p1 p2 p3 p4 p5 hb nn nIL hi hi2 ht ht2 hd2 hfact e0 e1 e0' lt2; omega)) lt2 (by (clear hn hz hlz p1 p2 p3 p4 p5 lz hb hne2 hl2 nn nIL hi hi2 ht eI ht2 hd2 hfact e0 e1 e0' lt2; omega)) (by (clear hn hz hlz hdp p1 p2 p3 p4 p5 lz hb hne2 hl2 nn nIL hi hi2 ht eI ht2 hd2 hfact e0 e1 e0' lt2; omega)) fun h16 tk16 P k16 fP kp16 eP e16 => ?_
            have a16 := a15.cu' o kp16 e16
            have F16 := fr_kept F15 N15 kp16 (fun b hb => by rw [List.mem_singleton.mp hb]; exact ⟨_, .tail _ (.tail _ (.tail _ (.head _)))⟩)
            have gP : g.get? P = none := by
              cases eg : g.get? P with
              | none => rfl
              | some oP => have := F15.keep _ _ eg; rw [this] at fP; cases fP
            have nPL := list_ne_L F16 eP
            have A16 : AllAt (TupAt h16) vs2 (cs2.map ckd) := A15.mono fun _ _ z => tup_kept z kp16 N15 (fun b hb => by rw [List.mem_singleton.mp hb]; exact ⟨_, .tail _ (.tail _ (.tail _ (.head _))), by simp⟩)
            have cP : @Ne Nat q.cu P := fun e => by
              have e9 := a15.acu
              rw [show q.cu = P from e, fP] at e9; cases e9
            have lP : @Ne Nat q.ln P := fun e => by
              have e9 := a15.aln
              rw [show q.ln = P from e, fP] at e9; cases e9
            have dP : @Ne Nat dC P := fun e => by
              have e9 := a15.adc
              rw [show dC = P from e, fP] at e9; cases e9
            have qP : @Ne Nat 147 P := fun e => by
              have e9 := a15.aq
              rw [show (147 : Addr) = P from e, fP] at e9; cases e9
            obtain ⟨ex2, hex2, Nx2⟩ := all_tail F16 A16
            have N16 : News g L h16 ((P, listOf (vs2.drop (t + 1)).toArray 0) :: (f, instObj 94 fd) :: (fd, dictOf (fmtE q) 6) :: (q.ln, listOf ls.toArray nl) :: (q.cu, accObj dC (vs2.take (t + 1)) k16) :: (dC, dictOf (iniE hh tk0 n tn) 1) :: (140, tabObj ps4) :: (147, tabObj qs) :: ex2) := News.cons (Mine.News.app (a16.news N15 (fun p hp => hp)) Nx2) eP gP nPL
            clear F15 N15 Nx2 A15 A16
            (repeat' (first | (k_unfold; (try dsimp only)) | ((with_reducible show wpAny _ _ (storeName _ _ _) _ _ _); (try dsimp only); walk1) | ((with_reducible show PySem.wpAt _ _ _ _ _ _ _); walk_at "wpAt") | ((fail_if_success (with_reducible refine StopT.go (by constructor) ?_)); ((fail_if_success (with_reducible refine Stop.go (by constructor) ?_)); first | walk1 | (dsimp only; walk1)))))
            rename_i h17 F17 N17
            have A17 := hex2 h17 F17.keep fun p hp => (N17 _ (.tail _ (.tail _ (.tail _ (.tail _ (.tail _ (.tail _ (.tail _ (.tail _ hp))))))))).1
            have eP17 := (N17 _ (.head _)).1
            have N17' : News g L h17 (fD f fd dC q ls nl (vs2.take (t + 1)) k16 hh tk0 n tn ps4 qs) := fun p hp => N17 p (.tail _ (List.mem_append_left ex2 hp))
            have a17 : FAt h17 f fd dC q ls nl (vs2.take (t + 1)) k16 hh tk0 n tn ps4 qs := FAt.of N17' (fun p hp => hp) a4.atp a4.atq
            have lt3 : (vs2.take (t + 1)).length ≤ vs2.length := by rw [List.length_take]; (clear hn hz hlz hdp p1 p2 p3 p4 p5 lz hb hne2 nn nIL hi hi2 ht hd2 hfact e0 e1 e0' lt2 nPL cP lP dP qP; omega)
            have lt4 : (vs2.drop (t + 1)).length ≤ vs2.length := by rw [List.length_drop]; (clear hn hz hlz hdp p1 p2 p3 p4 p5 lz hb hne2 nn nIL hi hi2 ht hd2 hfact e0 e1 e0' lt2 nPL cP lP dP qP lt3; omega)
            have tl3 := tlen_take cs2 (t + 1)
            k_dflt (refine' kso_call ?hu (X1.keeps F17.keep) ?kI ?k1 ?k2 ?_; (case hu => show un + 3 + 1 + 1 < cLine; simp only [cLine]; (clear hn hz hlz hdp p1 p2 p3 p4 p5 lz hb hne2 hl2 nn nIL hi hi2 ht eI ht2 hd2 hfact e0 e1 e0' lt2 nPL cP lP dP qP lt3 lt4 tl3; omega)); (case kI => k_inst); (case k1 => k_is); (case k2 => k_is))
            show wpAny _ (amb (dp + 1) (un + 5) gd fr') _ _ _ _
            have A17t : AllAt (TupAt h17) (vs2.take (t + 1)) ((cs2.take (t + 1)).map ckd) := by rw [List.map_take]; exact AllAt.take A17 (t + 1)
            refine str_spec (cs := cs2.take (t + 1)) X1 T1 F17.keep a17.acu a17.adc z3 z4 p5 (by (clear hn hz hlz hdp p5 lz hb hne2 hl2 nn nIL hi hi2 ht eI ht2 hd2 hfact e0 e1 e0' lt2 nPL cP lP dP qP lt3 lt4 tl3; omega)) (by (clear hn hz hlz hdp p1 p2 p3 p4 p5 hb nn nIL hi hi2 ht ht2 hd2 hfact e0 e1 e0' lt2 nPL cP lP dP qP lt4 tl3; omega)) a17.aq z6 a17.atq G4 A17t (by (clear hn hz hlz hdp p1 p2 p3 p4 p5 lz hne2 hl2 nIL hi hi2 ht eI ht2 hd2 hfact e0 e1 e0' lt2 nPL cP lP dP qP lt3 lt4; omega)) hn (by (clear hn hz hlz p1 p2 p3 p4 p5 lz hb hne2 hl2 nn nIL hi hi2 ht eI ht2 hd2 hfact e0 e1 e0' lt2 nPL cP lP dP qP lt3 lt4 tl3; omega)) (by (clear hn hz hlz hdp p1 p2 p3 p4 p5 lz hb hne2 hl2 nn nIL hi hi2 ht eI ht2 hd2 hfact e0 e1 e0' lt2 nPL cP lP dP qP lt3 lt4 tl3; omega)) fun t6 h18 g18 tk18 qs18 kp18 e18 t18 G18 => ?_
            have F18 := Fr.re1 F17 N17' kp18 (.tail _ (.tail _ (.tail _ (.tail _ (.tail _ (.tail _ (.head _)))))))
            have a18 := a17.q' o kp18 e18 t18
            have eP18 := kp18 _ _ (off1 qP.symm) eP17
            have A18 : AllAt (TupAt h18) vs2 (cs2.map ckd) := A17.mono fun _ _ z => tup_kept z kp18 N17' (fun b hb => by rw [List.mem_singleton.mp hb]; exact ⟨_, .tail _ (.tail _ (.tail _ (.tail _ (.tail _ (.tail _ (.head _)))))), by simp⟩)
            obtain ⟨ex3, hex3, Nx3, Cx3⟩ := all_tail2 F18 A18
            have N18 : News g L h18 ((P, listOf (vs2.drop (t + 1)).toArray 0) :: (f, instObj 94 fd) :: (fd, dictOf (fmtE q) 6) :: (q.ln, listOf ls.toArray nl) :: (q.cu, accObj dC (vs2.take (t + 1)) k16) :: (dC, dictOf (iniE hh tk0 n tn) 1) :: (140, tabObj ps4) :: (147, tabObj qs18) :: ex3) := News.cons (Mine.News.app (a18.news N17' (fun p hp => hp)) Nx3) eP18 gP nPL
            clear F17 N17 N17' Nx3 A17 A17t A18 hex2
            dsimp only [StrBack]
            (repeat' (first | (k_unfold; (try dsimp only)) | ((with_reducible show wpAny _ _ (storeName _ _ _) _ _ _); (try dsimp only); walk1) | ((with_reducible show PySem.wpAt _ _ _ _ _ _ _); walk_at "wpAt") | ((fail_if_success (with_reducible refine Stop.go (by constructor) ?_)); first | walk1 | (dsimp only; walk1))))
            refine append_fmt F18 N18 p1 p2 p3 p4 p5 lP Cx3 hlz fun h19 F19 N19 => ?_
            simp only [fD, List.cons_append, List.nil_append] at N19
            clear F18 N18
            (repeat' (first | (k_unfold; (try dsimp only)) | ((with_reducible show wpAny _ _ (storeName _ _ _) _ _ _); (try dsimp only); walk1) | ((with_reducible show PySem.wpAt _ _ _ _ _ _ _); walk_at "wpAt") | ((fail_if_success (with_reducible refine Stop.go (by constructor) ?_)); first | walk1 | (dsimp only; walk1))))
            try dsimp only
            have A19 := hex3 h19 F19.keep fun p hp => (N19 _ (.tail _ (.tail _ (.tail _ (.tail _ (.tail _ (.tail _ (.tail _ (.tail _ hp))))))))).1
            have eP19 := (N19 _ (.head _)).1
            have N19' : News g L h19 (fD f fd dC q (ls ++ [.str (ctxt (cs2.take (t + 1))) t6]) (nl + 1) (vs2.take (t + 1)) k16 hh tk0 n tn ps4 qs18) := fun p hp => N19 p (.tail _ (List.mem_append_left ex3 hp))
            have a19 : FAt h19 f fd dC q (ls ++ [.str (ctxt (cs2.take (t + 1))) t6]) (nl + 1) (vs2.take (t + 1)) k16 hh tk0 n tn ps4 qs18 := FAt.of N19' (fun p hp => hp) a4.atp t18
            refine reset1_spec X1 T1 F19.keep a19.acu a19.adc z3 z4 p5 eP19 gP cP dP (by (clear hn hz hlz hdp p1 p2 p3 p4 p5 hb nn nIL hi hi2 ht ht2 hd2 hfact e0 e1 e0' lt2 nPL cP lP dP qP lt4 tl3; omega)) (by (clear hn hz hlz hdp p1 p2 p3 p4 p5 hb nn nIL hi hi2 ht ht2 hd2 hfact e0 e1 e0' lt2 nPL cP lP dP qP lt3 tl3; omega)) (by (clear hn hz hlz p1 p2 p3 p4 p5 lz hb hne2 hl2 nn nIL hi hi2 ht eI ht2 hd2 hfact e0 e1 e0' lt2 nPL cP lP dP qP lt3 lt4 tl3; omega)) (by (clear hn hz hlz hdp p1 p2 p3 p4 p5 lz hb hne2 hl2 nn nIL hi hi2 ht eI ht2 hd2 hfact e0 e1 e0' lt2 nPL cP lP dP qP lt3 lt4 tl3; omega)) fun h20 tk20 k20 tn20 kp20 e20 d20 => ?_
            have a20 := a19.cd' o kp20 e20 d20
            have F20 := fr_kept F19 N19' kp20 (fun b hb => by
              rcases List.mem_cons.mp hb with rfl | hb
              · exact ⟨_, .tail _ (.tail _ (.tail _ (.head _)))⟩
              · rw [List.mem_singleton.mp hb]; exact ⟨_, .tail _ (.tail _ (.tail _ (.tail _ (.head _))))⟩)
            have A20 : AllAt (TupAt h20) (vs2.drop (t + 1)) ((cs2.drop (t + 1)).map ckd) := by
              rw [List.map_drop]
              exact AllAt.drop (A19.mono fun _ _ z => tup_kept z kp20 N19' (fun b hb => by
                rcases List.mem_cons.mp hb with rfl | hb
                · exact ⟨_, .tail _ (.tail _ (.tail _ (.head _))), by simp⟩
                · rw [List.mem_singleton.mp hb]; exact ⟨_, .tail _ (.tail _ (.tail _ (.tail _ (.head _)))), by simp⟩)) (t + 1)
            clear F19 N19 N19'
            (repeat' (first | (k_unfold; (try dsimp only)) | ((with_reducible show wpAny _ _ (storeName _ _ _) _ _ _); (try dsimp only); walk1) | ((with_reducible show PySem.wpAt _ _ _ _ _ _ _); walk_at "wpAt") | ((fail_if_success (with_reducible refine Stop.go (by constructor) ?_)); first | walk1 | (dsimp only; walk1))))
            exact ret _ hR9 h20 g18 _ _ _ _ _ ps4 qs18 tn20 (a.keepOf o KP F20.keep a20) a20 (hLS.snoc _ _) A20 G18
          · rename_i hG F15 N15 tkG e0 e1 e2
            have e0' : d2.length ≠ 0 := by (clear hn hz hlz hdp p1 p2 p3 p4 p5 lz hb hne2 hl2 nn nIL hi hi2 ht eI ht2 hd2 hfact e1; omega)
            rw [item_last e0'] at e2
            refine WkP.next (show Heap.get? _ _ = _ from (N15 _ (.head _)).1) ⟨_, _, _, rfl, toKF [(Str.ofString "self", .ref f), (Str.ofString "ch", .str ⟨#[ch]⟩ tc), (Str.ofString "fws", .str fw tf)] F15 ⟨rfl, rfl, rfl, trivial⟩, fun p hp => N15 p (.tail _ hp), ?_⟩
            rw [in11, innR_miss hc0 e2]
            congr 1
            (clear hn hz hlz hdp p1 p2 p3 p4 p5 lz hb hne2 nn nIL hi hi2 ht ht2 hd2 hfact e0 e1 e0'; omega)
          · rename_i hG F15 N15 tkG e0
            have e2 : endsC ch (d1, d2) = false := by
              unfold endsC
              have e0' : d2.cps.size = 0 := show d2.length = 0 by (clear hn hz hlz hdp p1 p2 p3 p4 p5 lz hb hne2 hl2 nn nIL hi hi2 ht eI ht2 hd2 hfact; omega)
              rw [Array.eq_empty_of_size_eq_zero e0']; rfl
            refine WkP.next (show Heap.get? _ _ = _ from (N15 _ (.head _)).1) ⟨_, _, _, rfl, toKF [(Str.ofString "self", .ref f), (Str.ofString "ch", .str ⟨#[ch]⟩ tc), (Str.ofString "fws", .str fw tf)] F15 ⟨rfl, rfl, rfl, trivial⟩, fun p hp => N15 p (.tail _ hp), ?_⟩
            rw [in11, innR_miss hc0 e2]
            congr 1
            (clear hn hz hlz hdp p1 p2 p3 p4 p5 lz hb hne2 nn nIL hi hi2 ht ht2 hd2 hfact e0; omega)
      · rintro s6 h10 tk10 ⟨h11, tk11, u11, rfl, F11, N11, in11⟩ kk11
        have F12 := Mine.Fr.kept (h' := h10) (D := [hD.objs.size]) F11 (fun b ob hb e => kk11 b ob hb e) (fun b hb => by rw [List.mem_singleton.mp hb]; exact (NE _ (.head _)).2.2) (fun hb => (NE _ (.head _)).2.1 (List.mem_singleton.mp hb).symm)
        have N12 := News.kept (h' := h10) (D := [hD.objs.size]) N11 (fun b ob hb e => kk11 b ob hb e) (fun p hp hb => absurd (lE p hp) (by rw [List.mem_singleton.mp hb]; exact Nat.lt_irrefl _))
        clear F11 N11
        (repeat' (first | (k_unfold; (try dsimp only)) | ((with_reducible show wpAny _ _ (storeName _ _ _) _ _ _); (try dsimp only); walk1) | ((with_reducible show PySem.wpAt _ _ _ _ _ _ _); walk_at "wpAt") | ((fail_if_success (with_reducible refine Stop.go (by constructor) ?_)); first | walk1 | (dsimp only; walk1))))
        refine WkP.cont (hei _ fun p hp => (N12 p (List.mem_append_right _ (List.mem_append_right _ hp))).1) ⟨_, _, _, rfl, toKF [(Str.ofString "self", .ref f), (Str.ofString "fws", .str fw tf)] F12 ⟨rfl, rfl, trivial⟩, fun p (hp : p ∈ fD f fd dC q ls nl vs2 k2' hh tk0 n tn ps4 qs ++ ex) => N12 p ?_, fun j hj c hc => ?_⟩
        · rcases List.mem_append.mp hp with hp | hp
          · exact List.mem_append_left _ hp
          · exact List.mem_append_right _ (List.mem_append_left _ hp)
        · rcases Nat.lt_or_ge j i with h9 | h9
          · exact no6 j h9 c hc
          · have e9 : j = i := by (clear hn hz hlz hdp p1 p2 p3 p4 p5 lz hb hne2 hl2 nn nIL hi; omega)
            subst e9
            rw [Array.getElem?_toList, hci] at hc
            cases hc
            rw [in11, show cs2.length - 1 - (vs2.length - 1) = 0 by (clear hn hz hlz hdp p1 p2 p3 p4 p5 hb nn nIL hi hj h9; omega)]
            rfl
    · rintro s5 h5 tk5 ⟨h6, tk6, u6, rfl, F6, N6, no6⟩ kk
      clear F4 FK4 N4 FI NI hst
      dsimp only at kk
      have F7 := Mine.Fr.kept (h' := h5) (D := [h4.objs.size]) F6 (fun b ob hb e => kk b ob hb e) (fun b hb => by rw [List.mem_singleton.mp hb]; exact gI) (fun hb => nIL (List.mem_singleton.mp hb).symm)
      have N7 := News.kept (h' := h5) (D := [h4.objs.size]) N6 (fun b ob hb e => kk b ob hb e) (fun p hp hb => absurd (lI p hp) (by rw [List.mem_singleton.mp hb]; exact Nat.lt_irrefl _))
      clear F6 N6 kk
      have hcut : cutAt cs2 q.sp.cps.toList = none := cutAt_none fun j c hc => no6 j (by
        have := (List.getElem?_eq_some_iff.mp hc).1
        simpa using this) c hc
      have hbig : ¬ n + tlen cs2 ≤ q.mx := (by (clear hn hz hlz hdp p1 p2 p3 p4 p5 lz hb hne2 hl2 nn nIL; omega))

      simp only [fD, List.cons_append, List.nil_append] at N7
      (repeat' (first | (k_unfold; (try dsimp only)) | ((with_reducible show wpAny _ _ (storeName _ _ _) _ _ _); (try dsimp only); walk1) | ((with_reducible show PySem.wpAt _ _ _ _ _ _ _); walk_at "wpAt") | ((fail_if_success (with_reducible refine Stop.go (by constructor) ?_)); first | walk1 | (dsimp only; walk1))))
      try dsimp only
      have A7 := hex h5 F7.keep fun p hp => (N7 _ (.tail _ (.tail _ (.tail _ (.tail _ (.tail _ (.tail _ (.tail _ hp)))))))).1
      replace N7 : News g L h5 (fD f fd dC q ls nl vs2 k2' hh tk0 n tn ps4 qs) := fun p hp => N7 p (List.mem_append_left ex hp)
      have a7 : FAt h5 f fd dC q ls nl vs2 k2' hh tk0 n tn ps4 qs := FAt.of N7 (fun p hp => hp) a4.atp a4.atq
      refine pop2_spec (cs := cs2) X1 T1 F7.keep a7.acu a7.adc z3 z4 p5 (by (clear hn hz hlz hdp p1 p2 p3 p4 p5 hb nn nIL; omega)) A7 (by (clear hn hz hlz p1 p2 p3 p4 p5 lz hb hne2 hl2 nn nIL; omega)) (by (clear hn hz hlz hdp p1 p2 p3 p4 p5 lz hb hne2 hl2 nn nIL; omega)) fun h8 tk8 TE8 vs8 cs8 ee8 k8 kp8 e8 A8 tE8 hcs8 => ?_
      have a8 := a7.cu' o kp8 e8
      have F8 := fr_kept F7 N7 kp8 (fun b hb => by rw [List.mem_singleton.mp hb]; exact ⟨_, .tail _ (.tail _ (.tail _ (.head _)))⟩)
      have N8 := a8.news N7 (fun p hp => hp)
      obtain ⟨q1, q2⟩ : vs8 ++ [.ref TE8] = vs2 ∧ cs8 ++ [ee8] = cs2 := by
        rcases hcs8 with h | ⟨-, -, q3, -, -⟩
        · exact h
        · rw [q3] at hne2; exact absurd hne2 (Nat.lt_irrefl _)
      have q3 : cs8 = cs ∧ ee8 = (fw, st) := by
        rw [← hcs2] at q2
        have := List.append_inj' q2 rfl
        exact ⟨this.1, by simpa using this.2⟩
      obtain ⟨rfl, rfl⟩ := q3
      have lz8 : vs8.length < 10000 := by rw [← q1] at lz; simp at lz; (clear hn hz hlz hdp p1 p2 p3 p4 p5 hb hne2 hl2 nn nIL hcs8; omega)
      obtain ⟨T9, x1, x2, eT, hT9⟩ := tE8.pair
      cases eT
      clear F7 N7 a7
      obtain ⟨exx, hexx, Nxx⟩ := all_tail F8 A8
      have N9 : News g L h8 ((f, instObj 94 fd) :: (fd, dictOf (fmtE q) 6) :: (q.ln, listOf ls.toArray nl) :: (q.cu, accObj dC vs8 k8) :: (dC, dictOf (iniE hh tk0 n tn) 1) :: (140, tabObj ps4) :: (147, tabObj qs) :: exx) := Mine.News.app N8 Nxx
      clear N8 Nxx
      try dsimp only
      refine unpackN_ F8 N9 hT9 rfl rfl rfl fun h9 F9 N9' => ?_
      clear F8 N9
      (repeat' (first | (k_unfold; (try dsimp only)) | ((with_reducible show wpAny _ _ (storeName _ _ _) _ _ _); (try dsimp only); walk1) | ((with_reducible show PySem.wpAt _ _ _ _ _ _ _); walk_at "wpAt") | ((fail_if_success (with_reducible refine Stop.go (by constructor) ?_)); first | walk1 | (dsimp only; walk1))))
      · rename_i hX h10 F10 N10 tkX hn0

        try dsimp only
        have A10 := hexx h10 F10.keep fun p hp => (N10 _ (.tail _ (.tail _ (.tail _ (.tail _ (.tail _ (.tail _ (.tail _ hp)))))))).1
        replace N10 : News g L h10 (fD f fd dC q ls nl vs8 k8 hh tk0 n tn ps4 qs) := fun p hp => N10 p (List.mem_append_left exx hp)
        have a10 : FAt h10 f fd dC q ls nl vs8 k8 hh tk0 n tn ps4 qs := FAt.of N10 (fun p hp => hp) a4.atp a4.atq
        have o1 : FOff g f fd dC q := ⟨(N10 _ (.head _)).2.2, (N10 _ (.tail _ (.head _))).2.2, (N10 _ (.tail _ (.tail _ (.head _)))).2.2, (N10 _ (.tail _ (.tail _ (.tail _ (.head _))))).2.2, (N10 _ (.tail _ (.tail _ (.tail _ (.tail _ (.head _)))))).2.2, (N10 _ (.tail _ (.tail _ (.tail _ (.tail _ (.tail _ (.head _))))))).2.2, (N10 _ (.tail _ (.tail _ (.tail _ (.tail _ (.tail _ (.tail _ (.head _)))))))).2.2, p1, p2, p3, p4, p5⟩
        have tl8 : tlen cs8 ≤ 1000000 := by
          have e9 := tlen_snoc cs8 (fw, st)
          have e8' := clen_nn (fw, st)
          rw [q2] at e9
          (clear hn hz hlz hdp p1 p2 p3 p4 p5 lz hne2 hl2 nIL hcs8 lz8 hn0; omega)
        refine newline_spec (cs := cs8) X1 T1 F10.keep G4 a10 o1 A10 tl8 hn lz8 (fun c hc => hok c (by rw [← q2]; exact List.mem_append_left _ hc)) hLS hlz (by rw [decide_eq_false (by (clear hz hlz hdp p1 p2 p3 p4 p5 lz hb hne2 hl2 nn nIL hcs8 lz8 tl8; omega))]; rfl) (by (clear hn hz hlz p1 p2 p3 p4 p5 lz hb hne2 hl2 nn nIL hcs8 lz8 hn0 tl8; omega)) (by (clear hn hz hlz hdp p1 p2 p3 p4 p5 lz hb hne2 hl2 nn nIL hcs8 lz8 hn0 tl8; omega)) fun h11 g11 tk11 ls11 nl11 k11 ps11 qs11 tn11 kp11 a11 hL11 G11 => ?_
        have F11 := fr_kept F10 N10 kp11 (fun b hb => by
          simp only [List.mem_cons, List.not_mem_nil, or_false] at hb
          rcases hb with rfl | rfl | rfl | rfl | rfl
          · exact ⟨_, .tail _ (.tail _ (.head _))⟩
          · exact ⟨_, .tail _ (.tail _ (.tail _ (.head _)))⟩
          · exact ⟨_, .tail _ (.tail _ (.tail _ (.tail _ (.head _))))⟩
          · exact ⟨_, .tail _ (.tail _ (.tail _ (.tail _ (.tail _ (.head _)))))⟩
          · exact ⟨_, .tail _ (.tail _ (.tail _ (.tail _ (.tail _ (.tail _ (.head _))))))⟩)
        have N11 := a11.news N10 (fun p hp => hp)
        clear F10 N10
        unfold fD at N11
        have hfl : fw.length ≤ 1000000 := by
          have z := clen_le (cs := cs2) (c := (fw, st)) (by rw [← q2]; simp)
          have z' : clen (fw, st) = ((fw.length + st.length : Nat) : Int) := rfl
          (clear hn hz hlz hdp p1 p2 p3 p4 p5 lz hne2 hl2 nIL hcs8 lz8 hn0 tl8; omega)
        (repeat' (first | (k_unfold; (try dsimp only)) | ((with_reducible show wpAny _ _ (storeName _ _ _) _ _ _); (try dsimp only); walk1) | ((with_reducible show PySem.wpAt _ _ _ _ _ _ _); walk_at "wpAt") | ((fail_if_success (with_reducible refine Stop.go (by constructor) ?_)); first | walk1 | (dsimp only; walk1))))
        · rename_i tkY ne0
          have hR9 := chunkR_new (LS := LS) hcs2 hbig hcut hn0 (if_neg (str_nonempty (show fw.length ≠ 0 by (clear hn hz hlz hdp p1 p2 p3 p4 p5 lz hb hne2 hl2 nn nIL hcs8 lz8 hn0 tl8 hfl; omega))))
          try dsimp only
          have a11b := a11
          refine push_spec X1 T1 F11.keep a11b.acu a11b.adc z3 z4 p5 (by simp) (by (clear hn hz hlz p1 p2 p3 p4 p5 lz hb hne2 hl2 nn nIL hcs8 lz8 hn0 tl8 hfl ne0; omega)) (by (clear hn hz hlz hdp p1 p2 p3 p4 p5 lz hb hne2 hl2 nn nIL hcs8 lz8 hn0 tl8 hfl ne0; omega)) fun h12 tk12 TE12 kp12 e12 t12 => ?_
          have a12 := a11b.cu' o kp12 e12
          have F12 := fr_kept F11 N11 kp12 (fun b hb => by rw [List.mem_singleton.mp hb]; exact ⟨_, .tail _ (.tail _ (.tail _ (.head _)))⟩)
          have A12 : AllAt (TupAt h12) ([] ++ [.ref TE12]) ([(fw, st)].map ckd) := .cons ⟨TE12, _, 0, rfl, t12, .cons (.s _ _) (.cons (.s _ _) .nil)⟩ .nil
          clear F11 N11
          (repeat' (first | (k_unfold; (try dsimp only)) | ((with_reducible show wpAny _ _ (storeName _ _ _) _ _ _); (try dsimp only); walk1) | ((with_reducible show PySem.wpAt _ _ _ _ _ _ _); walk_at "wpAt") | ((fail_if_success (with_reducible refine Stop.go (by constructor) ?_)); first | walk1 | (dsimp only; walk1))))
          exact ret _ hR9 h12 g11 _ _ _ _ _ ps11 qs11 _ (a.keepOf o KP F12.keep a12) a12 hL11 A12 G11
        · rename_i e00 tkY hY F11b N11b
          have hR9 := chunkR_new (LS := LS) hcs2 hbig hcut hn0 (if_pos (str_empty (show fw.length = 0 by (clear hn hz hlz hdp p1 p2 p3 p4 p5 lz hb hne2 hl2 nn nIL hcs8 lz8 hn0 tl8 hfl; omega))))
          try dsimp only
          have a11b : FAt hY f fd dC q ls11 nl11 [] k11 hh tk0 0 tn11 ps11 qs11 := FAt.of N11b (fun p hp => hp) a11.atp a11.atq
          refine push_spec X1 T1 F11b.keep a11b.acu a11b.adc z3 z4 p5 (by simp) (by (clear hn hz hlz p1 p2 p3 p4 p5 lz hb hne2 hl2 nn nIL hcs8 lz8 hn0 tl8 hfl e00; omega)) (by (clear hn hz hlz hdp p1 p2 p3 p4 p5 lz hb hne2 hl2 nn nIL hcs8 lz8 hn0 tl8 hfl e00; omega)) fun h12 tk12 TE12 kp12 e12 t12 => ?_
          have a12 := a11b.cu' o kp12 e12
          have F12 := fr_kept F11b N11b kp12 (fun b hb => by rw [List.mem_singleton.mp hb]; exact ⟨_, .tail _ (.tail _ (.tail _ (.head _)))⟩)
          have A12 : AllAt (TupAt h12) ([] ++ [.ref TE12]) ([(Str.ofString " ", st)].map ckd) := .cons ⟨TE12, _, 0, rfl, t12, .cons (.s _ _) (.cons (.s _ _) .nil)⟩ .nil
          clear F11b N11b
          (repeat' (first | (k_unfold; (try dsimp only)) | ((with_reducible show wpAny _ _ (storeName _ _ _) _ _ _); (try dsimp only); walk1) | ((with_reducible show PySem.wpAt _ _ _ _ _ _ _); walk_at "wpAt") | ((fail_if_success (with_reducible refine Stop.go (by constructor) ?_)); first | walk1 | (dsimp only; walk1))))
          exact ret _ hR9 h12 g11 _ _ _ _ _ ps11 qs11 _ (a.keepOf o KP F12.keep a12) a12 hL11 A12 G11
      · rename_i hX h10 F10 N10 tkX hn0

        try dsimp only
        have A10 := hexx h10 F10.keep fun p hp => (N10 _ (.tail _ (.tail _ (.tail _ (.tail _ (.tail _ (.tail _ (.tail _ hp)))))))).1
        replace N10 : News g L h10 (fD f fd dC q ls nl vs8 k8 hh tk0 n tn ps4 qs) := fun p hp => N10 p (List.mem_append_left exx hp)
        have a10 : FAt h10 f fd dC q ls nl vs8 k8 hh tk0 n tn ps4 qs := FAt.of N10 (fun p hp => hp) a4.atp a4.atq
        refine push_spec X1 T1 F10.keep a10.acu a10.adc z3 z4 p5 (by (clear hn hz hlz hdp p1 p2 p3 p4 p5 lz hb hne2 hl2 nn nIL hcs8 hn0; omega)) (by (clear hn hz hlz p1 p2 p3 p4 p5 lz hb hne2 hl2 nn nIL hcs8 lz8 hn0; omega)) (by (clear hn hz hlz hdp p1 p2 p3 p4 p5 lz hb hne2 hl2 nn nIL hcs8 lz8 hn0; omega)) fun h12 tk12 TE12 kp12 e12 t12 => ?_
        have a12 := a10.cu' o kp12 e12
        have F12 := fr_kept F10 N10 kp12 (fun b hb => by rw [List.mem_singleton.mp hb]; exact ⟨_, .tail _ (.tail _ (.tail _ (.head _)))⟩)
        have A12 : AllAt (TupAt h12) (vs8 ++ [.ref TE12]) (cs2.map ckd) := by
          rw [← q2, List.map_append]
          exact (A10.mono fun _ _ z => tup_kept z kp12 N10 (fun b hb => by rw [List.mem_singleton.mp hb]; exact ⟨_, .tail _ (.tail _ (.tail _ (.head _))), by simp⟩)).append (.cons ⟨TE12, _, 0, rfl, t12, .cons (.s _ _) (.cons (.s _ _) .nil)⟩ .nil)
        clear F10 N10
        (repeat' (first | (k_unfold; (try dsimp only)) | ((with_reducible show wpAny _ _ (storeName _ _ _) _ _ _); (try dsimp only); walk1) | ((with_reducible show PySem.wpAt _ _ _ _ _ _ _); walk_at "wpAt") | ((fail_if_success (with_reducible refine Stop.go (by constructor) ?_)); first | walk1 | (dsimp only; walk1))))
        exact ret _ (chunkR_old (LS := LS) hcs2 hbig hcut hn0) h12 g4 _ _ _ _ _ ps4 qs _ (a.keepOf o KP F12.keep a12) a12 hLS A12 G4
  · have hR9 := chunkR_fit (sp := q.sp) (LS := LS) hcs2 (show n + tlen cs2 ≤ q.mx from (by (clear hn hz hlz hdp p1 p2 p3 p4 p5 lz hb hne2 hl2 nn; omega)))
    exact ret _ hR9 h4 g4 _ ls nl vs2 k2' ps4 qs tn (a.keepOf o KP F4.keep a4) a4 hLS A4 G4

end
/-- one piece more -/
def stepC (W : Int) (st : List Str × List (Str × Str) × Int) (p : Str) : List Str × List (Str × Str) × Int := chunkR (Str.ofString "/") W st.1 st.2.1 st.2.2 (Str.ofString "", p)
def foldC (W : Int) (pieces : List Str) : List Str × List (Str × Str) × Int := pieces.foldl (stepC W) ([], [], 0)
/-- the rows at the end -/
def rowsC (W : Int) (pieces : List Str) : List Str :=
  let st := foldC W pieces
  if 0 < st.2.2 + tlen (nlc st.2.1) then st.1 ++ [ctxt (nlc st.2.1)] else st.1
structure CInv (ps : List Str) (N : Nat) (st : List Str × List (Str × Str) × Int) : Prop where
  n0 : st.2.2 = 0
  cl : st.2.1.length ≤ N
  ll : st.1.length ≤ N
  mem : ∀ c ∈ st.2.1, c.1 = Str.ofString "" ∧ c.2 ∈ ps
  wt : tlen st.2.1 ≤ ((ps.map (·.length)).sum : Nat)
theorem tlen_append (a b : List (Str × Str)) : tlen (a ++ b) = tlen a + tlen b := by simp [tlen]
theorem tlen_drop (cs : List (Str × Str)) (j : Nat) : tlen (cs.drop j) ≤ tlen cs := by
  have h := tlen_append (cs.take j) (cs.drop j)
  rw [List.take_append_drop] at h
  have := tlen_nn (cs.take j)
  omega
theorem stepC_inv {ps : List Str} {N : Nat} {st : List Str × List (Str × Str) × Int} (W : Int) (h : CInv ps N st) (p : Str) : CInv (ps ++ [p]) (N + 1) (stepC W st p) := by
  obtain ⟨LS, cs, n⟩ := st
  obtain ⟨n0, cl, ll, mem, wt⟩ := h
  dsimp only at n0 cl ll mem wt
  subst n0
  have hc : clen (Str.ofString "", p) = (p.length : Int) := by
    show (((Str.ofString "").length + p.length : Nat) : Int) = _
    rw [show (Str.ofString "").length = 0 from rfl, Nat.zero_add]
  have wt2 : tlen (cs ++ [(Str.ofString "", p)]) ≤ (((ps ++ [p]).map (·.length)).sum : Nat) := by
    rw [tlen_snoc, hc, List.map_append, List.sum_append]
    simp only [List.map_cons, List.map_nil, List.sum_cons, List.sum_nil]
    (clear cl ll hc; omega)
  have mem2 : ∀ c ∈ cs ++ [(Str.ofString "", p)], c.1 = Str.ofString "" ∧ c.2 ∈ ps ++ [p] := fun c hc => by
    rcases List.mem_append.mp hc with hc | hc
    · exact ⟨(mem c hc).1, List.mem_append_left _ (mem c hc).2⟩
    · rw [List.mem_singleton.mp hc]; exact ⟨rfl, by simp⟩
  unfold stepC chunkR
  dsimp only
  split
  · exact ⟨rfl, by simp; (clear ll wt hc wt2; omega), by dsimp only; (clear cl wt hc wt2; omega), mem2, wt2⟩
  · cases hcut : cutAt (cs ++ [(Str.ofString "", p)]) (Str.ofString "/").cps.toList with
    | some i => exact ⟨rfl, by dsimp only; rw [List.length_drop, List.length_append, List.length_singleton]; (clear ll wt hc wt2; omega), by dsimp only; rw [List.length_append, List.length_singleton]; (clear cl wt hc wt2; omega), fun c hc => mem2 c (List.mem_of_mem_drop hc), Int.le_trans (tlen_drop _ _) wt2⟩
    | none =>
      dsimp only
      rw [if_neg (by decide)]
      exact ⟨rfl, by simp; (clear ll wt hc wt2; omega), by dsimp only; (clear cl wt hc wt2; omega), mem2, wt2⟩
theorem foldC_inv (W : Int) : ∀ (rest ps : List Str) (N : Nat) (st : List Str × List (Str × Str) × Int), CInv ps N st → CInv (ps ++ rest) (N + rest.length) (rest.foldl (stepC W) st)
  | [], ps, N, st, h => by simpa using h
  | p :: rest, ps, N, st, h => by
    have := foldC_inv W rest (ps ++ [p]) (N + 1) _ (stepC_inv W h p)
    rw [List.append_assoc] at this
    simp only [List.singleton_append] at this
    rw [List.foldl_cons, List.length_cons]
    rw [show N + (rest.length + 1) = N + 1 + rest.length by omega]
    exact this
theorem foldC_at (W : Int) (pieces : List Str) (i : Nat) : CInv (pieces.take i) (pieces.take i).length ((pieces.take i).foldl (stepC W) ([], [], 0)) := by
  have := foldC_inv W (pieces.take i) [] 0 ([], [], 0) ⟨rfl, Nat.le_refl _, Nat.le_refl _, (fun _ h => no_mem h), by simp [tlen]⟩
  simpa using this
theorem take_sum (l : List Str) (i : Nat) : ((l.take i).map (·.length)).sum ≤ (l.map (·.length)).sum := by
  have h : l.map (·.length) = (l.take i).map (·.length) ++ (l.drop i).map (·.length) := by rw [← List.map_append, List.take_append_drop]
  rw [h, List.sum_append]
  omega
theorem off5 {x a b c d e : Nat} (h1 : x ≠ a) (h2 : x ≠ b) (h3 : x ≠ c) (h4 : x ≠ d) (h5 : x ≠ e) : (x : Addr) ∉ ([a, b, c, d, e] : List Addr) := fun h => by
  simp only [List.mem_cons, List.not_mem_nil, or_false] at h
  rcases h with h | h | h | h | h
  · exact h1 h
  · exact h2 h
  · exact h3 h
  · exact h4 h
  · exact h5 h
theorem slash_plain {i c : Nat} (h : (Str.ofString "/").cps[i]? = some c) : Txt.isspace ⟨#[c]⟩ = false := by
  have e : (Str.ofString "/").cps = #[47] := by decide +kernel
  rw [e] at h
  have hi : i < 1 := by have := (Array.getElem?_eq_some_iff.mp h).1; simpa using this
  have : i = 0 := by omega
  subst this
  have : c = 47 := by simpa using h.symm
  subst this
  decide +kernel

section
variable {w : World} {mg mb : Str → Option Value} {mean : ExcName → Option Value} {dp un : Nat} {gd : Option (List Code)} {fr : List Env} {base : Heap} {s : Shared} {Q E : Value → Shared → Prop}
theorem folded_spec
  {pl : Addr} {pvs : List Value} {kp : Nat} {pieces : List Str} {W : Int} {tw : Tok} {ps qs : Array Value}
  (X : (Mine.heapK w.params).In base) (T : Top topProg GL mean mg mb base) (hS : base.StaysIn s.heap) (G : AllBare s.gens)
  (hp : s.heap.get? pl = some (listOf pvs.toArray kp)) (hbp : base.get? pl = none) (hA : StrsAre pvs pieces)
  (h140 : s.heap.get? 140 = some (tabObj ps)) (hb140 : base.get? 140 = none) (ht140 : TabOk posLen ps) (h147 : s.heap.get? 147 = some (tabObj qs)) (hb147 : base.get? 147 = none) (ht147 : TabOk posStr qs)
  (hn : pieces.length ≤ 200) (hsum : (pieces.map (·.length)).sum ≤ 10000) (hok : ∀ c ∈ pieces, PyData.strOk c = true)
  (hlow : @LT.lt Nat _ 147 pl)
  (how : ((decide (tlen (nlc (foldC W pieces).2.1) = 0) || Txt.isspace (ctxt (nlc (foldC W pieces).2.1)))) = false)
  (hjo : JoinOk (Str.ofString "|") (rowsC W pieces) = true) (hjl : (Txt.join (Str.ofString "|") (rowsC W pieces)).length ≤ 100000)
  (hdp : dp < 400) (_hu : un < 300)
  (ret : ∀ h' g' tk' R l, Keep [140, 147] s.heap h' → (∃ ps' qs', h'.get? 140 = some (tabObj ps') ∧ TabOk posLen ps' ∧ h'.get? 147 = some (tabObj qs') ∧ TabOk posStr qs') → AllBare g' → s.heap.get? R = none → h'.get? R = some (listOf (strValues l).toArray 0) → l.map (·.1) = Txt.split (Txt.join (Str.ofString "|") (rowsC W pieces)) (Str.ofString "|") → Q (.ref R) { s with heap := h', gens := g', toks := tk' }) :
  wpAny (model PySem.Challenge.rw_ik0220_01.row.prog w) (amb dp un gd fr) (call (.ref 332) [.ref pl, .int W tw]) Q E s := by
  revert X; k_fill; intro X
  refine wpAny_call ?_
  have XS := X.keeps hS
  k_dflt (refine' enterF [(Str.ofString "width", .int W tw), (Str.ofString "pieces", .ref pl)] [(pl, listOf pvs.toArray kp), (140, tabObj ps), (147, tabObj qs)] ?kX ?kT hS ?kD ?kho ?khcd ?kroom ?kb ?kl ?kr ?_ ?c1 ?c2 ?c3 ?c4; (
  (case kX => assumption); (case kT => assumption); (case kho => k_is); (case khcd => k_is); (case kb => first | exact BindsTo.of_eq rfl | exact binds_K (by k_in) rfl (by k_is) rfl rfl rfl);
  (case kl => exact locs rfl); (case kr => exact rfl); (case c1 => exact rfl); (case c2 => exact rfl); (case c3 => exact rfl); (case c4 => decide); (case kroom => first | exact rm0 hdp rfl | (simp only [recursionLimit]; omega))); (case kD => intro q hq'; rcases List.mem_cons.mp hq' with rfl | hq'; exact ⟨hp, hbp⟩; rcases List.mem_cons.mp hq' with rfl | hq'; exact ⟨h140, hb140⟩; rcases List.mem_singleton.mp hq' with rfl; exact ⟨h147, hb147⟩))
  intro g L h1 fr' tk F N X1 T1 KP LTs
  k_fold
  clear XS
  (repeat' (first | (k_unfold; (try dsimp only)) | ((with_reducible show wpAny _ _ (storeName _ _ _) _ _ _); (try dsimp only); walk1) | ((with_reducible show PySem.wpAt _ _ _ _ _ _ _); walk_at "wpAt") | ((fail_if_success (with_reducible refine Stop.go (by constructor) ?_)); first | walk1 | (dsimp only; walk1))))
  k_dflt (refine' call_clsS F X1 N ?k1 ?k2 ?k3 ?_; (case k1 => kernel_rfl); (case k2 => k_is); (case k3 => k_is))
  intro f fd h2 F2 N2 l2 l3 z2
  obtain ⟨ob6, e6⟩ : ∃ ob, g.get? 356 = some ob := ⟨_, X1 356 _ (by k_is)⟩
  have p0 : @LT.lt Nat _ 356 fd := z2 356 ob6 (F.keep _ _ e6)
  have l3' : @LT.lt Nat _ fd f := l3
  rw [under_make]
  refine finit_spec X1 T1 F2.keep (N2 _ (.head _)).1 (N2 _ (.tail _ (.head _))).1 (N2 _ (.head _)).2.2 (N2 _ (.tail _ (.head _))).2.2 l3 (by decide) (by (clear hn hsum hlow hjl l3 p0 l3'; omega)) (by (clear hn hsum hlow hjl hdp l3 p0 l3'; omega)) fun h3 tk3 q dC k3 hh tk0 tn0 kp3 e1 e2 e3 f3 d3 ln3 cu3 dc3 nl nc nd o2 o3 o4 => ?_
  refine ⟨rfl, ?_⟩
  dsimp only
  have hL2 : ∀ x, h2.get? x = none → x ≠ L := fun x e q9 => by
    obtain ⟨oL, es, ep, hl, -⟩ := F2.ns
    rw [q9, hl] at e; cases e
  have hg2 : ∀ x, h2.get? x = none → g.get? x = none := fun x e => by
    cases eg : g.get? x with
    | none => rfl
    | some o => rw [F2.keep _ _ eg] at e; cases e
  have F3 := Fr.re2 F2 N2 kp3 (.head _) (.tail _ (.head _))
  have kpx : ∀ b o, (b, o) ∈ [(pl, listOf pvs.toArray kp), (140, tabObj ps), (147, tabObj qs)] → h3.get? b = some o := fun b o hb => kp3 _ _ (fun hm => by
    have lt : @LT.lt Nat _ b fd := l2 _ hb
    simp only [List.mem_cons, List.not_mem_nil, or_false] at hm
    rcases hm with h | h
    · have h' : @Eq Nat b f := h
      (clear hn hsum hlow hjl hdp l3 p0 e1 o2 o3 o4 h; omega)
    · have h' : @Eq Nat b fd := h
      (clear hn hsum hlow hjl hdp l3 p0 l3' e1 o2 o3 o4 h; omega)) (N2 _ (.tail _ (.tail _ hb))).1
  have a3 : FAt h3 f fd dC q [] 0 [] k3 hh tk0 0 tn0 ps qs := ⟨f3, d3, ln3, cu3, dc3, kpx _ _ (.tail _ (.head _)), kpx _ _ (.tail _ (.tail _ (.head _))), ht140, ht147⟩
  have o1 : FOff g f fd dC q := ⟨(N2 _ (.head _)).2.2, (N2 _ (.tail _ (.head _))).2.2, hg2 _ nl, hg2 _ nc, hg2 _ nd, (N2 _ (.tail _ (.tail _ (.tail _ (.head _))))).2.2, (N2 _ (.tail _ (.tail _ (.tail _ (.tail _ (.head _)))))).2.2, by (clear hn hsum hlow hjl hdp l3 l3' e1 o2 o3 o4; omega), l3, o2, o3, o4⟩
  have N3 : News g L h3 ((pl, listOf pvs.toArray kp) :: fD f fd dC q [] 0 [] k3 hh tk0 0 tn0 ps qs) := fun p hp => by
    simp only [fD, List.mem_cons, List.not_mem_nil, or_false] at hp
    rcases hp with rfl | rfl | rfl | rfl | rfl | rfl | rfl | rfl
    · exact ⟨kpx _ _ (.head _), (N2 _ (.tail _ (.tail _ (.head _)))).2⟩
    · exact ⟨f3, (N2 _ (.head _)).2⟩
    · exact ⟨d3, (N2 _ (.tail _ (.head _))).2⟩
    · exact ⟨ln3, hL2 _ nl, hg2 _ nl⟩
    · exact ⟨cu3, hL2 _ nc, hg2 _ nc⟩
    · exact ⟨dc3, hL2 _ nd, hg2 _ nd⟩
    · exact ⟨kpx _ _ (.tail _ (.head _)), (N2 _ (.tail _ (.tail _ (.tail _ (.head _))))).2⟩
    · exact ⟨kpx _ _ (.tail _ (.tail _ (.head _))), (N2 _ (.tail _ (.tail _ (.tail _ (.tail _ (.head _)))))).2⟩
  have pf : @LT.lt Nat _ pl fd := l2 _ (.head _)
  clear F N F2 N2 kpx
  (repeat' (first | (k_unfold; (try dsimp only)) | ((with_reducible show wpAny _ _ (storeName _ _ _) _ _ _); (try dsimp only); walk1) | ((with_reducible show PySem.wpAt _ _ _ _ _ _ _); walk_at "wpAt") | ((fail_if_success (with_reducible refine Stop.go (by constructor) ?_)); first | walk1 | (dsimp only; walk1))))
  rename_i h4 F4 N4
  refine for_list g L pl pvs kp (fun i g' m news => AllBare g' ∧ ∃ u ls nl vs k tn ps qs ex, m = KF [(Str.ofString "maker", .ref f)] u ∧ news = fD f fd dC q ls nl vs k hh tk0 0 tn ps qs ++ ex ∧ TabOk posLen ps ∧ TabOk posStr qs ∧ StrsAre ls ((pieces.take i).foldl (stepC W) ([], [], 0)).1 ∧
    (∀ h', (∀ b ob, g.get? b = some ob → h'.get? b = some ob) → (∀ p ∈ ex, h'.get? p.1 = some p.2) → AllAt (TupAt h') vs (((pieces.take i).foldl (stepC W) ([], [], 0)).2.1.map ckd)) ∧ ∀ p ∈ ex, p.2.cls = .type "tuple") rfl (toKF [(Str.ofString "maker", .ref f)] F4 ⟨rfl, trivial⟩) N4 ⟨G, _, [], 0, [], k3, tn0, ps, qs, [], rfl, by simp, ht140, ht147, .nil, (fun _ _ _ => .nil), fun _ hp => no_mem hp⟩ ?_ ?_ ?_ ?_
  · rintro i g' m news ⟨-, u, ls, nl, vs, k, tn, ps, qs, ex, -, rfl, -, -, -, -, cx⟩ p hp
    rcases List.mem_append.mp hp with hp | hp
    · simp only [fD, List.mem_cons, List.not_mem_nil, or_false] at hp
      rcases hp with rfl | rfl | rfl | rfl | rfl | rfl | rfl <;> simp
    · rw [cx p hp]; simp
  · (repeat' (first | (k_unfold; (try dsimp only)) | ((with_reducible show wpAny _ _ (storeName _ _ _) _ _ _); (try dsimp only); walk1) | ((with_reducible show PySem.wpAt _ _ _ _ _ _ _); walk_at "wpAt") | ((fail_if_success (with_reducible refine Stop.go (by constructor) ?_)); first | walk1 | (dsimp only; walk1))))
    try exact ⟨rfl, rfl⟩
  · rintro i v h' g' tk9 m news oI hv ⟨G9, u, ls, nl9, vs, k, tn, ps9, qs9, ex, rfl, rfl, t140, t147, hls, hex, cx⟩ F7 N7 lI
    obtain ⟨c, tc, rfl, hc⟩ := hA.at' hv
    generalize hst : (pieces.take i).foldl (stepC W) ([], [], 0) = st at hls hex
    have inv := foldC_at W pieces i
    rw [hst] at inv
    obtain ⟨LS, cs, n9⟩ := st
    have n0 : n9 = 0 := inv.n0
    subst n0
    dsimp only at hls hex
    clear F4 N4
    have q1 : @LT.lt Nat _ f h4.objs.size := lI _ (.tail _ (.head _))
    have q2 : @LT.lt Nat _ q.ln h4.objs.size := lI _ (.tail _ (.tail _ (.tail _ (.head _))))
    have q3 : @LT.lt Nat _ q.cu h4.objs.size := lI _ (.tail _ (.tail _ (.tail _ (.tail _ (.head _)))))
    have o2' : @LT.lt Nat _ f q.ln := o2
    have o3' : @LT.lt Nat _ q.ln dC := o3
    have o4' : @LT.lt Nat _ dC q.cu := o4
    unfold fD at N7
    dsimp only [List.cons_append, List.nil_append] at N7
    (repeat' (first | (k_unfold; (try dsimp only)) | ((with_reducible show wpAny _ _ (storeName _ _ _) _ _ _); (try dsimp only); walk1) | ((with_reducible show PySem.wpAt _ _ _ _ _ _ _); walk_at "wpAt") | ((fail_if_success (with_reducible refine Stop.go (by constructor) ?_)); first | walk1 | (dsimp only; walk1))))
    rename_i h8 F8 N8
    try dsimp only at N8
    have A8 := hex h8 F8.keep fun p hp => (N8 p (.tail _ (.tail _ (List.mem_append_right (fD f fd dC q ls nl9 vs k hh tk0 0 tn ps9 qs9) hp)))).1
    have N8f : News g L h8 (fD f fd dC q ls nl9 vs k hh tk0 0 tn ps9 qs9) := fun p hp => N8 p (.tail _ (.tail _ (List.mem_append_left ex hp)))
    have a8 : FAt h8 f fd dC q ls nl9 vs k hh tk0 0 tn ps9 qs9 := FAt.of N8f (fun p hp => hp) t140 t147
    have eI := (N8 _ (.head _)).1
    have eP := (N8 _ (.tail _ (.head _))).1
    have zI := (N8 _ (.head _)).2
    have zP := (N8 _ (.tail _ (.head _))).2
    have hcl : c.length ≤ 10000 := Nat.le_trans (sum_mem (List.mem_of_getElem? hc)) hsum
    have htl : (pieces.take i).length ≤ 200 := by rw [List.length_take]; (clear hsum hlow hjl hdp l3 p0 l3' e1 o2 o3 o4 pf q1 q2 q3 o2' o3' o4' zI zP hcl; omega)
    have hts := take_sum pieces i
    have hlc : cs.length ≤ 200 := Nat.le_trans inv.cl htl
    have hll : LS.length ≤ 200 := Nat.le_trans inv.ll htl
    have hwt0 := inv.wt
    have hwt : tlen (cs ++ [(Str.ofString "", c)]) ≤ 1000000 := by
      rw [tlen_snoc]
      have hc0 : clen (Str.ofString "", c) = (((Str.ofString "").length + c.length : Nat) : Int) := rfl
      rw [show (Str.ofString "").length = 0 from rfl, Nat.zero_add] at hc0
      dsimp only at hwt0
      (clear hn hlow hjl hdp l3 p0 l3' e1 o2 o3 o4 pf q1 q2 q3 o2' o3' o4' zI zP htl hlc hll; omega)
    have hvl : vs.length = cs.length := by simpa using A8.length
    have hmem : ∀ c' ∈ cs ++ [(Str.ofString "", c)], PyData.strOk c'.1 = true ∧ PyData.strOk c'.2 = true := fun c' hc' => by
      rcases List.mem_append.mp hc' with h | h
      · obtain ⟨m1, m2⟩ := inv.mem c' h
        exact ⟨by rw [m1]; decide +kernel, hok _ (List.mem_of_mem_take m2)⟩
      · rw [List.mem_singleton.mp h]
        exact ⟨show PyData.strOk (Str.ofString "") = true by decide +kernel, hok _ (List.mem_of_getElem? hc)⟩
    refine chunk_spec (cs := cs) (LS := LS) (fw := Str.ofString "") (st := c) X1 T1 F8.keep G9 a8 o1 A8 hwt ⟨Int.le_refl _, by (clear hn hsum hlow hjl hdp l3 p0 l3' e1 o2 o3 o4 pf q1 q2 q3 o2' o3' o4' zI zP hcl htl hts hlc hll hwt0 hwt hvl; omega)⟩ (by (clear hn hsum hlow hjl hdp l3 p0 l3' e1 o2 o3 o4 pf q1 q2 q3 o2' o3' o4' zI zP hcl htl hts hll hwt0 hwt; omega)) hls (by have := hls.length; (clear hn hsum hlow hjl hdp l3 p0 l3' e1 o2 o3 o4 pf q1 q2 q3 o2' o3' o4' zI zP hcl htl hts hlc hwt0 hwt hvl; omega)) hmem (fun i c hc => by rw [e3] at hc; exact slash_plain hc) (by (clear hn hsum hlow hjl l3 p0 l3' e1 o2 o3 o4 pf q1 q2 q3 o2' o3' o4' zI zP hcl htl hts hlc hll hwt0 hwt hvl; omega)) (by (clear hn hsum hlow hjl hdp l3 p0 l3' e1 o2 o3 o4 pf q1 q2 q3 o2' o3' o4' zI zP hcl htl hts hlc hll hwt0 hwt hvl; omega)) fun h9 g9 tk9 ls9 nlb vs9 k9 psb qsb tn9 kp9 a9 hl9 A9 G9' => ?_
    rw [e3, e1] at a9 hl9 A9
    have hs : chunkR (Str.ofString "/") W LS cs 0 (Str.ofString "", c) = stepC W (LS, cs, 0) c := rfl
    rw [hs] at a9 hl9 A9
    have hst' : (pieces.take (i + 1)).foldl (stepC W) ([], [], 0) = stepC W (LS, cs, 0) c := by rw [take_succ_at hc, List.foldl_append, hst]; rfl
    have inv' := (foldC_at W pieces (i + 1)).n0
    rw [hst'] at inv'
    rw [inv'] at a9
    have F9 := fr_kept F8 N8f kp9 (fun b hb => by
      simp only [List.mem_cons, List.not_mem_nil, or_false] at hb
      rcases hb with rfl | rfl | rfl | rfl | rfl
      · exact ⟨_, .tail _ (.tail _ (.head _))⟩
      · exact ⟨_, .tail _ (.tail _ (.tail _ (.head _)))⟩
      · exact ⟨_, .tail _ (.tail _ (.tail _ (.tail _ (.head _))))⟩
      · exact ⟨_, .tail _ (.tail _ (.tail _ (.tail _ (.tail _ (.head _)))))⟩
      · exact ⟨_, .tail _ (.tail _ (.tail _ (.tail _ (.tail _ (.tail _ (.head _))))))⟩)
    have N9f := a9.news N8f (fun p hp => hp)
    obtain ⟨ex9, hex9, Nx9, cx9⟩ := all_tail2 F9 A9
    have eI9 := kp9 _ _ (off5 (x := h4.objs.size) (by (clear hn hsum hlow hjl hdp l3 p0 l3' e1 o2 o3 o4 pf q1 q3 o2' o3' o4' zI zP hcl htl hts hlc hll hwt0 hwt hvl inv'; omega)) (by (clear hn hsum hlow hjl hdp l3 p0 l3' e1 o2 o3 o4 pf q1 q2 o2' o3' o4' zI zP hcl htl hts hlc hll hwt0 hwt hvl inv'; omega)) (by (clear hn hsum hlow hjl hdp l3 p0 l3' e1 o2 o3 pf q1 q2 o2' o3' o4' zI zP hcl htl hts hlc hll hwt0 hwt hvl inv'; omega)) (by (clear hn hsum hlow hjl hdp l3 e1 o2 o3 o4 pf q2 q3 o2' o3' o4' zI zP hcl htl hts hlc hll hwt0 hwt hvl inv'; omega)) (by (clear hn hsum hlow hjl hdp l3 e1 o2 o3 o4 pf q2 q3 o2' o3' o4' zI zP hcl htl hts hlc hll hwt0 hwt hvl inv'; omega))) eI
    have eP9 := kp9 _ _ (off5 (x := pl) (by (clear hn hsum hlow hjl hdp l3 p0 e1 o3 o4 q1 q2 q3 o2' o3' o4' zI zP hcl htl hts hlc hll hwt0 hwt hvl inv'; omega)) (by (clear hn hsum hlow hjl hdp l3 p0 e1 q1 q2 q3 o2' o3' o4' zI zP hcl htl hts hlc hll hwt0 hwt hvl inv'; omega)) (by (clear hn hsum hlow hjl hdp l3 p0 e1 o4 q1 q2 q3 o2' o3' o4' zI zP hcl htl hts hlc hll hwt0 hwt hvl inv'; omega)) (by (clear hn hsum hjl hdp l3 p0 l3' e1 o2 o3 o4 pf q1 q2 q3 o2' o3' o4' zI zP hcl htl hts hlc hll hwt0 hwt hvl inv'; omega)) (by (clear hn hsum hjl hdp l3 p0 l3' e1 o2 o3 o4 pf q1 q2 q3 o2' o3' o4' zI zP hcl htl hts hlc hll hwt0 hwt hvl inv'; omega))) eP
    have N9 : News g L h9 ((h4.objs.size, oI) :: (pl, listOf pvs.toArray kp) :: (fD f fd dC q ls9 nlb vs9 k9 hh tk0 0 tn9 psb qsb ++ ex9)) := News.cons (News.cons (Mine.News.app N9f Nx9) eP9 zP.2 zP.1) eI9 zI.2 zI.1
    clear F8 N8 N8f N9f Nx9 eI eP
    (repeat' (first | (k_unfold; (try dsimp only)) | ((with_reducible show wpAny _ _ (storeName _ _ _) _ _ _); (try dsimp only); walk1) | ((with_reducible show PySem.wpAt _ _ _ _ _ _ _); walk_at "wpAt") | ((fail_if_success (with_reducible refine Stop.go (by constructor) ?_)); first | walk1 | (dsimp only; walk1))))
    exact LpP.next (news := fD f fd dC q ls9 nlb vs9 k9 hh tk0 0 tn9 psb qsb ++ ex9) (toKF [(Str.ofString "maker", .ref f)] F9 ⟨rfl, trivial⟩) N9 ⟨G9', _, ls9, nlb, vs9, k9, tn9, psb, qsb, ex9, rfl, rfl, a9.atp, a9.atq, by rw [hst']; exact hl9, by rw [hst']; exact hex9, cx9⟩
  · rintro h' g' tk9 m news ⟨G9, u, ls, nl9, vs, k, tn, ps9, qs9, ex, rfl, rfl, t140, t147, hls, hex, cx⟩ F7 N7
    have htake : pieces.take pvs.length = pieces := List.take_of_length_le (by rw [hA.length]; exact Nat.le_refl _)
    rw [htake] at hls hex
    have inv := foldC_at W pieces pieces.length
    rw [List.take_length] at inv
    have hfold : foldC W pieces = pieces.foldl (stepC W) ([], [], 0) := rfl
    have hrow : rowsC W pieces = if 0 < (foldC W pieces).2.2 + tlen (nlc (foldC W pieces).2.1) then (foldC W pieces).1 ++ [ctxt (nlc (foldC W pieces).2.1)] else (foldC W pieces).1 := rfl
    rw [hrow] at ret hjo hjl
    clear hrow
    rw [hfold] at ret hjo hjl how
    generalize hst : pieces.foldl (stepC W) ([], [], 0) = st at *
    obtain ⟨LS, cs, n9⟩ := st
    have n0 : n9 = 0 := inv.n0
    subst n0
    dsimp only at hls hex
    dsimp only at ret hjo hjl how
    clear F4 N4
    have o2' : @LT.lt Nat _ f q.ln := o2
    have o3' : @LT.lt Nat _ q.ln dC := o3
    have o4' : @LT.lt Nat _ dC q.cu := o4
    have A7 := hex h' F7.keep fun p hp => (N7 p (.tail _ (List.mem_append_right (fD f fd dC q ls nl9 vs k hh tk0 0 tn ps9 qs9) hp))).1
    have N7f : News g L h' (fD f fd dC q ls nl9 vs k hh tk0 0 tn ps9 qs9) := fun p hp => N7 p (.tail _ (List.mem_append_left ex hp))
    have a7 : FAt h' f fd dC q ls nl9 vs k hh tk0 0 tn ps9 qs9 := FAt.of N7f (fun p hp => hp) t140 t147
    have eP := (N7 _ (.head _)).1
    have zP := (N7 _ (.head _)).2
    have hlc : cs.length ≤ 200 := Nat.le_trans inv.cl hn
    have hll : LS.length ≤ 200 := Nat.le_trans inv.ll hn
    have hwt0 := inv.wt
    dsimp only at hwt0
    have hvl : vs.length = cs.length := by simpa using A7.length
    unfold fD at N7
    dsimp only [List.cons_append, List.nil_append] at N7
    (repeat' (first | (k_unfold; (try dsimp only)) | ((with_reducible show wpAny _ _ (storeName _ _ _) _ _ _); (try dsimp only); walk1) | ((with_reducible show PySem.wpAt _ _ _ _ _ _ _); walk_at "wpAt") | ((fail_if_success (with_reducible refine Stop.go (by constructor) ?_)); first | walk1 | (dsimp only; walk1))))
    refine fstr_spec (cs := cs) (LS := LS) X1 T1 F7.keep G9 a7 o1 A7 (by (clear hn hlow hdp l3 p0 l3' e1 o2 o3 o4 pf hjl o2' o3' o4' zP hlc hll hvl; omega)) ⟨Int.le_refl _, by (clear hn hsum hlow hdp l3 p0 l3' e1 o2 o3 o4 pf hjl o2' o3' o4' zP hlc hll hwt0 hvl; omega)⟩ (by (clear hn hsum hlow hdp l3 p0 l3' e1 o2 o3 o4 pf hjl o2' o3' o4' zP hll hwt0; omega)) (fun c' h => by
        obtain ⟨m1, m2⟩ := inv.mem c' h
        exact ⟨by rw [m1]; decide +kernel, hok _ m2⟩) hls (by have := hls.length; (clear hn hsum hlow hdp l3 p0 l3' e1 o2 o3 o4 pf hjl o2' o3' o4' zP hlc hwt0 hvl; omega)) (by rw [how]; rfl) hjo (by (clear hn hsum hlow l3 p0 l3' e1 o2 o3 o4 pf hjl o2' o3' o4' zP hlc hll hwt0 hvl; omega)) (by (clear hn hsum hlow hdp l3 p0 l3' e1 o2 o3 o4 pf hjl o2' o3' o4' zP hlc hll hwt0 hvl; omega)) fun h9 g9 tk9 t9 kp9 tabs9 G9' => ?_
    have F9 := fr_kept F7 N7f kp9 (fun b hb => by
      simp only [List.mem_cons, List.not_mem_nil, or_false] at hb
      rcases hb with rfl | rfl | rfl | rfl | rfl
      · exact ⟨_, .tail _ (.tail _ (.head _))⟩
      · exact ⟨_, .tail _ (.tail _ (.tail _ (.head _)))⟩
      · exact ⟨_, .tail _ (.tail _ (.tail _ (.tail _ (.head _))))⟩
      · exact ⟨_, .tail _ (.tail _ (.tail _ (.tail _ (.tail _ (.head _)))))⟩
      · exact ⟨_, .tail _ (.tail _ (.tail _ (.tail _ (.tail _ (.tail _ (.head _))))))⟩)
    have eP9 := kp9 _ _ (off5 (x := pl) (by (clear hn hsum hlow hdp l3 p0 e1 o3 o4 hjl o2' o3' o4' zP hlc hll hwt0 hvl; omega)) (by (clear hn hsum hlow hdp l3 p0 e1 hjl o2' o3' o4' zP hlc hll hwt0 hvl; omega)) (by (clear hn hsum hlow hdp l3 p0 e1 o4 hjl o2' o3' o4' zP hlc hll hwt0 hvl; omega)) (by (clear hn hsum hdp l3 p0 l3' e1 o2 o3 o4 pf hjl o2' o3' o4' zP hlc hll hwt0 hvl; omega)) (by (clear hn hsum hdp l3 p0 l3' e1 o2 o3 o4 pf hjl o2' o3' o4' zP hlc hll hwt0 hvl; omega))) eP
    obtain ⟨ps', qs', e140, u140, e147, u147⟩ := tabs9
    have N9 : News g L h9 [(pl, listOf pvs.toArray kp), (140, tabObj ps'), (147, tabObj qs')] := News.cons (News.cons (News.cons (fun _ hp => no_mem hp) e147 o1.bq (N7f _ (.tail _ (.tail _ (.tail _ (.tail _ (.tail _ (.tail _ (.head _)))))))).2.1) e140 o1.bp (N7f _ (.tail _ (.tail _ (.tail _ (.tail _ (.tail _ (.head _))))))).2.1) eP9 zP.2 zP.1
    clear F7 N7 N7f eP
    (repeat' (first | (k_unfold; (try dsimp only)) | ((with_reducible show wpAny _ _ (storeName _ _ _) _ _ _); (try dsimp only); walk1) | ((with_reducible show PySem.wpAt _ _ _ _ _ _ _); walk_at "wpAt") | ((fail_if_success (with_reducible refine Stop.go (by constructor) ?_)); first | walk1 | (dsimp only; walk1))))
    rename_i _ _ l hX kX el _ _ eR F10 N10
    refine ret hX g9 _ h9.objs.size l (keep_of (D := [(pl, listOf pvs.toArray kp), (140, tabObj ps), (147, tabObj qs)]) (fun q hq => ?_) KP F10.keep fun q hq hn' => ?_) ⟨ps', qs', (N10 _ (.tail _ (.tail _ (.head _)))).1, u140, (N10 _ (.tail _ (.tail _ (.tail _ (.head _))))).1, u147⟩ G9' (keep_none KP (N10 _ (.head _)).2.2 fun hm => ?_) (N10 _ (.head _)).1 el
    · simp only [List.mem_cons, List.not_mem_nil, or_false] at hq
      rcases hq with rfl | rfl | rfl
      · exact hp
      · exact h140
      · exact h147
    · simp only [List.mem_cons, List.not_mem_nil, or_false] at hq
      rcases hq with rfl | rfl | rfl
      · exact (N10 _ (.tail _ (.head _))).1
      · exact absurd (by simp) hn'
      · exact absurd (by simp) hn'
    · have z1 : @LT.lt Nat _ pl h9.objs.size := Heap.lt_size eP9
      have z2 : @LT.lt Nat _ 140 h9.objs.size := Heap.lt_size e140
      have z3 : @LT.lt Nat _ 147 h9.objs.size := Heap.lt_size e147
      simp only [List.map_cons, List.map_nil, List.mem_cons, List.not_mem_nil, or_false] at hm
      rcases hm with h | h | h <;> (have h' : @Eq Nat _ _ := h; (clear hn hsum hlow hdp l3 p0 l3' e1 o2 o3 o4 pf hjl o2' o3' o4' zP hlc hll hwt0 hvl z2 h; omega))

end
abbrev tri (x : Tri) : List Pv := [.i x.1, .i (x.2.1 : Int), .i (x.2.2 : Int)]
abbrev prI (x : Nat × Nat) : Int × Int := ((x.1 : Int), (x.2 : Int))
abbrev pr (x : Nat × Nat) : List Pv := [.i (x.1 : Int), .i (x.2 : Int)]
theorem pr_map (l : List (Nat × Nat)) : l.map pr = (l.map prI).map fun x => ([.i x.1, .i x.2] : List Pv) := by rw [List.map_map]; rfl
abbrev segS (zs : List Int) : Nat → Nat → Int := fun d e => ((zs.drop d).take (e - d)).sum
theorem TupAt.triple {h : Heap} {v : Value} {x : Tri} (z : TupAt h v (tri x)) : ∃ T t1 t2 t3, v = .ref T ∧ h.IsTuple T #[.int x.1 t1, .int (x.2.1 : Int) t2, .int (x.2.2 : Int) t3] := by
  obtain ⟨a, vs, n, rfl, g, p⟩ := z
  cases p with
  | cons h1 p => cases p with
    | cons h2 p => cases p with
      | cons h3 p => cases p; cases h1; cases h2; cases h3; exact ⟨a, _, _, _, rfl, _, g, rfl, n, rfl⟩
theorem tri_inj {x y : Tri} (h : tri x = tri y) : x = y := by
  obtain ⟨a, b, c⟩ := x
  obtain ⟨d, e, f⟩ := y
  simp only [tri, List.cons.injEq, Pv.i.injEq, and_true] at h
  obtain ⟨h1, h2, h3⟩ := h
  simp only [Prod.mk.injEq]
  exact ⟨h1, by (clear h1 h3; omega), by (clear h1 h2; omega)⟩
/-- lists of triples in another order are lists of triples -/
theorem perm_tri {ds : List (List Pv)} {O : List Tri} (h : ds.Perm (O.map tri)) : ∃ O' : List Tri, O'.Perm O ∧ ds = O'.map tri := by
  have hm : ∀ d ∈ ds, ∃ x, d = tri x := fun d hd => by
    obtain ⟨x, -, e⟩ := List.mem_map.mp (h.subset hd)
    exact ⟨x, e.symm⟩
  obtain ⟨O', rfl⟩ : ∃ O' : List Tri, ds = O'.map tri := by
    clear h
    induction ds with
    | nil => exact ⟨[], rfl⟩
    | cons d ds ih =>
      obtain ⟨x, rfl⟩ := hm d (.head _)
      obtain ⟨O', e⟩ := ih fun d hd => hm d (.tail _ hd)
      exact ⟨x :: O', by rw [e]; rfl⟩
  refine ⟨O', ?_, rfl⟩
  refine List.perm_iff_count.mpr fun x => ?_
  have hc := List.perm_iff_count.mp h (tri x)
  have e : ∀ l : List Tri, (l.map tri).count (tri x) = l.count x := fun l => by
    induction l with
    | nil => rfl
    | cons y l ih =>
      rw [List.map_cons, List.count_cons, List.count_cons, ih]
      congr 1
      by_cases hy : y = x
      · subst hy; simp
      · have h1 : (y == x) = false := by simpa using hy
        have h2 : (tri y == tri x) = false := by
          refine beq_eq_false_iff_ne.mpr fun q => hy (tri_inj q)
        rw [h1, h2]
  rw [e, e] at hc
  exact hc
theorem tri_min {x y : Tri} (h : lexLt (tri y) (tri x) = false) : x.1 ≤ y.1 := by
  obtain ⟨a, b, c⟩ := x
  obtain ⟨d, e, f⟩ := y
  simp only [tri, lexLt] at h
  by_cases hd : d = a
  · subst hd; exact Int.le_refl _
  · rw [if_neg (by simpa using hd)] at h
    simp only [Pv.lt, decide_eq_false_iff_not] at h
    dsimp only
    (clear hd; omega)
/-- rows of tuples as a tail, twice -/
theorem off_list {g h : Heap} {L a : Addr} {xs : Array Value} {n : Nat} {news : List (Addr × Obj)} {p : Addr × Obj} (N : News g L h news) (hp : p ∈ news) (c : p.2.cls = .type "tuple") (e : h.get? a = some (listOf xs n)) : p.1 ≠ a := fun q => by
  have z := (N p hp).1
  rw [q, e] at z
  rw [← Option.some.inj z] at c
  simp at c
theorem sum_bound {l : List Int} {B : Int} (h : ∀ z ∈ l, 0 ≤ z ∧ z ≤ B) : 0 ≤ l.sum ∧ l.sum ≤ B * l.length := by
  induction l with
  | nil => simp
  | cons a r ih =>
    have h1 := h a (.head _)
    obtain ⟨h2, h3⟩ := ih fun z hz => h z (.tail _ hz)
    rw [List.sum_cons, List.length_cons]
    have e : B * ((r.length + 1 : Nat) : Int) = B * r.length + B := by rw [Int.natCast_add, Int.mul_add]; simp
    rw [e]
    omega
theorem Reach.bound {zs : List Int} {n : Nat} {w : Int} {d u : Nat} (hn : zs.length ≤ 50) (hp : ∀ z ∈ zs, 0 ≤ z ∧ z ≤ 1000) (r : Reach (segS zs) n w d u) : w ≤ 50000 := by
  induction r with
  | z => decide
  | @s w d u e r hd he ih =>
    have h := sum_bound (l := (zs.drop d).take (e - d)) (B := 1000) fun z hz => hp z (List.mem_of_mem_drop (List.mem_of_mem_take hz))
    have hl : ((zs.drop d).take (e - d)).length ≤ 50 := by rw [List.length_take, List.length_drop]; (clear he ih h; omega)
    have : segS zs d e ≤ 50000 := by
      show ((zs.drop d).take (e - d)).sum ≤ 50000
      (clear hn hd he ih; omega)
    (clear hn hd he h hl; omega)
/-- the loop of the search: what holds at its head -/
inductive WInv (g : Heap) (L : Addr) (s : Shared) (zl oa sa : Addr) (zvs : List Value) (kz : Nat) (zs : List Int) (A : Nat) (tA : Tok) : Nat → Shared → Prop
  | mk {h : Heap} {tk : Nat} {u : Str → Option Value} {O : List Tri} {Sd : List (Nat × Nat)} {cur : Int} {ovs svs : List Value} {kO kS : Nat} {ex : List (Addr × Obj)} {mm : Nat} :
    Fr g L h (KF [(Str.ofString "sizes", .ref zl), (Str.ofString "allowed", .int (A : Int) tA), (Str.ofString "open_cuts", .ref oa), (Str.ofString "settled", .ref sa)] u) →
    News g L h ((sa, listOf svs.toArray kS) :: (oa, listOf ovs.toArray kO) :: (zl, listOf zvs.toArray kz) :: ex) → (∀ p ∈ ex, p.2.cls = .type "tuple") →
    (∀ h', (∀ b ob, g.get? b = some ob → h'.get? b = some ob) → (∀ p ∈ ex, h'.get? p.1 = some p.2) → AllAt (TupAt h') ovs (O.map tri) ∧ AllAt (TupAt h') svs (Sd.map pr)) →
    HeapOk lexLt (O.map tri) → SInv (segS zs) zs.length A O Sd cur → (∀ M k, Reach (segS zs) zs.length M zs.length k → k ≤ A → cur ≤ M) →
    mm = (zs.length * A - Sd.length) * (zs.length + 1) + O.length → mm ≤ 130000 →
    WInv g L s zl oa sa zvs kz zs A tA mm { s with heap := h, toks := tk }
theorem two_tail {g h : Heap} {L : Addr} {m : Str → Option Value} {vs ws : List Value} {ds es : List (List Pv)} (F : Fr g L h m) (z : AllAt (TupAt h) vs ds) (y : AllAt (TupAt h) ws es) :
    ∃ ex : List (Addr × Obj), (∀ h', (∀ b ob, g.get? b = some ob → h'.get? b = some ob) → (∀ p ∈ ex, h'.get? p.1 = some p.2) → AllAt (TupAt h') vs ds ∧ AllAt (TupAt h') ws es) ∧ News g L h ex ∧ ∀ p ∈ ex, p.2.cls = .type "tuple" := by
  obtain ⟨e1, h1, n1, c1⟩ := all_tail2 F z
  obtain ⟨e2, h2, n2, c2⟩ := all_tail2 F y
  exact ⟨e1 ++ e2, fun h' k x => ⟨h1 h' k fun p hp => x p (List.mem_append_left _ hp), h2 h' k fun p hp => x p (List.mem_append_right _ hp)⟩, Mine.News.app n1 n2, fun p hp => (List.mem_append.mp hp).elim (c1 p) (c2 p)⟩
theorem meas_bound {n A : Nat} (hn : n ≤ 50) (hA : A ≤ 50) : (n * A) * (n + 1) ≤ 127500 := by
  have h1 : n * A ≤ 2500 := Nat.mul_le_mul hn hA
  calc (n * A) * (n + 1) ≤ 2500 * 51 := Nat.mul_le_mul h1 (by (clear hA h1; omega))
    _ = 127500 := rfl
theorem pr_contains (l : List (Nat × Nat)) (d u : Nat) : (l.map prI).contains ((d : Int), (u : Int)) = decide ((d, u) ∈ l) := by
  induction l with
  | nil => simp
  | cons x r ih =>
    rw [List.map_cons, List.contains_cons, ih]
    obtain ⟨a, b⟩ := x
    by_cases hc : d = a ∧ u = b
    · obtain ⟨rfl, rfl⟩ := hc
      simp [prI]
    · have h1 : (((d : Int), (u : Int)) == prI (a, b)) = false := by
        refine beq_eq_false_iff_ne.mpr fun q => hc ?_
        simp only [prI, Prod.mk.injEq] at q
        exact ⟨by (clear hc; omega), by (clear hc; omega)⟩
      rw [h1, Bool.false_or]
      have h2 : (d, u) ∈ (a, b) :: r ↔ (d, u) ∈ r := by
        rw [List.mem_cons]
        refine ⟨fun h => h.elim (fun q => ?_) id, .inr⟩
        simp only [Prod.mk.injEq] at q
        exact absurd q hc
      exact (decide_eq_decide.mpr h2).symm
/-- the inner loop of the search -/
structure LJ (g : Heap) (L : Addr) (s : Shared) (zl oa sa : Addr) (zvs : List Value) (kz : Nat) (zs : List Int) (A : Nat) (tA : Tok) (svs : List Value) (kS : Nat) (Sd : List (Nat × Nat)) (O' : List Tri) (wd : Int) (dn us : Nat) (x1 x2 x3 : Tok) (i : Nat) (g' : Array GenState) (m : Str → Option Value) (news : List (Addr × Obj)) : Prop where
  gens : g' = s.gens
  rest : ∃ (u : Str → Option Value) (ovs : List Value) (kO : Nat) (ex : List (Addr × Obj)) (O : List Tri), m = KF [(Str.ofString "sizes", .ref zl), (Str.ofString "allowed", .int (A : Int) tA), (Str.ofString "open_cuts", .ref oa), (Str.ofString "settled", .ref sa), (Str.ofString "wide", .int wd x1), (Str.ofString "done", .int (dn : Int) x2), (Str.ofString "used", .int (us : Int) x3)] u ∧
    news = (oa, listOf ovs.toArray kO) :: (sa, listOf svs.toArray kS) :: (zl, listOf zvs.toArray kz) :: ex ∧ (∀ p ∈ ex, p.2.cls = .type "tuple") ∧
    (∀ h', (∀ b ob, g.get? b = some ob → h'.get? b = some ob) → (∀ p ∈ ex, h'.get? p.1 = some p.2) → AllAt (TupAt h') ovs (O.map tri) ∧ AllAt (TupAt h') svs (Sd.map pr)) ∧
    HeapOk lexLt (O.map tri) ∧ (∀ x, x ∈ O ↔ x ∈ O' ∨ ∃ e, dn < e ∧ e ≤ dn + i ∧ x = (max wd (segS zs dn e), e, us + 1)) ∧ O.length = O'.length + i
theorem range_up (d n : Nat) (h : d ≤ n) : Builtin.Range.rangeSize ((d : Int) + 1) ((n : Int) + 1) 1 = ((n - d : Nat) : Int) := by
  unfold Builtin.Range.rangeSize
  simp
  omega
theorem small_up (d n : Nat) (h : d ≤ n) (h2 : n < 100000) : Builtin.Range.small ((d : Int) + 1) ((n : Int) + 1) 1 = true := by
  unfold Builtin.Range.small
  rw [range_up d n h]
  simp [Builtin.Range.rangeFitsLong]
  omega

section
variable {w : World} {mg mb : Str → Option Value} {mean : ExcName → Option Value} {dp un : Nat} {gd : Option (List Code)} {fr : List Env} {base : Heap} {s : Shared} {Q E : Value → Shared → Prop}
theorem least_spec
  {zl : Addr} {zvs : List Value} {kz : Nat} {zs : List Int} {A : Nat} {tA : Tok}
  (X : (Mine.heapK w.params).In base) (T : Top topProg GL mean mg mb base) (hS : base.StaysIn s.heap)
  (hz : s.heap.get? zl = some (listOf zvs.toArray kz)) (hbz : base.get? zl = none) (hI : PyProof.Rows.IntsAre zvs zs) (hn : zs.length ≤ 50) (hA : 0 < A) (hA2 : A ≤ 50) (hpos : ∀ z ∈ zs, 0 ≤ z ∧ z ≤ 1000)
  (hex : ∃ M k, Reach (segS zs) zs.length M zs.length k ∧ k ≤ A)
  (hdp : dp < 400) (_hu : un < 300)
  (ret : ∀ h' tk' W t', Keep [] s.heap h' → (∃ k, k ≤ A ∧ Reach (segS zs) zs.length W zs.length k) → (∀ M k, Reach (segS zs) zs.length M zs.length k → k ≤ A → W ≤ M) → Q (.int W t') { s with heap := h', toks := tk' }) :
  wpAny (model PySem.Challenge.rw_ik0220_01.row.prog w) (amb dp un gd fr) (call (.ref 339) [.ref zl, .int (A : Int) tA]) Q E s := by
  revert X; k_fill; intro X
  refine wpAny_call ?_
  k_dflt (refine' enterF [(Str.ofString "allowed", .int (A : Int) tA), (Str.ofString "sizes", .ref zl)] [(zl, listOf zvs.toArray kz)] ?kX ?kT hS ?kD ?kho ?khcd ?kroom ?kb ?kl ?kr ?_ ?c1 ?c2 ?c3 ?c4; (
  (case kX => assumption); (case kT => assumption); (case kho => k_is); (case khcd => k_is); (case kb => first | exact BindsTo.of_eq rfl | exact binds_K (by k_in) rfl (by k_is) rfl rfl rfl);
  (case kl => exact locs rfl); (case kr => exact rfl); (case c1 => exact rfl); (case c2 => exact rfl); (case c3 => exact rfl); (case c4 => decide); (case kroom => first | exact rm0 hdp rfl | (simp only [recursionLimit]; omega))); (case kD => exact fun q hq => by rw [List.mem_singleton.mp hq]; exact ⟨hz, hbz⟩))
  intro g L h1 fr' tk F N X1 T1 KP LTs
  k_fold
  (repeat' (first | (k_unfold; (try dsimp only)) | ((with_reducible show wpAny _ _ (storeName _ _ _) _ _ _); (try dsimp only); walk1) | ((with_reducible show PySem.wpAt _ _ _ _ _ _ _); walk_at "wpAt") | ((fail_if_success (with_reducible refine Stop.go (by constructor) ?_)); first | walk1 | (dsimp only; walk1))))
  rename_i tk0 T0 hq1 lq1 oa hq2 lq2 hq3 tq sa hq4 lq3 h5 F5 N5
  have hzl : zvs.length = zs.length := hI.length
  have q1 : @LT.lt Nat _ zl oa := lq2.2
  have q2 : @LT.lt Nat _ oa sa := lq3.1
  refine while_D (WInv g L s zl oa sa zvs kz zs A tA) (fun _ => False) ((zs.length * A - 0) * (zs.length + 1) + 1) ?_ ?_ (fun _ z => z.elim)
  · refine WInv.mk (u := _) (O := [(0, 0, 0)]) (Sd := []) (cur := 0) (ovs := [.ref T0]) (svs := []) (kO := 0) (kS := 0) (ex := [(T0, tupOf [.int 0 tk0, .int 0 (tk0 + 1), .int 0 (tk0 + 1 + 1)] 0)]) (toKF [(Str.ofString "sizes", .ref zl), (Str.ofString "allowed", .int (A : Int) tA), (Str.ofString "open_cuts", .ref oa), (Str.ofString "settled", .ref sa)] F5 ⟨rfl, rfl, rfl, rfl, trivial⟩) (Mine.News.sub N5 (by ((try simp only [List.cons_append, List.nil_append]); repeat' (first | exact .head _ | refine .tail _ ?_ | exact List.forall_mem_nil _ | refine List.forall_mem_cons.mpr ⟨?_, ?_⟩ | assumption | intro _ _)))) ?_ (fun h' k x => ⟨.cons ⟨T0, _, 0, rfl, x _ (.head _), .cons (.i _ _) (.cons (.i _ _) (.cons (.i _ _) .nil))⟩ .nil, .nil⟩) ?_ (SInv.start hA) (fun M k r _ => r.nn) rfl (by rw [Nat.sub_zero]; have := meas_bound hn hA2; (clear hn hA hA2 hdp lq1 lq2 lq3 hzl q1 q2; omega))
    · intro p hp
      rw [List.mem_singleton.mp hp]
    · intro i h1 h2
      simp at h2
      (clear hn hA hA2 hdp lq1 lq2 lq3 hzl q1 q2; omega)
  · rintro mm s' ⟨F7, N7, cx, hal, hO, hS, hcur, hmm, hmb⟩
    rename_i h7 tk7 u7 O Sd cur ovs svs kO kS ex
    clear F5 N5
    (repeat' (first | (k_unfold; (try dsimp only)) | ((with_reducible show wpAny _ _ (storeName _ _ _) _ _ _); (try dsimp only); walk1) | ((with_reducible show PySem.wpAt _ _ _ _ _ _ _); walk_at "wpAt") | ((fail_if_success (with_reducible refine Stop.go (by constructor) ?_)); first | walk1 | (dsimp only; walk1))))
    rename_i nl h8 F8 N8 l8
    have A8 := hal h8 F8.keep fun p hp => (N8 p (.tail _ (.tail _ (.tail _ (.tail _ hp))))).1
    obtain ⟨M0, k0, rM0, hk0⟩ := hex
    obtain ⟨w0, d0, u0, hw0, hm0⟩ := hS.item rM0 hk0 (hcur M0 k0 rM0 hk0)
    have hOl : 0 < O.length := List.length_pos_of_mem hm0
    have hvl : ovs.length = O.length := by simpa using A8.1.length
    obtain ⟨v0, ovs0, rfl⟩ : ∃ v0 ovs0, ovs = v0 :: ovs0 := by
      cases ovs with
      | nil => simp at hvl; (clear hn hA hA2 hdp lq1 lq2 lq3 hzl q1 q2 hmm hmb l8 hk0 hw0 A8; omega)
      | cons a b => exact ⟨a, b, rfl⟩
    refine ne_nil1 (N8 _ (.tail _ (.tail _ (.head _)))).1 (N8 _ (.head _)).1 (show un + 3 < cLine by simp only [cLine]; (clear hn hA hA2 hdp lq1 lq2 lq3 hzl q1 q2 hmm hmb l8 hk0 hw0 hOl A8 hvl; omega)) ?_
    (repeat' (first | (k_unfold; (try dsimp only)) | ((with_reducible show wpAny _ _ (storeName _ _ _) _ _ _); (try dsimp only); walk1) | ((with_reducible show PySem.wpAt _ _ _ _ _ _ _); walk_at "wpAt") | ((fail_if_success (with_reducible refine Stop.go (by constructor) ?_)); first | walk1 | (dsimp only; walk1))))
    refine WhlIf.yes rfl ?_
    replace N8 := Mine.News.sub N8 (news' := (sa, listOf svs.toArray kS) :: (oa, listOf (v0 :: ovs0).toArray kO) :: (zl, listOf zvs.toArray kz) :: ex) (fun p hp => .tail _ hp)
    (repeat' (first | (k_unfold; (try dsimp only)) | ((with_reducible show wpAny _ _ (storeName _ _ _) _ _ _); (try dsimp only); walk1) | ((with_reducible show PySem.wpAt _ _ _ _ _ _ _); walk_at "wpAt") | ((fail_if_success (with_reducible refine Stop.go (by constructor) ?_)); first | walk1 | (dsimp only; walk1))))
    have hsh : ∀ d ∈ O.map tri, d.map Pv.isI = [true, true, true] := fun d hd => by
      obtain ⟨x, -, rfl⟩ := List.mem_map.mp hd
      rfl
    refine heappop_spec (sh := [true, true, true]) X1 T1 F8.keep (N8 _ (.tail _ (.head _))).1 (N8 _ (.tail _ (.head _))).2.2 A8.1 hsh hO (by rw [List.length_map]; exact hOl) (by rw [List.length_map]; (clear hn hA hA2 hdp lq1 lq2 lq3 hzl q1 q2 l8 hk0 hw0 hOl A8; omega)) (by (clear hn hA hA2 lq1 lq2 lq3 hzl q1 q2 hmm hmb l8 hk0 hw0 hOl A8 hvl; omega)) (by (clear hn hA hA2 hdp lq1 lq2 lq3 hzl q1 q2 hmm hmb l8 hk0 hw0 hOl A8 hvl; omega)) fun v x ovs' ds' kO' h10 tk10 kp10 e10 tv A10 hO' hperm hmin => ?_
    obtain ⟨O1, hO1, eO1⟩ := perm_tri hperm
    obtain ⟨x0, O', rfl⟩ : ∃ x0 O', O1 = x0 :: O' := by
      cases O1 with
      | nil => simp at eO1
      | cons a b => exact ⟨a, b, rfl⟩
    simp only [List.map_cons, List.cons.injEq] at eO1
    obtain ⟨rfl, rfl⟩ := eO1
    have hmin' : ∀ y ∈ O, x0.1 ≤ y.1 := fun y hy => tri_min (hmin _ (List.mem_map_of_mem hy))
    have F10 := fr_kept F8 N8 kp10 (fun b hb => by rw [List.mem_singleton.mp hb]; exact ⟨_, .tail _ (.head _)⟩)
    have S10 : AllAt (TupAt h10) svs (Sd.map pr) := A8.2.mono fun _ _ z => tup_kept z kp10 N8 (fun b hb => by rw [List.mem_singleton.mp hb]; exact ⟨_, .tail _ (.head _), by simp⟩)
    obtain ⟨ex10, hal10, Nx10, cx10⟩ := two_tail F10 A10 S10
    have eS10 := kp10 _ _ (off1 (show @Ne Nat sa oa by (clear hn hA hA2 hdp lq1 lq2 hzl q1 q2 hmm hmb l8 hk0 hw0 hOl A8 hvl; omega))) (N8 _ (.head _)).1
    have eZ10 := kp10 _ _ (off1 (show @Ne Nat zl oa by (clear hn hA hA2 hdp lq1 lq3 hzl q1 q2 hmm hmb l8 hk0 hw0 hOl A8 hvl; omega))) (N8 _ (.tail _ (.tail _ (.head _)))).1
    have N10 : News g L h10 ((sa, listOf svs.toArray kS) :: (oa, listOf ovs'.toArray kO') :: (zl, listOf zvs.toArray kz) :: ex10) := News.cons (News.cons (News.cons Nx10 eZ10 (N8 _ (.tail _ (.tail _ (.head _)))).2.2 (N8 _ (.tail _ (.tail _ (.head _)))).2.1) e10 (N8 _ (.tail _ (.head _))).2.2 (N8 _ (.tail _ (.head _))).2.1) eS10 (N8 _ (.head _)).2.2 (N8 _ (.head _)).2.1
    clear F8 N8 Nx10 A8 hal hO hsh
    obtain ⟨wd, dn, us⟩ := x0
    obtain ⟨T9, x1, x2, x3, rfl, hT9⟩ := tv.triple
    dsimp only at hmin' hT9
    refine unpackN_ F10 N10 hT9 rfl rfl rfl fun h11 F11 N11 => ?_
    clear F10 N10
    (repeat' (first | (k_unfold; (try dsimp only)) | ((with_reducible show wpAny _ _ (storeName _ _ _) _ _ _); (try dsimp only); walk1) | ((with_reducible show PySem.wpAt _ _ _ _ _ _ _); walk_at "wpAt") | ((fail_if_success (with_reducible refine Stop.go (by constructor) ?_)); first | walk1 | (dsimp only; walk1))))
    rename_i h12 F12 N12
    refine len_li (N12 _ (.tail _ (.tail _ (.head _)))).1 (by (clear hA hA2 hdp lq1 lq2 lq3 q1 q2 hmm hmb l8 hk0 hw0 hOl hvl; omega)) fun tl tkl => ?_
    rw [hzl]
    have hlen : O.length = O'.length + 1 := by rw [← hO1.length_eq, List.length_cons]
    have keepz : ∀ h', (∀ b o, g.get? b = some o → h'.get? b = some o) → h'.get? zl = some (listOf zvs.toArray kz) → Keep [] s.heap h' := fun h' kg ez b o hb e => by
      by_cases hbl' : b = zl
      · subst hbl'
        rw [hz] at e; cases e
        exact ez
      · exact kg b o (KP b o (by simp [hbl']) e)
    have hw5 : wd ≤ 50000 := Reach.bound hn hpos (hS.a _ _ _ (hO1.subset (.head _))).1
    have hw0' : 0 ≤ wd := (hS.a _ _ _ (hO1.subset (.head _))).1.nn
    have hdn0 : dn ≤ zs.length := (hS.a _ _ _ (hO1.subset (.head _))).2.1
    have hus0 : us ≤ A := (hS.a _ _ _ (hO1.subset (.head _))).2.2.1
    (repeat' (first | (k_unfold; (try dsimp only)) | ((with_reducible show wpAny _ _ (storeName _ _ _) _ _ _); (try dsimp only); walk1) | ((with_reducible show PySem.wpAt _ _ _ _ _ _ _); walk_at "wpAt") | ((fail_if_success (with_reducible refine Stop.go (by constructor) ?_)); first | walk1 | (dsimp only; walk1))))
    · rename_i e9
      have e9' : dn = zs.length := by (clear hn hA hA2 hdp lq1 lq2 lq3 q1 q2 hmm hmb l8 hk0 hw0 hOl hvl hlen hw5 hw0' hdn0 hus0; omega)
      subst e9'
      obtain ⟨r1, r2⟩ := hS.answer hO1 hmin' hcur
      exact ret h12 _ wd x1 (keepz _ F12.keep (N12 _ (.tail _ (.tail _ (.head _)))).1) r1 r2
    · rename_i e9 e10 D1 h13 F13 N13 l13
      have hdn : dn ≠ zs.length := by (clear hn hA hA2 hdp lq1 lq2 lq3 q1 q2 hmm hmb l8 hk0 hw0 hOl hvl hlen hw5 hw0' hdn0 hus0 e10 l13; omega)
      have A13 := hal10 h13 F13.keep fun p hp => (N13 p (.tail _ (.tail _ (.tail _ (.tail _ hp))))).1
      refine notin_pairs (ds := Sd.map prI) (r := (dn : Int)) (t := (us : Int)) (N13 _ (.tail _ (.head _))).1 (by rw [← pr_map]; exact A13.2) ⟨D1, _, 0, rfl, (N13 _ (.head _)).1, .cons (.i _ _) (.cons (.i _ _) .nil)⟩ (show un + 3 + 1 < cLine by simp only [cLine]; (clear hn hA hA2 hdp lq1 lq2 lq3 hzl q1 q2 hmm hmb l8 hk0 hw0 hOl hvl hlen hw5 hw0' hdn0 hus0 e9 e10 l13 hdn A13; omega)) ?_
      rw [pr_contains]
      by_cases hin : (dn, us) ∈ Sd
      · rw [decide_eq_true hin]
        (repeat' (first | (k_unfold; (try dsimp only)) | ((with_reducible show wpAny _ _ (storeName _ _ _) _ _ _); (try dsimp only); walk1) | ((with_reducible show PySem.wpAt _ _ _ _ _ _ _); walk_at "wpAt") | ((fail_if_success (with_reducible refine Stop.go (by constructor) ?_)); first | walk1 | (dsimp only; walk1))))
        refine WhlP.next ((zs.length * A - Sd.length) * (zs.length + 1) + O'.length) (by (clear hn hA hA2 hdp lq1 lq2 lq3 hzl q1 q2 hmb l8 hk0 hw0 hOl hw5 hw0' hdn0 hus0 e9 e10 l13 hdn A13; omega)) (WInv.mk (toKF [(Str.ofString "sizes", .ref zl), (Str.ofString "allowed", .int (A : Int) tA), (Str.ofString "open_cuts", .ref oa), (Str.ofString "settled", .ref sa)] F13 ⟨rfl, rfl, rfl, rfl, trivial⟩) (Mine.News.sub N13 fun p hp => .tail _ hp) cx10 hal10 hO' (hS.drop hA hO1 hmin' hdn fun q => q.2 hin) (hS.cur' hO1 hmin' hcur) rfl (by (clear hn hA hA2 hdp lq1 lq2 lq3 hzl q1 q2 l8 hk0 hw0 hOl hw5 hw0' hdn0 hus0 e9 e10 l13 hdn A13; omega)))
      · rw [decide_eq_false hin]
        (repeat' (first | (k_unfold; (try dsimp only)) | ((with_reducible show wpAny _ _ (storeName _ _ _) _ _ _); (try dsimp only); walk1) | ((with_reducible show PySem.wpAt _ _ _ _ _ _ _); walk_at "wpAt") | ((fail_if_success (with_reducible refine Stop.go (by constructor) ?_)); first | walk1 | (dsimp only; walk1))))
        rename_i D2 h14 F14 N14 l14
        have l14' : @LT.lt Nat _ sa D2 := l14.2.1
        have N14' : News g L h14 ((sa, listOf svs.toArray kS) :: (D2, tupOf [Value.int (dn : Int) x2, Value.int (us : Int) x3] 0) :: (oa, listOf ovs'.toArray kO') :: (zl, listOf zvs.toArray kz) :: ex10) := Mine.News.sub N14 (by ((try simp only [List.cons_append, List.nil_append]); repeat' (first | exact .head _ | refine .tail _ ?_ | exact List.forall_mem_nil _ | refine List.forall_mem_cons.mpr ⟨?_, ?_⟩ | assumption | intro _ _)))
        have hsvl : svs.length = Sd.length := by simpa using A13.2.length
        have hroom := hS.room
        have hsvb : svs.length ≤ 2500 := by
          have : zs.length * A ≤ 2500 := Nat.mul_le_mul hn hA2
          (clear hn hA hA2 hdp lq1 lq2 lq3 hzl q1 q2 hmm hmb l8 hk0 hw0 hOl hvl hlen hw5 hw0' hdn0 hus0 e9 e10 l13 hdn A13 hin l14 l14'; omega)
        refine append_li F14 N14' (fun p hp => ?_) (by (clear hn hA hA2 hdp lq1 lq2 lq3 hzl q1 q2 hmm hmb l8 hk0 hw0 hOl hvl hlen hw5 hw0' hdn0 hus0 e9 e10 l13 hdn A13 hin l14 l14' hroom; omega)) fun h15 F15 N15 => ?_
        · simp only [List.mem_cons] at hp
          rcases hp with rfl | rfl | rfl | hp
          · show @Ne Nat D2 sa
            (clear hn hA hA2 hdp lq1 lq2 lq3 hzl q1 q2 hmm hmb l8 hk0 hw0 hOl hvl hlen hw5 hw0' hdn0 hus0 e9 e10 l13 hdn A13 hin l14' hsvl hroom hsvb; omega)
          · show @Ne Nat oa sa
            (clear hn hA hA2 hdp lq1 lq2 hzl q1 q2 hmm hmb l8 hk0 hw0 hOl hvl hlen hw5 hw0' hdn0 hus0 e9 e10 l13 hdn A13 hin l14 l14' hsvl hroom hsvb; omega)
          · show @Ne Nat zl sa
            (clear hn hA hA2 hdp lq1 lq2 hzl q1 q2 hmm hmb l8 hk0 hw0 hOl hvl hlen hw5 hw0' hdn0 hus0 e9 e10 l13 hdn A13 hin l14 l14' hsvl hroom hsvb; omega)
          · exact off_list N14' (.tail _ (.tail _ (.tail _ (.tail _ hp)))) (cx10 p hp) (N14' _ (.head _)).1
        clear F14 N14 N14' A13
        (repeat' (first | (k_unfold; (try dsimp only)) | ((with_reducible show wpAny _ _ (storeName _ _ _) _ _ _); (try dsimp only); walk1) | ((with_reducible show PySem.wpAt _ _ _ _ _ _ _); walk_at "wpAt") | ((fail_if_success (with_reducible refine Stop.go (by constructor) ?_)); first | walk1 | (dsimp only; walk1))))
        refine for_N g L s [] ?_
        (repeat' (first | (k_unfold; (try dsimp only)) | ((with_reducible show wpAny _ _ (storeName _ _ _) _ _ _); (try dsimp only); walk1) | ((with_reducible show PySem.wpAt _ _ _ _ _ _ _); walk_at "wpAt") | ((fail_if_success (with_reducible refine Stop.go (by constructor) ?_)); first | walk1 | (dsimp only; walk1))))
        refine len_li (N15 _ (.tail _ (.tail _ (.tail _ (.head _))))).1 (by (clear hA hA2 hdp lq1 lq2 lq3 q1 q2 hmm hmb l8 hk0 hw0 hOl hvl hlen hw5 hw0' hdn0 hus0 e9 e10 l13 hdn hin l14 l14' hsvl hroom hsvb; omega)) fun tl2 tkl2 => ?_
        rw [hzl]
        (repeat' (first | (k_unfold; (try dsimp only)) | ((with_reducible show wpAny _ _ (storeName _ _ _) _ _ _); (try dsimp only); walk1) | ((with_reducible show PySem.wpAt _ _ _ _ _ _ _); walk_at "wpAt") | ((fail_if_success (with_reducible refine Stop.go (by constructor) ?_)); first | walk1 | (dsimp only; walk1))))
        rename_i hD tkD t1 u1 v1 hR FD ND kD
        refine wpAny_pyIter_range hR (small_up _ _ hdn0 (by (clear hA hA2 hdp lq1 lq2 lq3 q1 q2 hmm hmb l8 hk0 hw0 hOl hvl hlen hw5 hw0' hdn0 hus0 e9 e10 l13 hdn hin l14 l14' hsvl hroom hsvb; omega))) ?_
        rw [range_up _ _ hdn0]
        obtain ⟨FE, NE, lE⟩ := ks_newsPush (s := { s with heap := hD, toks := tkD }) (o := { cls := .type "range_iterator", data := .fields #[rawInt ((dn : Int) + 1), rawInt ((zs.length - dn : Nat) : Int), rawInt 1] }) FD ND rfl (Heap.get?_push_at rfl rfl) (fun b o e => Heap.get?_push_of_some _ e)
        refine ⟨hD.objs.size, zs.length - dn, _, _, "range_iterator", LJ g L s zl oa sa zvs kz zs A tA (svs ++ [Value.ref D2]) (kS + 1) (Sd ++ [(dn, us)]) O' wd dn us x1 x2 x3, rfl, Walks.range rfl hD.objs.size ((dn : Int) + 1) 1 (zs.length - dn), fun i h st => ⟨_, st, rfl⟩, ?_, (NE _ (.head _)).2.2, (NE _ (.head _)).2.1,
          ⟨_, s.gens, tkD, _, (oa, listOf ovs'.toArray kO') :: (sa, listOf (svs ++ [Value.ref D2]).toArray (kS + 1)) :: (zl, listOf zvs.toArray kz) :: (D2, tupOf [Value.int (dn : Int) x2, Value.int (us : Int) x3] 0) :: ex10, rfl, toKF [(Str.ofString "sizes", .ref zl), (Str.ofString "allowed", .int (A : Int) tA), (Str.ofString "open_cuts", .ref oa), (Str.ofString "settled", .ref sa), (Str.ofString "wide", .int wd x1), (Str.ofString "done", .int (dn : Int) x2), (Str.ofString "used", .int (us : Int) x3)] FE ⟨rfl, rfl, rfl, rfl, rfl, rfl, rfl, trivial⟩, ?_, ⟨rfl, _, ovs', kO', (D2, tupOf [Value.int (dn : Int) x2, Value.int (us : Int) x3] 0) :: ex10, O', rfl, rfl, ?_, ?_, hO', ?_, rfl⟩⟩, (fun _ hp => no_mem hp), ?_, ?_, ?_⟩
        · have e9 := (NE _ (.head _)).1
          show Heap.get? _ _ = _
          simpa using e9
        · exact Mine.News.sub NE (by ((try simp only [List.cons_append, List.nil_append]); repeat' (first | exact .head _ | refine .tail _ ?_ | exact List.forall_mem_nil _ | refine List.forall_mem_cons.mpr ⟨?_, ?_⟩ | assumption | intro _ _)))
        · intro p hp
          rcases List.mem_cons.mp hp with rfl | hp
          · rfl
          · exact cx10 p hp
        · intro h' k x
          obtain ⟨z1, z2⟩ := hal10 h' k fun p hp => x p (.tail _ hp)
          refine ⟨z1, ?_⟩
          rw [List.map_append]
          exact z2.append (.cons ⟨D2, _, 0, rfl, x _ (.head _), .cons (.i _ _) (.cons (.i _ _) .nil)⟩ .nil)
        · intro x
          refine ⟨.inl, fun h => h.elim id fun ⟨e, h1, h2, _⟩ => absurd h1 (by (clear hn hA hA2 hdp lq1 lq2 lq3 hzl q1 q2 hmm hmb l8 hk0 hw0 hOl hvl hlen hw5 hw0' hdn0 hus0 e9 e10 l13 hdn hin l14 l14' hsvl hroom hsvb h h1 h2; omega))⟩
        · rintro i g' m news ⟨-, u2, ovs2, kO2, ex2, Oi, -, rfl, cx2, -⟩ p hp
          simp only [List.mem_cons] at hp
          rcases hp with rfl | rfl | rfl | hp
          · simp
          · simp
          · simp
          · rw [cx2 p hp]; simp
        · rintro i v h' g' tk9 m news oI hi ⟨ti, rfl⟩ ⟨rfl, u2, ovs2, kO2, ex2, Oi, rfl, rfl, cx2, hal2, hOi, hmem, hlenO⟩ F20 N20
          clear FD ND FE NE
          rw [show (dn : Int) + 1 + (i : Int) * 1 = ((dn + 1 + i : Nat) : Int) by (clear hn hA hA2 hdp lq1 lq2 lq3 hzl q1 q2 hmm hmb l8 hk0 hw0 hOl hvl hlen hw5 hw0' hdn0 hus0 e9 e10 l13 hdn hin l14 l14' hsvl hroom hsvb hi hlenO; omega)]
          replace N20 : News g L h' ((hD.objs.size, oI) :: (oa, listOf ovs2.toArray kO2) :: (sa, listOf (svs ++ [Value.ref D2]).toArray (kS + 1)) :: (zl, listOf zvs.toArray kz) :: ex2) := N20
          (repeat' (first | (k_unfold; (try dsimp only)) | ((with_reducible show wpAny _ _ (storeName _ _ _) _ _ _); (try dsimp only); walk1) | ((with_reducible show PySem.wpAt _ _ _ _ _ _ _); walk_at "wpAt") | ((fail_if_success (with_reducible refine Stop.go (by constructor) ?_)); first | walk1 | (dsimp only; walk1))))
          rename_i h21 F21 N21
          obtain ⟨F22, N22, l22⟩ := ks_newsPush (s := { s with heap := h21, toks := tk }) (o := sliceO (.int (dn : Int) x2) (.int ((dn + 1 + i : Nat) : Int) ti)) F21 N21 rfl (Heap.get?_push_at rfl rfl) (fun b o e => Heap.get?_push_of_some _ e)
          refine sub_slice (vs := zvs) (n := kz) (lo := some (dn : Int)) (hi := some ((dn + 1 + i : Nat) : Int)) (N22 _ (.tail _ (.tail _ (.tail _ (.tail _ (.head _)))))).1 ⟨_, (N22 _ (.head _)).1, rfl, rfl⟩ (.int _ _) (.int _ _) (by (clear hA hA2 hdp lq1 lq2 lq3 q1 q2 hmm hmb l8 hk0 hw0 hOl hvl hlen hw5 hw0' hdn0 hus0 e9 e10 l13 hdn hin l14 l14' hsvl hroom hsvb hi hlenO; omega)) ?_
          rw [slicePick_run zvs.toArray dn (dn + 1 + i) (by rw [List.size_toArray]; (clear hn hA hA2 hdp lq1 lq2 lq3 q1 q2 hmm hmb l8 hk0 hw0 hOl hvl hlen hw5 hw0' hus0 e9 e10 l13 hdn hin l14 l14' hsvl hroom hsvb hlenO; omega)) (by (clear hn hA hA2 hdp lq1 lq2 lq3 hzl q1 q2 hmm hmb l8 hk0 hw0 hOl hvl hlen hw5 hw0' hdn0 hus0 e9 e10 l13 hdn hin l14 l14' hsvl hroom hsvb hi hlenO; omega))]
          obtain ⟨F23, N23, l23⟩ := ks_newsPush (s := { s with heap := h21.push (sliceO (.int (dn : Int) x2) (.int ((dn + 1 + i : Nat) : Int) ti)), toks := tk }) (o := listOf ((zvs.drop dn).take (dn + 1 + i - dn)).toArray 0) F22 N22 rfl (Heap.get?_push_at rfl rfl) (fun b o e => Heap.get?_push_of_some _ e)
          have hseg : PyProof.Rows.IntsAre ((zvs.drop dn).take (dn + 1 + i - dn)) ((zs.drop dn).take (dn + 1 + i - dn)) := (hI.drop dn).take _
          have hsb : ((zs.drop dn).take (dn + 1 + i - dn)).sum ≤ 50000 := by
            have h := sum_bound (l := (zs.drop dn).take (dn + 1 + i - dn)) (B := 1000) fun z hz => hpos z (List.mem_of_mem_drop (List.mem_of_mem_take hz))
            have hl : ((zs.drop dn).take (dn + 1 + i - dn)).length ≤ 50 := by rw [List.length_take, List.length_drop]; (clear hA hA2 hdp lq1 lq2 lq3 q1 q2 hmm hmb l8 hk0 hw0 hOl hvl hlen hw5 hw0' hus0 e9 e10 l13 hdn hin l14 l14' hsvl hroom hsvb hlenO h; omega)
            (clear hn hA hA2 hdp lq1 lq2 lq3 hzl q1 q2 hmm hmb l8 hk0 hw0 hOl hvl hlen hw5 hw0' hdn0 hus0 e9 e10 l13 hdn hin l14 l14' hsvl hroom hsvb hi hlenO; omega)
          clear F21 N21 F22 N22
          (repeat' (first | (k_unfold; (try dsimp only)) | ((with_reducible show wpAny _ _ (storeName _ _ _) _ _ _); (try dsimp only); walk1) | ((with_reducible show PySem.wpAt _ _ _ _ _ _ _); walk_at "wpAt") | ((fail_if_success (with_reducible refine Stop.go (by constructor) ?_)); first | walk1 | (dsimp only; walk1))))
          refine sumK rfl F23 N23 ⟨_, (N23 _ (.head _)).1, rfl, _, rfl⟩ hseg fun h24 tk24 t24 F24 N24 => ?_
          clear F23 N23
          (repeat' (first | (k_unfold; (try dsimp only)) | ((with_reducible show wpAny _ _ (storeName _ _ _) _ _ _); (try dsimp only); walk1) | ((with_reducible show PySem.wpAt _ _ _ _ _ _ _); walk_at "wpAt") | ((fail_if_success (with_reducible refine Stop.go (by constructor) ?_)); first | walk1 | (dsimp only; walk1))))
          rename_i D3 h25 F25 N25 l25
          have A25 := hal2 h25 F25.keep fun p hp => (N25 p (.tail _ (.tail _ (.tail _ (.tail _ (.tail _ (.tail _ (.tail _ hp)))))))).1
          have hmax : (if ((zs.drop dn).take (dn + 1 + i - dn)).sum > wd then ((zs.drop dn).take (dn + 1 + i - dn)).sum else wd) = max wd (segS zs dn (dn + 1 + i)) := by
            show _ = max wd ((zs.drop dn).take (dn + 1 + i - dn)).sum
            split <;> (clear hn hA hA2 hdp lq1 lq2 lq3 hzl q1 q2 hmm hmb l8 hk0 hw0 hOl hvl hlen hw5 hw0' hdn0 hus0 e9 e10 l13 hdn hin l14 l14' hsvl hroom hsvb hi hlenO hsb l25 A25; omega)
          have tv3 : TupAt h25 (.ref D3) (tri (max wd (segS zs dn (dn + 1 + i)), dn + 1 + i, us + 1)) := by
            refine ⟨D3, _, 0, rfl, (N25 _ (.head _)).1, .cons ?_ (.cons (.i _ _) (.cons ?_ .nil))⟩
            · rw [hmax]
              exact .i _ _
            · show IsPv _ (.i ((us + 1 : Nat) : Int))
              rw [show ((us + 1 : Nat) : Int) = (us : Int) + 1 by (clear hn hA hA2 hdp lq1 lq2 lq3 hzl q1 q2 hmm hmb l8 hk0 hw0 hOl hvl hlen hw5 hw0' hdn0 hus0 e9 e10 l13 hdn hin l14 l14' hsvl hroom hsvb hi hlenO hsb l25 A25 hmax; omega)]
              exact .i _ _
          have zI : @LT.lt Nat _ oa hD.objs.size := lE _ (.tail _ (.tail _ (.head _)))
          have hsh2 : ∀ d ∈ Oi.map tri, d.map Pv.isI = [true, true, true] := fun d hd => by
            obtain ⟨x, -, rfl⟩ := List.mem_map.mp hd
            rfl
          refine heappush_spec (sh := [true, true, true]) X1 T1 F25.keep (N25 _ (.tail _ (.tail _ (.tail _ (.tail _ (.head _)))))).1 (N25 _ (.tail _ (.tail _ (.tail _ (.tail _ (.head _)))))).2.2 A25.1 tv3 hsh2 rfl hOi (by rw [List.length_map]; (clear hA hA2 hdp lq1 lq2 lq3 q1 q2 l8 hk0 hw0 hw5 hw0' hus0 e9 e10 l13 hdn hin l14 l14' hsvl hroom hsvb hsb l25 A25 zI; omega)) (by (clear hn hA hA2 lq1 lq2 lq3 hzl q1 q2 hmm hmb l8 hk0 hw0 hOl hvl hlen hw5 hw0' hdn0 hus0 e9 e10 l13 hdn hin l14 l14' hsvl hroom hsvb hi hlenO hsb l25 A25 hmax zI; omega)) (by (clear hn hA hA2 hdp lq1 lq2 lq3 hzl q1 q2 hmm hmb l8 hk0 hw0 hOl hvl hlen hw5 hw0' hdn0 hus0 e9 e10 l13 hdn hin l14 l14' hsvl hroom hsvb hi hlenO hsb l25 A25 hmax zI; omega)) fun vs' ds' n' h26 tk26 kp26 e26 A26 hO26 hperm26 => ?_
          obtain ⟨O26, hp26, rfl⟩ := perm_tri (O := (max wd (segS zs dn (dn + 1 + i)), dn + 1 + i, us + 1) :: Oi) hperm26
          have F26 := fr_kept F25 N25 kp26 (fun b hb => by rw [List.mem_singleton.mp hb]; exact ⟨_, (.tail _ (.tail _ (.tail _ (.tail _ (.head _)))))⟩)
          have S26 : AllAt (TupAt h26) (svs ++ [Value.ref D2]) ((Sd ++ [(dn, us)]).map pr) := A25.2.mono fun _ _ z => tup_kept z kp26 N25 (fun b hb => by rw [List.mem_singleton.mp hb]; exact ⟨_, (.tail _ (.tail _ (.tail _ (.tail _ (.head _))))), by simp⟩)
          obtain ⟨ex26, hal26, Nx26, cx26⟩ := two_tail F26 A26 S26
          have eI26 := kp26 _ _ (off1 (show @Ne Nat hD.objs.size oa by (clear hn hA hA2 hdp lq1 lq2 lq3 hzl q1 q2 hmm hmb l8 hk0 hw0 hOl hvl hlen hw5 hw0' hdn0 hus0 e9 e10 l13 hdn hin l14 l14' hsvl hroom hsvb hi hlenO hsb l25 A25 hmax; omega))) (N25 _ (.tail _ (.tail _ (.tail _ (.head _))))).1
          have eS26 := kp26 _ _ (off1 (show @Ne Nat sa oa by (clear hn hA hA2 hdp lq1 lq2 hzl q1 q2 hmm hmb l8 hk0 hw0 hOl hvl hlen hw5 hw0' hdn0 hus0 e9 e10 l13 hdn hin l14 l14' hsvl hroom hsvb hi hlenO hsb l25 A25 hmax zI; omega))) (N25 _ (.tail _ (.tail _ (.tail _ (.tail _ (.tail _ (.head _))))))).1
          have eZ26 := kp26 _ _ (off1 (show @Ne Nat zl oa by (clear hn hA hA2 hdp lq1 lq3 hzl q1 q2 hmm hmb l8 hk0 hw0 hOl hvl hlen hw5 hw0' hdn0 hus0 e9 e10 l13 hdn hin l14 l14' hsvl hroom hsvb hi hlenO hsb l25 A25 hmax zI; omega))) (N25 _ (.tail _ (.tail _ (.tail _ (.tail _ (.tail _ (.tail _ (.head _)))))))).1
          have N26 : News g L h26 ((hD.objs.size, oI) :: ([] ++ ((oa, listOf vs'.toArray n') :: (sa, listOf (svs ++ [Value.ref D2]).toArray (kS + 1)) :: (zl, listOf zvs.toArray kz) :: ex26))) := News.cons (News.cons (News.cons (News.cons Nx26 eZ26 (N25 _ (.tail _ (.tail _ (.tail _ (.tail _ (.tail _ (.tail _ (.head _)))))))).2.2 (N25 _ (.tail _ (.tail _ (.tail _ (.tail _ (.tail _ (.tail _ (.head _)))))))).2.1) eS26 (N25 _ (.tail _ (.tail _ (.tail _ (.tail _ (.tail _ (.head _))))))).2.2 (N25 _ (.tail _ (.tail _ (.tail _ (.tail _ (.tail _ (.head _))))))).2.1) e26 (N25 _ (.tail _ (.tail _ (.tail _ (.tail _ (.head _)))))).2.2 (N25 _ (.tail _ (.tail _ (.tail _ (.tail _ (.head _)))))).2.1) eI26 (N25 _ (.tail _ (.tail _ (.tail _ (.head _))))).2.2 (N25 _ (.tail _ (.tail _ (.tail _ (.head _))))).2.1
          clear F25 N25 Nx26 A25
          (repeat' (first | (k_unfold; (try dsimp only)) | ((with_reducible show wpAny _ _ (storeName _ _ _) _ _ _); (try dsimp only); walk1) | ((with_reducible show PySem.wpAt _ _ _ _ _ _ _); walk_at "wpAt") | ((fail_if_success (with_reducible refine Stop.go (by constructor) ?_)); first | walk1 | (dsimp only; walk1))))
          exact LpP.next (toKF [(Str.ofString "sizes", .ref zl), (Str.ofString "allowed", .int (A : Int) tA), (Str.ofString "open_cuts", .ref oa), (Str.ofString "settled", .ref sa), (Str.ofString "wide", .int wd x1), (Str.ofString "done", .int (dn : Int) x2), (Str.ofString "used", .int (us : Int) x3)] F26 ⟨rfl, rfl, rfl, rfl, rfl, rfl, rfl, trivial⟩) N26 ⟨rfl, _, vs', n', ex26, O26, rfl, rfl, cx26, hal26, hO26, fun x => by
            rw [hp26.mem_iff, List.mem_cons, hmem]
            constructor
            · rintro (h | h | ⟨e, h1, h2, h3⟩)
              · exact .inr ⟨dn + 1 + i, by (clear hn hA hA2 hdp lq1 lq2 lq3 hzl q1 q2 hmm hmb l8 hk0 hw0 hOl hvl hlen hw5 hw0' hdn0 hus0 e9 e10 l13 hdn hin l14 l14' hsvl hroom hsvb hi hlenO hsb l25 hmax zI; omega), by (clear hn hA hA2 hdp lq1 lq2 lq3 hzl q1 q2 hmm hmb l8 hk0 hw0 hOl hvl hlen hw5 hw0' hdn0 hus0 e9 e10 l13 hdn hin l14 l14' hsvl hroom hsvb hi hlenO hsb l25 hmax zI; omega), h⟩
              · exact .inl h
              · exact .inr ⟨e, h1, by (clear hn hA hA2 hdp lq1 lq2 lq3 hzl q1 q2 hmm hmb l8 hk0 hw0 hOl hvl hlen hw5 hw0' hdn0 hus0 e9 e10 l13 hdn hin l14 l14' hsvl hroom hsvb hi hlenO hsb l25 hmax zI h1; omega), h3⟩
            · rintro (h | ⟨e, h1, h2, h3⟩)
              · exact .inr (.inl h)
              · by_cases he : e = dn + 1 + i
                · exact .inl (by rw [h3, he])
                · exact .inr (.inr ⟨e, h1, by (clear hn hA hA2 hdp lq1 lq2 lq3 hzl q1 q2 hmm hmb l8 hk0 hw0 hOl hvl hlen hw5 hw0' hdn0 hus0 e9 e10 l13 hdn hin l14 l14' hsvl hroom hsvb hi hlenO hsb l25 hmax zI h1; omega), h3⟩), by rw [hp26.length_eq, List.length_cons, hlenO]; (clear hn hA hA2 hdp lq1 lq2 lq3 hzl q1 q2 hmm hmb l8 hk0 hw0 hOl hvl hlen hw5 hw0' hdn0 hus0 e9 e10 l13 hdn hin l14 l14' hsvl hroom hsvb hi hlenO hsb l25 hmax zI; omega)⟩
        · rintro h' g' tk9 m news ⟨rfl, u2, ovs2, kO2, ex2, Oi, rfl, rfl, cx2, hal2, hOi, hmem, hlenO⟩ F20 N20
          (repeat' (first | (k_unfold; (try dsimp only)) | ((with_reducible show wpAny _ _ (storeName _ _ _) _ _ _); (try dsimp only); walk1) | ((with_reducible show PySem.wpAt _ _ _ _ _ _ _); walk_at "wpAt") | ((fail_if_success (with_reducible refine Stop.go (by constructor) ?_)); first | walk1 | (dsimp only; walk1))))
          have hI' : SInv (segS zs) zs.length A Oi (Sd ++ [(dn, us)]) wd := hS.expand hO1 hmin' hdn ⟨by (clear hn hA hA2 hdp lq1 lq2 lq3 hzl q1 q2 hmm hmb l8 hk0 hw0 hOl hvl hlen hw5 hw0' hdn0 hus0 e9 l13 hdn hin l14 l14' hsvl hroom hsvb hlenO; omega), hin⟩ fun x => by
            rw [hmem x, show dn + (zs.length - dn) = zs.length by (clear hn hA hA2 hdp lq1 lq2 lq3 q1 q2 hmm hmb l8 hk0 hw0 hOl hvl hlen hw5 hw0' hus0 e9 e10 l13 hdn hin l14 l14' hsvl hroom hsvb hlenO; omega)]
          have hroom2 := hI'.room
          rw [List.length_append, List.length_singleton] at hroom2
          obtain ⟨a9, ha9⟩ : ∃ a9, zs.length * A - Sd.length = a9 + 1 := Nat.exists_eq_add_one.mpr (Nat.sub_pos_of_lt hroom2)
          have hm9 : zs.length * A - (Sd ++ [(dn, us)]).length = a9 := by rw [List.length_append, List.length_singleton, ← Nat.sub_sub, ha9, Nat.add_sub_cancel]
          rw [ha9, Nat.succ_mul] at hmm
          exact WhlP.next (a9 * (zs.length + 1) + Oi.length) (by (clear hn hA hA2 hdp lq1 lq2 lq3 q1 q2 hmb l8 hk0 hw0 hOl hw5 hw0' hus0 e9 e10 l13 hdn hin l14 l14' hsvl hroom hsvb ha9 hm9; omega)) (WInv.mk (toKF [(Str.ofString "sizes", .ref zl), (Str.ofString "allowed", .int (A : Int) tA), (Str.ofString "open_cuts", .ref oa), (Str.ofString "settled", .ref sa)] F20 ⟨rfl, rfl, rfl, rfl, trivial⟩) (Mine.News.sub (news' := (sa, listOf (svs ++ [Value.ref D2]).toArray (kS + 1)) :: (oa, listOf ovs2.toArray kO2) :: (zl, listOf zvs.toArray kz) :: ex2) N20 (by ((try simp only [List.cons_append, List.nil_append]); repeat' (first | exact .head _ | refine .tail _ ?_ | exact List.forall_mem_nil _ | refine List.forall_mem_cons.mpr ⟨?_, ?_⟩ | assumption | intro _ _)))) cx2 hal2 hOi hI' (hS.cur' hO1 hmin' hcur) (by rw [hm9]) (by (clear hn hA hA2 hdp lq1 lq2 lq3 q1 q2 l8 hk0 hw0 hOl hw5 hw0' hus0 e9 e10 l13 hdn hin l14 l14' hsvl hroom hsvb ha9 hm9; omega)))
    · rename_i e9 e10
      have hdn : dn ≠ zs.length := by (clear hn hA hA2 hdp lq1 lq2 lq3 q1 q2 hmm hmb l8 hk0 hw0 hOl hvl hlen hw5 hw0' hdn0 hus0 e10; omega)
      refine WhlP.next ((zs.length * A - Sd.length) * (zs.length + 1) + O'.length) (by (clear hn hA hA2 hdp lq1 lq2 lq3 hzl q1 q2 hmb l8 hk0 hw0 hOl hw5 hw0' hdn0 hus0 e9 e10 hdn; omega)) (WInv.mk (toKF [(Str.ofString "sizes", .ref zl), (Str.ofString "allowed", .int (A : Int) tA), (Str.ofString "open_cuts", .ref oa), (Str.ofString "settled", .ref sa)] F12 ⟨rfl, rfl, rfl, rfl, trivial⟩) N12 cx10 hal10 hO' (hS.drop hA hO1 hmin' hdn fun q => absurd q.1 (by (clear hn hA hA2 hdp lq1 lq2 lq3 hzl q1 q2 hmm hmb l8 hk0 hw0 hOl hvl hlen hw5 hw0' hdn0 e9 hdn; omega))) (hS.cur' hO1 hmin' hcur) rfl (by (clear hn hA hA2 hdp lq1 lq2 lq3 hzl q1 q2 l8 hk0 hw0 hOl hw5 hw0' hdn0 hus0 e9 e10 hdn; omega)))

end
section
variable {w : World} {mg mb : Str → Option Value} {mean : ExcName → Option Value} {dp un : Nat} {gd : Option (List Code)} {fr : List Env} {base : Heap} {s : Shared} {Q E : Value → Shared → Prop}
theorem rows_spec
  {rl nl : Addr} {rvs nvs : List Value} {kr kn : Nat} {rows names : List Str} {last : Str}
  (X : (Mine.heapK w.params).In base) (T : Top topProg GL mean mg mb base) (hS : base.StaysIn s.heap)
  (hr : s.heap.get? rl = some (listOf rvs.toArray kr)) (hbr : base.get? rl = none) (hA : StrsAre rvs rows)
  (hl : s.heap.get? nl = some (listOf nvs.toArray kn)) (hbl : base.get? nl = none) (hB : StrsAre nvs names)
  (hrn : @Ne Nat rl nl)
  (hn : names.length ≤ 200) (hsum : (names.map (·.length)).sum ≤ 10000) (hrl : rows.length ≤ 200) (hrl0 : 0 < rows.length)
  (hrow : ∀ (i : Nat) (r : Str), rows[i]? = some r → r.length ≤ 1000 ∧ r.length ≠ 0 ∧ Txt.startswith r (Str.ofString "/") = false)
  (hwhole : ∀ i : Nat, i ≤ rows.length → ((rows.take i).foldl joinP (Str.ofString "")).length ≤ 50000)
  (hplace : ∀ i : Nat, i ≤ rows.length → ((rows.take i).foldl (fun p r => normP (joinP p r)) (Str.ofString "")).length ≤ 50000)
  (hstep : ∀ (i : Nat) (r : Str), rows[i]? = some r → (joinP ((rows.take i).foldl (fun p r => normP (joinP p r)) (Str.ofString "")) r).length ≤ 60000 ∧ (Txt.slice (joinP ((rows.take i).foldl (fun p r => normP (joinP p r)) (Str.ofString "")) r) none (some 1) != Str.ofString "/") = true ∧ (joinP ((rows.take i).foldl (fun p r => normP (joinP p r)) (Str.ofString "")) r).length ≠ 0)
  (hw0 : (rows.foldl joinP (Str.ofString "")).length ≠ 0) (hws : (Txt.slice (rows.foldl joinP (Str.ofString "")) none (some 1) != Str.ofString "/") = true)
  (H1 : Txt.join (Str.ofString "/") names = rows.foldl joinP (Str.ofString "")) (H2 : Txt.join (Str.ofString "") rows = rows.foldl joinP (Str.ofString ""))
  (H3 : rows.map splitT = List.replicate (rows.length - 1) (Str.ofString "") ++ [last]) (hlast : names.getLast? = some last)
  (H4 : rows.foldl (fun p r => normP (joinP p r)) (Str.ofString "") = readP names) (H5 : normP (rows.foldl joinP (Str.ofString "")) = rows.foldl (fun p r => normP (joinP p r)) (Str.ofString ""))
  (hjn : JoinOk (Str.ofString "/") names = true) (hjr : JoinOk (Str.ofString "") rows = true)
  (hdp : dp < 400) (_hu : un < 300)
  (ret : ∀ h' tk', Keep [] s.heap h' → Q (.bool true) { s with heap := h', toks := tk' }) :
  wpAny (model PySem.Challenge.rw_ik0220_01.row.prog w) (amb dp un gd fr) (call (.ref 351) [.ref rl, .ref nl]) Q E s := by
  revert X; k_fill; intro X
  refine wpAny_call ?_
  k_dflt (refine' enterF [(Str.ofString "names", .ref nl), (Str.ofString "rows", .ref rl)] [(rl, listOf rvs.toArray kr), (nl, listOf nvs.toArray kn)] ?kX ?kT hS ?kD ?kho ?khcd ?kroom ?kb ?kl ?kr ?_ ?c1 ?c2 ?c3 ?c4; (
  (case kX => assumption); (case kT => assumption); (case kho => k_is); (case khcd => k_is); (case kb => first | exact BindsTo.of_eq rfl | exact binds_K (by k_in) rfl (by k_is) rfl rfl rfl);
  (case kl => exact locs rfl); (case kr => exact rfl); (case c1 => exact rfl); (case c2 => exact rfl); (case c3 => exact rfl); (case c4 => decide); (case kroom => first | exact rm0 hdp rfl | (simp only [recursionLimit]; omega))); (case kD => intro q hq'; rcases List.mem_cons.mp hq' with rfl | hq'; exact ⟨hr, hbr⟩; rcases List.mem_singleton.mp hq' with rfl; exact ⟨hl, hbl⟩))
  intro g L h1 fr' tk F N X1 T1 KP LTs
  k_fold
  (repeat' (first | (k_unfold; (try dsimp only)) | ((with_reducible show wpAny _ _ (storeName _ _ _) _ _ _); (try dsimp only); walk1) | ((with_reducible show PySem.wpAt _ _ _ _ _ _ _); walk_at "wpAt") | ((fail_if_success (with_reducible refine Stop.go (by constructor) ?_)); first | walk1 | (dsimp only; walk1))))
  rename_i tk0 hq1 tk1 h2 F2 N2
  refine for_list g L rl rvs kr (fun i g' m news => g' = s.gens ∧ ∃ u t1 t2, m = KF [(Str.ofString "rows", .ref rl), (Str.ofString "names", .ref nl), (Str.ofString "whole", .str ((rows.take i).foldl joinP (Str.ofString "")) t1), (Str.ofString "place", .str ((rows.take i).foldl (fun p r => normP (joinP p r)) (Str.ofString "")) t2)] u ∧ news = [(nl, listOf nvs.toArray kn)]) rfl (toKF [(Str.ofString "rows", .ref rl), (Str.ofString "names", .ref nl), (Str.ofString "whole", .str (Str.ofString "") _), (Str.ofString "place", .str (Str.ofString "") _)] F2 ⟨rfl, rfl, rfl, rfl, trivial⟩) N2 ⟨rfl, _, _, _, rfl, rfl⟩ ?_ ?_ ?_ ?_
  · rintro i g' m news ⟨-, u, t1, t2, -, rfl⟩ p hp
    rw [List.mem_singleton.mp hp]
    simp
  · (repeat' (first | (k_unfold; (try dsimp only)) | ((with_reducible show wpAny _ _ (storeName _ _ _) _ _ _); (try dsimp only); walk1) | ((with_reducible show PySem.wpAt _ _ _ _ _ _ _); walk_at "wpAt") | ((fail_if_success (with_reducible refine Stop.go (by constructor) ?_)); first | walk1 | (dsimp only; walk1))))
    try exact ⟨rfl, rfl⟩
  · rintro i v h' g' tk9 m news oI hv ⟨rfl, u, t1, t2, rfl, rfl⟩ F7 N7 lI
    obtain ⟨c, tc, rfl, hc⟩ := hA.at' hv
    have hi : i < rows.length := by have := (List.getElem?_eq_some_iff.mp hc).1; exact this
    obtain ⟨hc1, hc2, hc3⟩ := hrow i c hc
    have hw9 := hwhole i (by (clear hrn hn hsum hrl hrl0 hw0 hdp hc1 hc2; omega))
    have hp9 := hplace i (by (clear hrn hn hsum hrl hrl0 hw0 hdp hc1 hc2 hw9; omega))
    obtain ⟨hs1, hs2, hs3⟩ := hstep i c hc
    have hwn : (rows.take (i + 1)).foldl joinP (Str.ofString "") = joinP ((rows.take i).foldl joinP (Str.ofString "")) c := by rw [take_succ_at hc, List.foldl_append]; rfl
    have hpn : (rows.take (i + 1)).foldl (fun p r => normP (joinP p r)) (Str.ofString "") = normP (joinP ((rows.take i).foldl (fun p r => normP (joinP p r)) (Str.ofString "")) c) := by rw [take_succ_at hc, List.foldl_append]; rfl
    generalize (rows.take i).foldl joinP (Str.ofString "") = wh at *
    generalize (rows.take i).foldl (fun p r => normP (joinP p r)) (Str.ofString "") = pl at *
    clear F2 N2
    (repeat' (first | (k_unfold; (try dsimp only)) | ((with_reducible show wpAny _ _ (storeName _ _ _) _ _ _); (try dsimp only); walk1) | ((with_reducible show PySem.wpAt _ _ _ _ _ _ _); walk_at "wpAt") | ((fail_if_success (with_reducible refine Stop.go (by constructor) ?_)); first | walk1 | (dsimp only; walk1))))
    rename_i h8 F8 N8
    refine join_spec X1 T1 F8.keep (by (clear hrn hn hsum hrl hrl0 hw0 hdp hi hc1 hc2 hp9 hs1 hs3; omega)) (by (clear hrn hn hsum hrl hrl0 hw0 hdp hi hc2 hw9 hp9 hs1 hs3; omega)) hc3 (by (clear hrn hn hsum hrl hrl0 hw0 hi hc1 hc2 hw9 hp9 hs1 hs3; omega)) (by (clear hrn hn hsum hrl hrl0 hw0 hdp hi hc1 hc2 hw9 hp9 hs1 hs3; omega)) fun h9 tkb t9 k9 => ?_
    have F9 := Mine.Fr.kept (h' := h9) (D := []) F8 k9 (fun b hb => no_mem hb) (fun hb => no_mem hb)
    have N9 := News.kept (h' := h9) (D := []) N8 k9 (fun p hp hb => no_mem hb)
    clear F8 N8
    (repeat' (first | (k_unfold; (try dsimp only)) | ((with_reducible show wpAny _ _ (storeName _ _ _) _ _ _); (try dsimp only); walk1) | ((with_reducible show PySem.wpAt _ _ _ _ _ _ _); walk_at "wpAt") | ((fail_if_success (with_reducible refine Stop.go (by constructor) ?_)); first | walk1 | (dsimp only; walk1))))
    rename_i h10 F10 N10
    refine join_spec X1 T1 F10.keep (by (clear hrn hn hsum hrl hrl0 hw0 hdp hi hc1 hc2 hw9 hs1 hs3; omega)) (by (clear hrn hn hsum hrl hrl0 hw0 hdp hi hc2 hw9 hp9 hs1 hs3; omega)) hc3 (by (clear hrn hn hsum hrl hrl0 hw0 hi hc1 hc2 hw9 hp9 hs1 hs3; omega)) (by (clear hrn hn hsum hrl hrl0 hw0 hdp hi hc1 hc2 hw9 hp9 hs1 hs3; omega)) fun h11 tkc t11 k11 => ?_
    have F11 := Mine.Fr.kept (h' := h11) (D := []) F10 k11 (fun b hb => no_mem hb) (fun hb => no_mem hb)
    have N11 := News.kept (h' := h11) (D := []) N10 k11 (fun p hp hb => no_mem hb)
    clear F10 N10
    (repeat' (first | (k_unfold; (try dsimp only)) | ((with_reducible show wpAny _ _ (storeName _ _ _) _ _ _); (try dsimp only); walk1) | ((with_reducible show PySem.wpAt _ _ _ _ _ _ _); walk_at "wpAt") | ((fail_if_success (with_reducible refine Stop.go (by constructor) ?_)); first | walk1 | (dsimp only; walk1))))
    refine normpath_spec X1 T1 F11.keep (by (clear hrn hn hsum hrl hrl0 hw0 hdp hi hc1 hc2 hw9 hp9 hs3; omega)) hs2 hs3 (by (clear hrn hn hsum hrl hrl0 hw0 hi hc1 hc2 hw9 hp9 hs1 hs3; omega)) (by (clear hrn hn hsum hrl hrl0 hw0 hdp hi hc1 hc2 hw9 hp9 hs1 hs3; omega)) fun h12 tkd t12 k12 => ?_
    have F12 := Mine.Fr.kept (h' := h12) (D := []) F11 k12 (fun b hb => no_mem hb) (fun hb => no_mem hb)
    have N12 := News.kept (h' := h12) (D := []) N11 k12 (fun p hp hb => no_mem hb)
    clear F11 N11
    (repeat' (first | (k_unfold; (try dsimp only)) | ((with_reducible show wpAny _ _ (storeName _ _ _) _ _ _); (try dsimp only); walk1) | ((with_reducible show PySem.wpAt _ _ _ _ _ _ _); walk_at "wpAt") | ((fail_if_success (with_reducible refine Stop.go (by constructor) ?_)); first | walk1 | (dsimp only; walk1))))
    rename_i h13 F13 N13
    rw [← hwn, ← hpn] at F13
    exact LpP.next (news := [(nl, listOf nvs.toArray kn)]) (toKF [(Str.ofString "rows", .ref rl), (Str.ofString "names", .ref nl), (Str.ofString "whole", .str ((rows.take (i + 1)).foldl joinP (Str.ofString "")) _), (Str.ofString "place", .str ((rows.take (i + 1)).foldl (fun p r => normP (joinP p r)) (Str.ofString "")) _)] F13 ⟨rfl, rfl, rfl, rfl, trivial⟩) N13 ⟨rfl, _, _, _, rfl, rfl⟩
  · rintro h' g' tk9 m news ⟨rfl, u, t1, t2, rfl, rfl⟩ F7 N7
    have htake : rows.take rvs.length = rows := List.take_of_length_le (by rw [hA.length]; exact Nat.le_refl _)
    rw [htake] at F7
    have hp9 := hplace rows.length (Nat.le_refl _)
    have hw9 := hwhole rows.length (Nat.le_refl _)
    rw [List.take_length] at hp9 hw9
    generalize rows.foldl joinP (Str.ofString "") = wh at *
    generalize rows.foldl (fun p r => normP (joinP p r)) (Str.ofString "") = plc at *
    clear F2 N2
    (repeat' (first | (k_unfold; (try dsimp only)) | ((with_reducible show wpAny _ _ (storeName _ _ _) _ _ _); (try dsimp only); walk1) | ((with_reducible show PySem.wpAt _ _ _ _ _ _ _); walk_at "wpAt") | ((fail_if_success (with_reducible refine Stop.go (by constructor) ?_)); first | walk1 | (dsimp only; walk1))))
    obtain ⟨ln, eln, emn⟩ := hB.values
    refine SC.join (l := ln) ⟨_, (N7 _ (.tail _ (.head _))).1, rfl, _, by rw [eln]⟩ emn hjn fun t9 k9 => ?_
    rw [H1]
    (repeat' (first | (k_unfold; (try dsimp only)) | ((with_reducible show wpAny _ _ (storeName _ _ _) _ _ _); (try dsimp only); walk1) | ((with_reducible show PySem.wpAt _ _ _ _ _ _ _); walk_at "wpAt") | ((fail_if_success (with_reducible refine Stop.go (by constructor) ?_)); first | walk1 | (dsimp only; walk1))))
    · rename_i e
      simp at e
    obtain ⟨lr, elr, emr⟩ := hA.values
    refine SC.join (l := lr) ⟨_, (N7 _ (.head _)).1, rfl, _, by rw [elr]⟩ emr hjr fun t10 k10 => ?_
    rw [H2]
    (repeat' (first | (k_unfold; (try dsimp only)) | ((with_reducible show wpAny _ _ (storeName _ _ _) _ _ _); (try dsimp only); walk1) | ((with_reducible show PySem.wpAt _ _ _ _ _ _ _); walk_at "wpAt") | ((fail_if_success (with_reducible refine Stop.go (by constructor) ?_)); first | walk1 | (dsimp only; walk1))))
    refine PyProof.Rows.LCg.ListComp_U F7 (cl := []) (by with_unfolding_all rfl) (by decide) (by with_unfolding_all rfl) (by decide) (by with_unfolding_all rfl) ?_ (fun _ => by with_unfolding_all rfl)
    (repeat' (first | (k_unfold; (try dsimp only)) | ((with_reducible show wpAny _ _ (storeName _ _ _) _ _ _); (try dsimp only); walk1) | ((with_reducible show PySem.wpAt _ _ _ _ _ _ _); walk_at "wpAt") | ((fail_if_success (with_reducible refine Stop.go (by constructor) ?_)); first | walk1 | (dsimp only; walk1))))
    refine src_news (l := rl) (vs := rvs) (k := kr) (fun i ys nw => nw = [(rl, listOf rvs.toArray kr), (nl, listOf nvs.toArray kn)] ∧ StrsAre ys ((rows.take i).map splitT)) rfl F7 N7 ⟨rfl, .nil⟩ (by have := hA.length; (clear hrn hn hsum hdp hw0 hw9 hp9; omega)) (fun i ys nw h => by rw [h.1]; exact .head _) (fun i v ys nw I oI C oC D m₂ h tk E' hv hC hx F9 N9 off ne j => ?_) fun g9 ys nw j => ?_
    · obtain ⟨rfl, hys⟩ := j
      obtain ⟨c, tc, rfl, hc⟩ := hA.at' hv
      obtain ⟨hc1, hc2, hc3⟩ := hrow i c hc
      (repeat' (first | (k_unfold; (try dsimp only)) | ((with_reducible show wpAny _ _ (storeName _ _ _) _ _ _); (try dsimp only); walk1) | ((with_reducible show PySem.wpAt _ _ _ _ _ _ _); walk_at "wpAt") | ((fail_if_success (with_reducible refine Stop.go (by constructor) ?_)); first | walk1 | (dsimp only; walk1))))
      refine split_spec X1 T1 F9.keep (by (clear hrn hn hsum hrl hrl0 hdp hw0 hw9 hp9 ne hc2; omega)) (by (clear hrn hn hsum hrl hrl0 hw0 hw9 hp9 ne hc1 hc2; omega)) (by (clear hrn hn hsum hrl hrl0 hdp hw0 hw9 hp9 ne hc1 hc2; omega)) fun h12 tkb P hd ta tb k12 eP => ?_
      have F12 := Mine.Fr.kept (h' := h12) (D := []) F9 k12 (fun b hb => no_mem hb) (fun hb => no_mem hb)
      have N12 := News.kept (h' := h12) (D := []) N9 k12 (fun p hp hb => no_mem hb)
      (repeat' (first | (k_unfold; (try dsimp only)) | ((with_reducible show wpAny _ _ (storeName _ _ _) _ _ _); (try dsimp only); walk1) | ((with_reducible show PySem.wpAt _ _ _ _ _ _ _); walk_at "wpAt") | ((fail_if_success (with_reducible refine Stop.go (by constructor) ?_)); first | walk1 | (dsimp only; walk1))))
      refine sub_tup (t := P) ⟨_, eP, rfl, _, rfl⟩ (by decide) (by decide) (j := 1) (x := .str (splitT c) tb) rfl rfl ?_
      exact PyProof.Rows.LCg.CompEnd.intro F12 N12 [(rl, listOf rvs.toArray kr), (nl, listOf nvs.toArray kn)] (fun p hp => hp) off trivial ⟨rfl, by rw [take_succ_at hc, List.map_append]; exact hys.snoc _ _⟩
    · intro D h tk F9 N9 off
      obtain ⟨rfl, hys⟩ := j
      rw [htake, H3] at hys
      have hrvl := hA.length
      (repeat' (first | (k_unfold; (try dsimp only)) | ((with_reducible show wpAny _ _ (storeName _ _ _) _ _ _); (try dsimp only); walk1) | ((with_reducible show PySem.wpAt _ _ _ _ _ _ _); walk_at "wpAt") | ((fail_if_success (with_reducible refine Stop.go (by constructor) ?_)); first | walk1 | (dsimp only; walk1))))
      rename_i E1 h10 F10 N10 l10
      refine len_li (N10 _ (.tail _ (.tail _ (.head _)))).1 (by (clear hrn hn hsum hdp hw0 hw9 hp9 l10; omega)) fun tl tkl => ?_
      (repeat' (first | (k_unfold; (try dsimp only)) | ((with_reducible show wpAny _ _ (storeName _ _ _) _ _ _); (try dsimp only); walk1) | ((with_reducible show PySem.wpAt _ _ _ _ _ _ _); walk_at "wpAt") | ((fail_if_success (with_reducible refine Stop.go (by constructor) ?_)); first | walk1 | (dsimp only; walk1))))
      refine KMa.mul F10 N10 (vs := [.str (Str.ofString "") tk]) (ws := List.replicate (rows.length - 1) (.str (Str.ofString "") tk)) ⟨_, (N10 _ (.head _)).1, rfl, _, rfl⟩ (by (clear hrn hn hsum hdp hw0 hw9 hp9 l10; omega)) (by (clear hrn hn hsum hdp hw0 hw9 hp9 l10; omega)) (by simp; (clear hrn hn hsum hdp hw0 hw9 hp9 l10; omega)) (by
        rw [show ((rvs.length : Int) - 1).toNat = rows.length - 1 by rw [hrvl]; exact Int.toNat_sub rows.length 1]
        simp) fun D2 h11 F11 N11 l11 => ?_
      clear F10 N10
      (repeat' (first | (k_unfold; (try dsimp only)) | ((with_reducible show wpAny _ _ (storeName _ _ _) _ _ _); (try dsimp only); walk1) | ((with_reducible show PySem.wpAt _ _ _ _ _ _ _); walk_at "wpAt") | ((fail_if_success (with_reducible refine Stop.go (by constructor) ?_)); first | walk1 | (dsimp only; walk1))))
      obtain ⟨nm', rfl⟩ : ∃ nm', names = nm' ++ [last] := by
        obtain ⟨a, b, rfl⟩ := snoc_of (vs := names) (fun q => by rw [q] at hlast; cases hlast)
        simp at hlast
        exact ⟨a, by rw [hlast]⟩
      obtain ⟨nv', z9, rfl⟩ := snoc_of (vs := nvs) (fun q => by
        rw [q] at hB
        have := hB.length
        simp at this)
      obtain ⟨nm2, z, tz, e1, rfl, hB'⟩ := hB.unsnoc
      obtain ⟨rfl, e2⟩ := List.append_inj' e1 rfl
      cases e2
      have hnvl := hB'.length
      rw [List.length_append, List.length_singleton] at hn
      refine sub_last (N11 _ (.tail _ (.tail _ (.tail _ (.tail _ (.head _)))))).1 (by (clear hrn hrl hrl0 hdp hw0 hw9 hp9 hrvl l10 hsum; omega)) ?_
      (repeat' (first | (k_unfold; (try dsimp only)) | ((with_reducible show wpAny _ _ (storeName _ _ _) _ _ _); (try dsimp only); walk1) | ((with_reducible show PySem.wpAt _ _ _ _ _ _ _); walk_at "wpAt") | ((fail_if_success (with_reducible refine Stop.go (by constructor) ?_)); first | walk1 | (dsimp only; walk1))))
      rename_i F20 N20
      refine ne_strs_same (N20 _ (.tail _ (.tail _ (.tail _ (.tail _ (.head _)))))).1 (N20 _ (.head _)).1 hys ((StrsAre.rep (rows.length - 1) (Str.ofString "") tk).append (.cons .nil)) (show un + 3 < cLine by simp only [cLine]; (clear hrn hrl hrl0 hdp hw0 hw9 hp9 hrvl l10 hn hsum hnvl; omega)) ?_
      (repeat' (first | (k_unfold; (try dsimp only)) | ((with_reducible show wpAny _ _ (storeName _ _ _) _ _ _); (try dsimp only); walk1) | ((with_reducible show PySem.wpAt _ _ _ _ _ _ _); walk_at "wpAt") | ((fail_if_success (with_reducible refine Stop.go (by constructor) ?_)); first | walk1 | (dsimp only; walk1))))
      refine read_spec X1 T1 F20.keep (N20 _ (.tail _ (.tail _ (.tail _ (.tail _ (.tail _ (.tail _ (.head _)))))))).1 (N20 _ (.tail _ (.tail _ (.tail _ (.tail _ (.tail _ (.tail _ (.head _)))))))).2.2 (hB'.snoc last tz) (by rw [List.length_append, List.length_singleton]; (clear hrn hrl hrl0 hdp hw0 hw9 hp9 hrvl l10 hsum; omega)) hsum (by (clear hrn hrl hrl0 hw0 hw9 hp9 hrvl l10 hn hsum hnvl; omega)) (by (clear hrn hrl hrl0 hdp hw0 hw9 hp9 hrvl l10 hn hsum hnvl; omega)) fun h21 tk21 t21 k21 => ?_
      have F21 := Mine.Fr.kept (h' := h21) (D := []) F20 k21 (fun b hb => no_mem hb) (fun hb => no_mem hb)
      have N21 := News.kept (h' := h21) (D := []) N20 k21 (fun p hp hb => no_mem hb)
      clear F20 N20
      rw [← H4]
      (repeat' (first | (k_unfold; (try dsimp only)) | ((with_reducible show wpAny _ _ (storeName _ _ _) _ _ _); (try dsimp only); walk1) | ((with_reducible show PySem.wpAt _ _ _ _ _ _ _); walk_at "wpAt") | ((fail_if_success (with_reducible refine Stop.go (by constructor) ?_)); first | walk1 | (dsimp only; walk1))))
      · refine normpath_spec X1 T1 F21.keep (by (clear hrn hrl hrl0 hdp hw0 hp9 hrvl l10 hn hsum hnvl; omega)) hws hw0 (by (clear hrn hrl hrl0 hw0 hw9 hp9 hrvl l10 hn hsum hnvl; omega)) (by (clear hrn hrl hrl0 hdp hw0 hw9 hp9 hrvl l10 hn hsum hnvl; omega)) fun h22 tk22 t22 k22 => ?_
        have F22 := Mine.Fr.kept (h' := h22) (D := []) F21 k22 (fun b hb => no_mem hb) (fun hb => no_mem hb)
        have N22 := News.kept (h' := h22) (D := []) N21 k22 (fun p hp hb => no_mem hb)
        clear F21 N21
        rw [H5]
        (repeat' (first | (k_unfold; (try dsimp only)) | ((with_reducible show wpAny _ _ (storeName _ _ _) _ _ _); (try dsimp only); walk1) | ((with_reducible show PySem.wpAt _ _ _ _ _ _ _); walk_at "wpAt") | ((fail_if_success (with_reducible refine Stop.go (by constructor) ?_)); first | walk1 | (dsimp only; walk1))))
        rw [show (plc == plc) = true from beq_self_eq_true _]
        exact ret h22 _ (keep2 hr hl KP F22.keep (fun _ => (N22 _ (.tail _ (.tail _ (.tail _ (.tail _ (.tail _ (.head _))))))).1) fun _ => (N22 _ (.tail _ (.tail _ (.tail _ (.tail _ (.tail _ (.tail _ (.head _)))))))).1)
      · rename_i e
        simp at e

end
theorem sl_inj {x y : Str} (h : sl x = sl y) : x = y := by
  obtain ⟨a⟩ := x
  obtain ⟨b⟩ := y
  have : a = b := Array.toList_inj.mp h
  rw [this]
theorem slash_cps : (Str.ofString "/").cps = #[47] := by decide +kernel
theorem sl_slash : sl (Str.ofString "/") = [47] := by rw [sl, slash_cps]
theorem slash_is : Str.ofString "/" = ⟨#[47]⟩ := by decide +kernel
theorem sl_append (x y : Str) : sl (x ++ y) = sl x ++ sl y := by
  show (x.cps ++ y.cps).toList = _
  rw [Array.toList_append]
/-- a list cut at a sign -/
def splitL (c : Nat) : List Nat → List (List Nat)
  | [] => [[]]
  | a :: r => if a = c then [] :: splitL c r else match splitL c r with
    | h :: t => (a :: h) :: t
    | [] => [[a]]
theorem splitL_free {c : Nat} : ∀ {p : List Nat}, c ∉ p → splitL c p = [p]
  | [], _ => rfl
  | a :: r, h => by
    have h1 : a ≠ c := fun e => h (e ▸ .head _)
    have h2 := splitL_free (c := c) (p := r) fun e => h (.tail _ e)
    simp [splitL, h1, h2]
theorem splitL_cut {c : Nat} {r : List Nat} : ∀ {p : List Nat}, c ∉ p → splitL c (p ++ c :: r) = p :: splitL c r
  | [], _ => by simp [splitL]
  | a :: p, h => by
    have h1 : a ≠ c := fun e => h (e ▸ .head _)
    have h2 := splitL_cut (c := c) (r := r) (p := p) fun e => h (.tail _ e)
    simp [splitL, h1, h2]
theorem splitL_join {c : Nat} : ∀ {ps : List (List Nat)}, ps ≠ [] → (∀ p ∈ ps, c ∉ p) → splitL c (joinL [c] ps) = ps
  | [], h, _ => absurd rfl h
  | [p], _, h => by
    rw [joinL]
    exact splitL_free (h p (.head _))
  | p :: q :: r, _, h => by
    rw [joinL, List.append_assoc, List.singleton_append, splitL_cut (h p (.head _)), splitL_join (by simp) fun x hx => h x (.tail _ hx)]
theorem map_sl_inj : ∀ {xs ys : List Str}, xs.map sl = ys.map sl → xs = ys
  | [], [], _ => rfl
  | [], _ :: _, h => by cases h
  | _ :: _, [], h => by cases h
  | x :: xs, y :: ys, h => by
    simp only [List.map_cons, List.cons.injEq] at h
    rw [sl_inj h.1, map_sl_inj h.2]
theorem split_join {parts : List Str} {sep : Str} {c : Nat} (hs : sep = ⟨#[c]⟩) (hne : parts ≠ []) (hf : ∀ p ∈ parts, c ∉ sl p) : Txt.split (Txt.join sep parts) sep = parts := by
  subst hs
  have h1 := StrLaws.join_split (Txt.join ⟨#[c]⟩ parts) ⟨#[c]⟩
  have h2 := StrLaws.split_free (Txt.join ⟨#[c]⟩ parts) c
  have h3 := PyProof.Rows.split_pos (Txt.join ⟨#[c]⟩ parts) ⟨#[c]⟩
  generalize Txt.split (Txt.join ⟨#[c]⟩ parts) ⟨#[c]⟩ = qs at *
  have h4 : sl (Txt.join ⟨#[c]⟩ qs) = sl (Txt.join ⟨#[c]⟩ parts) := by
    rw [show Txt.join ⟨#[c]⟩ qs = Str.join ⟨#[c]⟩ qs from StrLaws.glued_eq_join _ _, h1]
  rw [sl_join, sl_join] at h4
  have e : sl (⟨#[c]⟩ : Str) = [c] := rfl
  rw [e] at h4
  have h5 := congrArg (splitL c) h4
  rw [splitL_join (by intro q; rw [List.map_eq_nil_iff] at q; rw [q] at h3; simp at h3) (fun p hp => by
      obtain ⟨x, hx, rfl⟩ := List.mem_map.mp hp
      exact h2 x hx), splitL_join (by simpa using hne) (fun p hp => by
      obtain ⟨x, hx, rfl⟩ := List.mem_map.mp hp
      exact hf x hx)] at h5
  exact map_sl_inj h5
theorem subAt_one (x : Str) (i c : Nat) : Builtin.Str.subAt x ⟨#[c]⟩ i = decide ((sl x)[i]? = some c) := by
  obtain ⟨a⟩ := x
  unfold Builtin.Str.subAt
  show (a.extract i (i + 1) == #[c]) = decide (a.toList[i]? = some c)
  rw [Array.getElem?_toList]
  by_cases h : a[i]? = some c
  · rw [decide_eq_true h, beq_iff_eq]
    have hi := (Array.getElem?_eq_some_iff.mp h).1
    have hv := (Array.getElem?_eq_some_iff.mp h).2
    apply Array.ext
    · simp; (clear hv; omega)
    · intro j h1 h2
      have : j = 0 := by simp at h2; (clear hi hv h1; omega)
      subst this
      simp [hv]
  · rw [decide_eq_false h]
    refine beq_eq_false_iff_ne.mpr fun q => h ?_
    have hs := congrArg Array.size q
    simp at hs
    have hv := congrArg (fun z : Array Nat => z[0]?) q
    simp at hv
    have hi : i < a.size := by (clear h; omega)
    rw [Array.getElem?_eq_getElem hi]
    rw [Array.getElem?_extract] at hv
    simp at hv
    have := hv.2
    simpa [hi] using this
theorem starts_slash (x : Str) : Txt.startswith x (Str.ofString "/") = decide ((sl x)[0]? = some 47) := by
  unfold Txt.startswith
  rw [slash_is, subAt_one]
  by_cases h : (sl x)[0]? = some 47
  · have := (List.getElem?_eq_some_iff.mp h).1
    have hl : 0 < x.length := by rw [← sl_len]; exact this
    rw [decide_eq_true h]
    simp [Str.length] at hl ⊢
    (clear this; omega)
  · rw [decide_eq_false h]; simp
theorem ends_slash (x : Str) : Txt.endswith x (Str.ofString "/") = decide ((sl x).getLast? = some 47) := by
  unfold Txt.endswith
  rw [slash_is, subAt_one]
  have e : (sl x).getLast? = (sl x)[(sl x).length - 1]? := List.getLast?_eq_getElem?
  rw [e, sl_len]
  have e1 : (⟨#[47]⟩ : Str).length = 1 := rfl
  rw [e1]
  by_cases h : (sl x)[x.length - 1]? = some 47
  · have := (List.getElem?_eq_some_iff.mp h).1
    have hl : 0 < x.length := by rw [← sl_len]; (clear e1; omega)
    rw [decide_eq_true h]
    simp
    (clear e1 this; omega)
  · rw [decide_eq_false h]; simp
theorem slice_first {x : Str} (hl : x.length ≠ 0) (h : (sl x)[0]? ≠ some 47) : (Txt.slice x none (some 1) != Str.ofString "/") = true := by
  have hl' : 1 ≤ (sl x).length := by rw [sl_len]; (clear h; omega)
  have e : Txt.slice x none (some 1) = ⟨((x.cps.toList.drop 0).take (1 - 0 : Int).toNat).toArray⟩ := StrLaws.sliceText_to (x := x) (j := 1) ⟨by decide, by show (1 : Int) ≤ ((sl x).length : Int); (clear hl h; omega)⟩
  rw [e]
  refine bne_iff_ne.mpr fun q => h ?_
  have q2 := congrArg sl q
  rw [sl_slash] at q2
  have q3 : (sl x).take 1 = [47] := by simpa [sl] using q2
  have q4 := congrArg (fun z : List Nat => z[0]?) q3
  simp only [List.getElem?_take] at q4
  simpa using q4

theorem splitT_cut {x : Str} {a b : List Nat} (h : sl x = a ++ 47 :: b) (hb : 47 ∉ b) : sl (splitT x) = b := by
  have hlen : x.length = a.length + 1 + b.length := by rw [← sl_len, h]; simp; (clear hb; omega)
  have hat : StrLaws.At x ⟨#[47]⟩ x.length a.length := by
    refine ⟨by show a.length + 1 ≤ _; (clear hb; omega), ?_⟩
    rw [subAt_one, h]
    simp
  have hno : ∀ k, a.length < k → ¬ StrLaws.At x ⟨#[47]⟩ x.length k := fun k hk q => by
    have q2 := q.2
    rw [subAt_one, h] at q2
    have q3 : (a ++ 47 :: b)[k]? = some 47 := of_decide_eq_true q2
    rw [List.getElem?_append_right (by (clear hb hlen; omega))] at q3
    obtain ⟨j, hj⟩ : ∃ j, k - a.length = j + 1 := ⟨k - a.length - 1, by (clear hb hlen; omega)⟩
    rw [hj] at q3
    simp at q3
    exact hb (List.mem_of_getElem? q3)
  have hl : Builtin.Str.lastOccurrence x ⟨#[47]⟩ 0 x.length = some a.length := by
    rcases StrLaws.last_spec x ⟨#[47]⟩ with ⟨-, q⟩ | ⟨i, e, h1, h2⟩
    · exact absurd hat (q _)
    · rw [e]
      congr 1
      rcases Nat.lt_trichotomy i a.length with q | q | q
      · exact absurd hat (h2 _ q)
      · exact q
      · exact absurd h1 (hno _ q)
  have hr : Txt.rfind x (Str.ofString "/") = (a.length : Int) := by
    unfold Txt.rfind
    rw [slash_is, hl]
  unfold splitT
  rw [hr, PyProof.Rows.slice_from_eq (b := (x.length : Int)) (by (clear hb hlen; omega)) (by (clear hb hr; omega)) rfl]
  show ((sl x).drop ((a.length : Int) + 1).toNat).take _ = b
  rw [h, show ((a.length : Int) + 1).toNat = a.length + 1 by (clear hb hlen; omega), show ((x.length : Int) - ((a.length : Int) + 1)).toNat = b.length by (clear hb hr; omega)]
  simp
theorem splitT_free {x : Str} (h : 47 ∉ sl x) : splitT x = x := by
  have hl : Builtin.Str.lastOccurrence x ⟨#[47]⟩ 0 x.length = none := by
    rcases StrLaws.last_spec x ⟨#[47]⟩ with ⟨e, -⟩ | ⟨i, e, h1, h2⟩
    · exact e
    · have q2 := h1.2
      rw [subAt_one] at q2
      exact absurd (List.mem_of_getElem? (of_decide_eq_true q2)) h
  have hr : Txt.rfind x (Str.ofString "/") = -1 := by
    unfold Txt.rfind
    rw [slash_is, hl]
  unfold splitT
  rw [hr, PyProof.Rows.slice_from_eq (b := (x.length : Int)) (by decide) (by (clear h hr; omega)) rfl]
  apply sl_inj
  show ((sl x).drop 0).take _ = sl x
  have := sl_len x
  rw [List.drop_zero, List.take_of_length_le (by (clear h hr; omega))]
theorem joinL_snoc {α : Type} (sep : List α) (y : List α) : ∀ xs : List (List α), joinL sep (xs ++ [y]) = (xs.map (· ++ sep)).flatten ++ y
  | [] => by simp [joinL]
  | [x] => by simp [joinL]
  | x :: z :: r => by
    have := joinL_snoc sep y (z :: r)
    show joinL sep (x :: z :: (r ++ [y])) = _
    rw [joinL]
    rw [show z :: (r ++ [y]) = z :: r ++ [y] from rfl, this]
    simp
/-- a name with a slash behind it -/
def sfx (p : Str) : Str := p ++ Str.ofString "/"
theorem sl_sfx (p : Str) : sl (sfx p) = sl p ++ [47] := by rw [sfx, sl_append, sl_slash]
/-- a row's text -/
def rowOf (g : List Str) : Str := Txt.join (Str.ofString "") g
theorem sl_rowOf (g : List Str) : sl (rowOf g) = (g.map sl).flatten := by
  rw [rowOf, sl_join]
  show joinL [] _ = _
  rw [joinL_nil]
theorem row_mid (seg : List Str) : rowOf (seg.map sfx) = Txt.join (Str.ofString "/") (seg ++ [Str.ofString ""]) := by
  apply sl_inj
  rw [sl_rowOf, sl_join, sl_slash, List.map_append, List.map_cons, List.map_nil, joinL_snoc]
  rw [show sl (Str.ofString "") = [] from rfl, List.append_nil, List.map_map, List.map_map]
  congr 1
  exact List.map_congr_left fun p _ => sl_sfx p
theorem row_end (seg : List Str) (last : Str) : rowOf (seg.map sfx ++ [last]) = Txt.join (Str.ofString "/") (seg ++ [last]) := by
  apply sl_inj
  rw [sl_rowOf, sl_join, sl_slash, List.map_append, List.map_append, List.map_cons, List.map_nil, joinL_snoc, List.flatten_append, List.map_map, List.map_map]
  simp only [List.flatten_cons, List.flatten_nil, List.append_nil]
  congr 2
  exact List.map_congr_left fun p _ => sl_sfx p
/-- a good name -/
structure GoodN (p : Str) : Prop where
  ne : p ≠ Str.ofString ""
  free : 47 ∉ sl p
  len : p.length ≤ 4
theorem GoodN.pos {p : Str} (h : GoodN p) : sl p ≠ [] := fun q => h.ne (sl_inj (by rw [q]; rfl))
/-- the render of a stack -/
def rend (stk : List Str) : Str :=
  let y := Txt.join (Str.ofString "/") stk
  if y.length = 0 then Str.ofString "." else y
theorem normP_eq (x : Str) : normP x = rend ((Txt.split x (Str.ofString "/")).foldl nstep []) := rfl
theorem readP_eq (names : List Str) : readP names = rend (List.replicate (names.foldr rstep (0, [])).1 (Str.ofString "..") ++ (names.foldr rstep (0, [])).2) := rfl
abbrev upN (a : Nat) : List Str := List.replicate a (Str.ofString "..")
/-- a stack in its normal shape -/
def Norm (a : Nat) (ks : List Str) : Prop := ∀ k ∈ ks, GoodN k ∧ k ≠ Str.ofString "." ∧ k ≠ Str.ofString ".."
theorem good_up : GoodN (Str.ofString "..") := ⟨by decide +kernel, by decide +kernel, by decide +kernel⟩
theorem good_dot : GoodN (Str.ofString ".") := ⟨by decide +kernel, by decide +kernel, by decide +kernel⟩
theorem upN_snoc (a : Nat) : upN a ++ [Str.ofString ".."] = upN (a + 1) := by rw [upN, upN, List.replicate_succ']
theorem nstep_up (a : Nat) : nstep (upN a) (Str.ofString "..") = upN (a + 1) := by
  cases a with
  | zero => exact nstep_up0
  | succ a => rw [← upN_snoc a, nstep_up1, upN_snoc, upN_snoc]
theorem fold_ups : ∀ a b : Nat, (upN a).foldl nstep (upN b) = upN (b + a)
  | 0, b => rfl
  | a + 1, b => by
    rw [show upN (a + 1) = Str.ofString ".." :: upN a from rfl, List.foldl_cons, nstep_up]
    have := fold_ups a (b + 1)
    rw [this]
    congr 1
    omega
theorem fold_names {a : Nat} : ∀ {ks st : List Str}, Norm a ks → ks.foldl nstep st = st ++ ks
  | [], st, _ => by simp
  | k :: ks, st, h => by
    obtain ⟨h1, h2, h3⟩ := h k (.head _)
    rw [List.foldl_cons, nstep_name h1.ne h2 h3, fold_names (a := a) fun x hx => h x (.tail _ hx)]
    simp
theorem fold_self {a : Nat} {ks : List Str} (h : Norm a ks) : (upN a ++ ks).foldl nstep [] = upN a ++ ks := by
  rw [List.foldl_append]
  have := fold_ups a 0
  rw [show upN 0 = [] from rfl, Nat.zero_add] at this
  rw [this, fold_names h]
/-- a walk over names, read from the end -/
theorem fold_read : ∀ (names : List Str) (a : Nat) (ks : List Str), Norm a ks → (∀ c ∈ names, GoodN c) →
    names.foldl nstep (upN a ++ ks) = if (names.foldr rstep (0, [])).1 ≤ ks.length then upN a ++ ks.take (ks.length - (names.foldr rstep (0, [])).1) ++ (names.foldr rstep (0, [])).2 else upN (a + ((names.foldr rstep (0, [])).1 - ks.length)) ++ (names.foldr rstep (0, [])).2
  | [], a, ks, _, _ => by simp
  | c :: r, a, ks, hk, hg => by
    have hr := fun x hx => hg x (.tail _ hx)
    have hc := hg c (.head _)
    rw [List.foldl_cons, List.foldr_cons]
    generalize hfr : r.foldr rstep (0, []) = q
    by_cases c1 : c = Str.ofString ".."
    · have hs : rstep c q = (q.1 + 1, q.2) := by unfold rstep; rw [if_pos c1]
      rw [hs]
      rcases List.eq_nil_or_concat ks with rfl | ⟨ks', z, rfl⟩
      · have e : nstep (upN a ++ []) c = upN (a + 1) ++ [] := by rw [List.append_nil, List.append_nil, c1, nstep_up]
        rw [e, fold_read r (a + 1) [] (fun _ h => no_mem h) hr, hfr]
        rw [if_neg (show ¬ q.1 + 1 ≤ ([] : List Str).length by simp)]
        by_cases hq : q.1 ≤ ([] : List Str).length
        · rw [if_pos hq]
          have : q.1 = 0 := by simpa using hq
          simp [this]
        · rw [if_neg hq]
          simp only [List.length_nil, Nat.sub_zero]
          rw [Nat.add_right_comm a 1 q.1, Nat.add_assoc a q.1 1]
      · rw [List.concat_eq_append] at hk ⊢
        obtain ⟨-, -, hz⟩ := hk z (by simp)
        have e : nstep (upN a ++ (ks' ++ [z])) c = upN a ++ ks' := by rw [← List.append_assoc, c1, nstep_up2 hz]
        rw [e, fold_read r a ks' (fun x hx => hk x (List.mem_append_left _ hx)) hr, hfr]
        simp only [List.length_append, List.length_singleton]
        by_cases hq : q.1 ≤ ks'.length
        · rw [if_pos hq, if_pos (Nat.succ_le_succ hq), Nat.add_sub_add_right ks'.length 1 q.1, List.take_append_of_le_length (Nat.sub_le _ _)]
        · rw [if_neg hq, if_neg (fun h => hq (Nat.le_of_succ_le_succ h)), Nat.add_sub_add_right q.1 1 ks'.length]
    · by_cases c2 : c = Str.ofString "."
      · have hs : rstep c q = q := by unfold rstep; rw [if_neg c1, if_neg (fun h => h.1 c2), if_neg (fun h => h c2)]
        rw [hs, c2, nstep_dot, fold_read r a ks hk hr, hfr]
      · have e : nstep (upN a ++ ks) c = upN a ++ (ks ++ [c]) := by rw [nstep_name hc.ne c2 c1, List.append_assoc]
        have hk' : Norm a (ks ++ [c]) := fun x hx => by
          rcases List.mem_append.mp hx with hx | hx
          · exact hk x hx
          · rw [List.mem_singleton.mp hx]; exact ⟨hc, c2, c1⟩
        rw [e, fold_read r a (ks ++ [c]) hk' hr, hfr]
        simp only [List.length_append, List.length_singleton]
        by_cases c3 : 0 < q.1
        · have hs : rstep c q = (q.1 - 1, q.2) := by unfold rstep; rw [if_neg c1, if_pos ⟨c2, c3⟩]
          rw [hs]
          by_cases hq : q.1 ≤ ks.length + 1
          · rw [if_pos hq, if_pos (Nat.sub_le_of_le_add hq), List.take_append_of_le_length (by (clear c1 c2; omega)), show ks.length + 1 - q.1 = ks.length - (q.1 - 1) from (Nat.sub_sub_right ks.length c3).symm]
          · rw [if_neg hq, if_neg (fun h => hq (Nat.le_add_of_sub_le h)), show q.1 - (ks.length + 1) = q.1 - 1 - ks.length by rw [Nat.sub_sub, Nat.add_comm]]
        · have hq0 : q.1 = 0 := by (clear c1 c2; omega)
          have hs : rstep c q = (q.1, c :: q.2) := by unfold rstep; rw [if_neg c1, if_neg (fun h => c3 h.2), if_pos c2]
          rw [hs, hq0, if_pos (Nat.zero_le _), if_pos (Nat.zero_le _), Nat.sub_zero, Nat.sub_zero, List.take_of_length_le (by simp), List.take_of_length_le (by simp)]
          simp
theorem read_fold {names : List Str} (hg : ∀ c ∈ names, GoodN c) : readP names = rend (names.foldl nstep []) := by
  have := fold_read names 0 [] (fun _ h => no_mem h) hg
  rw [show upN 0 ++ [] = ([] : List Str) from rfl] at this
  rw [this, readP_eq]
  by_cases h : (names.foldr rstep (0, [])).1 ≤ ([] : List Str).length
  · rw [if_pos h]
    have : (names.foldr rstep (0, [])).1 = 0 := by simpa using h
    rw [this]
    simp
  · rw [if_neg h]
    simp

theorem rfold_mem : ∀ (names : List Str), ∀ x ∈ (names.foldr rstep (0, [])).2, x ∈ names ∧ x ≠ Str.ofString "." ∧ x ≠ Str.ofString ".."
  | [], x, h => no_mem h
  | c :: r, x, h => by
    have ih := rfold_mem r
    rw [List.foldr_cons] at h
    generalize r.foldr rstep (0, []) = q at *
    unfold rstep at h
    by_cases c1 : c = Str.ofString ".."
    · rw [if_pos c1] at h
      obtain ⟨a, b⟩ := ih x h
      exact ⟨.tail _ a, b⟩
    · rw [if_neg c1] at h
      by_cases c3 : c ≠ Str.ofString "." ∧ 0 < q.1
      · rw [if_pos c3] at h
        obtain ⟨a, b⟩ := ih x h
        exact ⟨.tail _ a, b⟩
      · rw [if_neg c3] at h
        by_cases c2 : c ≠ Str.ofString "."
        · rw [if_pos c2] at h
          rcases List.mem_cons.mp h with rfl | h
          · exact ⟨.head _, c2, c1⟩
          · obtain ⟨a, b⟩ := ih x h
            exact ⟨.tail _ a, b⟩
        · rw [if_neg c2] at h
          obtain ⟨a, b⟩ := ih x h
          exact ⟨.tail _ a, b⟩
theorem norm_fold {names : List Str} {a : Nat} {ks : List Str} (h : Norm a ks) (hg : ∀ c ∈ names, GoodN c) : ∃ a' ks', names.foldl nstep (upN a ++ ks) = upN a' ++ ks' ∧ Norm a' ks' := by
  have e := fold_read names a ks h hg
  have hm := rfold_mem names
  by_cases hq : (names.foldr rstep (0, [])).1 ≤ ks.length
  · rw [if_pos hq] at e
    refine ⟨a, _, by rw [e, List.append_assoc], fun x hx => ?_⟩
    rcases List.mem_append.mp hx with hx | hx
    · exact h x (List.mem_of_mem_take hx)
    · obtain ⟨m1, m2, m3⟩ := hm x hx
      exact ⟨hg x m1, m2, m3⟩
  · rw [if_neg hq] at e
    refine ⟨_, _, e, fun x hx => ?_⟩
    obtain ⟨m1, m2, m3⟩ := hm x hx
    exact ⟨hg x m1, m2, m3⟩
theorem norm_all {a : Nat} {ks : List Str} (h : Norm a ks) : ∀ x ∈ upN a ++ ks, GoodN x := fun x hx => by
  rcases List.mem_append.mp hx with hx | hx
  · rw [(List.mem_replicate.mp hx).2]; exact good_up
  · exact (h x hx).1
def rep (stk : List Str) : List Str := if stk = [] then [Str.ofString "."] else stk
theorem rep_ne (stk : List Str) : rep stk ≠ [] := by
  unfold rep
  split
  · simp
  · assumption
theorem rep_good {stk : List Str} (h : ∀ x ∈ stk, GoodN x) : ∀ x ∈ rep stk, GoodN x := fun x hx => by
  unfold rep at hx
  split at hx
  · rw [List.mem_singleton.mp hx]; exact good_dot
  · exact h x hx
theorem joinL_append {α : Type} (sep : List α) : ∀ {xs ys : List (List α)}, xs ≠ [] → ys ≠ [] → joinL sep (xs ++ ys) = joinL sep xs ++ sep ++ joinL sep ys
  | [], _, h, _ => absurd rfl h
  | [x], ys, _, hy => by
    cases ys with
    | nil => exact absurd rfl hy
    | cons y r => simp [joinL]
  | x :: z :: r, ys, _, hy => by
    have := joinL_append sep (xs := z :: r) (ys := ys) (by simp) hy
    show joinL sep (x :: z :: (r ++ ys)) = _
    rw [joinL]
    rw [show z :: (r ++ ys) = z :: r ++ ys from rfl, this]
    rw [joinL]
    simp [List.append_assoc]
/-- a join of good parts: not empty, its first and last sign are no slash -/
theorem join_first {p : Str} {r : List Str} (h : GoodN p) : (sl (Txt.join (Str.ofString "/") (p :: r)))[0]? ≠ some 47 ∧ (Txt.join (Str.ofString "/") (p :: r)).length ≠ 0 := by
  have e : ∃ t, sl (Txt.join (Str.ofString "/") (p :: r)) = sl p ++ t := by
    rw [sl_join, List.map_cons]
    cases r with
    | nil => exact ⟨[], by simp [joinL]⟩
    | cons q r => exact ⟨_, by rw [List.map_cons, joinL, List.append_assoc]⟩
  obtain ⟨t, e⟩ := e
  have hp := h.pos
  have hf := h.free
  constructor
  · rw [e]
    cases hs : sl p with
    | nil => exact absurd hs hp
    | cons a b =>
      simp only [List.cons_append, List.getElem?_cons_zero]
      intro q
      rw [Option.some.inj q] at hs
      rw [hs] at hf
      exact hf (.head _)
  · rw [← sl_len, e]
    cases hs : sl p with
    | nil => exact absurd hs hp
    | cons a b => simp
theorem join_last {p : Str} {r : List Str} (h : GoodN p) : (sl (Txt.join (Str.ofString "/") (r ++ [p]))).getLast? ≠ some 47 := by
  rw [sl_join, List.map_append, List.map_cons, List.map_nil, joinL_snoc]
  have hp := h.pos
  have hf := h.free
  rw [List.getLast?_append]
  intro q
  cases hs : (sl p).getLast? with
  | none => rw [List.getLast?_eq_none_iff] at hs; exact hp hs
  | some z =>
    rw [hs] at q
    have : z = 47 := by simpa using q
    subst this
    exact hf (List.mem_of_getLast? hs)
theorem rend_rep {stk : List Str} (h : ∀ x ∈ stk, GoodN x) : rend stk = Txt.join (Str.ofString "/") (rep stk) := by
  cases stk with
  | nil => decide +kernel
  | cons p r =>
    have := (join_first (r := r) (h p (.head _))).2
    unfold rend
    dsimp only
    rw [if_neg this]
    rfl
theorem rep_fold {a : Nat} {ks : List Str} (h : Norm a ks) : (rep (upN a ++ ks)).foldl nstep [] = upN a ++ ks := by
  unfold rep
  split
  · rename_i e
    rw [e]
    exact nstep_dot
  · exact fold_self h
theorem norm_join {parts : List Str} (hne : parts ≠ []) (hf : ∀ p ∈ parts, 47 ∉ sl p) : normP (Txt.join (Str.ofString "/") parts) = rend (parts.foldl nstep []) := by
  rw [normP_eq, split_join slash_is hne hf]
/-- a row laid behind a place -/
theorem joinP_rend {stk parts : List Str} (h : ∀ x ∈ stk, GoodN x) (hne : parts ≠ []) : joinP (rend stk) (Txt.join (Str.ofString "/") parts) = Txt.join (Str.ofString "/") (rep stk ++ parts) := by
  rw [rend_rep h]
  have hg := rep_good h
  have hr := rep_ne stk
  generalize rep stk = rs at *
  obtain ⟨p, r, rfl⟩ : ∃ p r, rs = p :: r := by
    cases rs with
    | nil => exact absurd rfl hr
    | cons p r => exact ⟨p, r, rfl⟩
  have h1 := (join_first (r := r) (hg p (.head _))).2
  obtain ⟨r', z, e⟩ := snoc_of hr
  have h2 : Txt.endswith (Txt.join (Str.ofString "/") (p :: r)) (Str.ofString "/") = false := by
    rw [ends_slash, e]
    exact decide_eq_false (join_last (hg z (by rw [e]; simp)))
  unfold joinP
  rw [if_neg h1, h2, if_neg (by decide)]
  apply sl_inj
  rw [sl_append, sl_append, sl_slash, sl_join, sl_join, sl_join, sl_slash, List.map_append, joinL_append _ (by simp) (by simpa using hne)]
  simp [List.append_assoc]
theorem place_next {a : Nat} {ks parts : List Str} (h : Norm a ks) (hne : parts ≠ []) (hf : ∀ p ∈ parts, 47 ∉ sl p) : normP (joinP (rend (upN a ++ ks)) (Txt.join (Str.ofString "/") parts)) = rend (parts.foldl nstep (upN a ++ ks)) := by
  rw [joinP_rend (norm_all h) hne, norm_join (by simp [hne]) (fun p hp => ?_), List.foldl_append, rep_fold h]
  rcases List.mem_append.mp hp with hp | hp
  · exact (rep_good (norm_all h) p hp).free
  · exact hf p hp
/-- the rows, by their names -/
abbrev midrow (s : List Str) : Str := rowOf (s.map sfx)
abbrev endrow (s : List Str) (last : Str) : Str := rowOf (s.map sfx ++ [last])
theorem joinP_pre (pre : List Str) (y : Str) : sl (joinP (rowOf (pre.map sfx)) y) = sl (rowOf (pre.map sfx)) ++ sl y := by
  rcases List.eq_nil_or_concat pre with rfl | ⟨pr, z, rfl⟩
  · have e : rowOf (([] : List Str).map sfx) = Str.ofString "" := by decide +kernel
    rw [e]
    unfold joinP
    rw [if_pos (by decide)]
    rfl
  · rw [List.concat_eq_append]
    have hl : (sl (rowOf ((pr ++ [z]).map sfx))).getLast? = some 47 := by
      rw [sl_rowOf, List.map_append, List.map_append, List.map_cons, List.map_nil, List.map_cons, List.map_nil, List.flatten_append, List.flatten_cons, List.flatten_nil, List.append_nil, sl_sfx, ← List.append_assoc]
      simp
    have hn : (rowOf ((pr ++ [z]).map sfx)).length ≠ 0 := by
      rw [← sl_len]
      intro q
      rw [List.length_eq_zero_iff] at q
      rw [q] at hl; cases hl
    unfold joinP
    rw [if_neg hn, ends_slash, hl, if_pos (by simp), sl_append]
theorem whole_mid : ∀ (segs : List (List Str)) (pre : List Str), (segs.map midrow).foldl joinP (rowOf (pre.map sfx)) = rowOf ((pre ++ segs.flatten).map sfx)
  | [], pre => by simp
  | s :: r, pre => by
    have e : joinP (rowOf (pre.map sfx)) (midrow s) = rowOf ((pre ++ s).map sfx) := by
      apply sl_inj
      rw [joinP_pre, sl_rowOf, sl_rowOf, sl_rowOf, List.map_append, List.map_append, List.flatten_append]
    rw [List.map_cons, List.foldl_cons, e, whole_mid r (pre ++ s), List.flatten_cons, List.append_assoc]
theorem whole_end (segs : List (List Str)) (sg : List Str) (last : Str) : (segs.map midrow ++ [endrow sg last]).foldl joinP (Str.ofString "") = Txt.join (Str.ofString "/") (segs.flatten ++ sg ++ [last]) := by
  have e0 : Str.ofString "" = rowOf (([] : List Str).map sfx) := by decide +kernel
  rw [List.foldl_append, e0, whole_mid segs [], List.nil_append, List.foldl_cons, List.foldl_nil, ← row_end]
  apply sl_inj
  rw [joinP_pre, sl_rowOf, sl_rowOf, sl_rowOf]
  simp
theorem rows_concat (segs : List (List Str)) (sg : List Str) (last : Str) : Txt.join (Str.ofString "") (segs.map midrow ++ [endrow sg last]) = Txt.join (Str.ofString "/") (segs.flatten ++ sg ++ [last]) := by
  rw [← row_end]
  apply sl_inj
  rw [sl_join, sl_rowOf]
  show joinL [] _ = _
  rw [joinL_nil, List.map_append, List.map_cons, List.map_nil, List.flatten_append, List.map_map]
  simp only [List.map_append, List.map_cons, List.map_nil, List.flatten_append, List.flatten_cons, List.flatten_nil, List.append_nil, sl_rowOf]
  rw [← List.append_assoc]
  congr 1
  congr 1
  induction segs with
  | nil => rfl
  | cons s r ih => simp [ih, sl_rowOf]
theorem mid_free (s : List Str) (h : ∀ c ∈ s, GoodN c) : ∀ p ∈ s ++ [Str.ofString ""], 47 ∉ sl p := fun p hp => by
  rcases List.mem_append.mp hp with hp | hp
  · exact (h p hp).free
  · rw [List.mem_singleton.mp hp]; decide +kernel
theorem fold_tail (s : List Str) (st : List Str) : (s ++ [Str.ofString ""]).foldl nstep st = s.foldl nstep st := by
  rw [List.foldl_append]
  exact nstep_nil
abbrev plStep : Str → Str → Str := fun p r => normP (joinP p r)
theorem place_mid : ∀ (segs : List (List Str)) (a : Nat) (ks : List Str), Norm a ks → (∀ s ∈ segs, ∀ c ∈ s, GoodN c) → (segs.map midrow).foldl plStep (rend (upN a ++ ks)) = rend (segs.flatten.foldl nstep (upN a ++ ks))
  | [], a, ks, _, _ => rfl
  | s :: r, a, ks, h, hg => by
    have hs := hg s (.head _)
    have e : plStep (rend (upN a ++ ks)) (midrow s) = rend (s.foldl nstep (upN a ++ ks)) := by
      show normP (joinP _ (rowOf (s.map sfx))) = _
      rw [row_mid, place_next h (by simp) (mid_free s hs), fold_tail]
    obtain ⟨a', ks', e2, h2⟩ := norm_fold h hs
    rw [List.map_cons, List.foldl_cons, e, e2, place_mid r a' ks' h2 fun s' hs' => hg s' (.tail _ hs'), List.flatten_cons, List.foldl_append, e2]
theorem joinP_empty (y : Str) : joinP (Str.ofString "") y = y := by
  unfold joinP
  rw [if_pos (by decide)]
theorem place_first {segs : List (List Str)} (hne : segs ≠ []) (hg : ∀ s ∈ segs, ∀ c ∈ s, GoodN c) : (segs.map midrow).foldl plStep (Str.ofString "") = rend (segs.flatten.foldl nstep []) := by
  cases segs with
  | nil => exact absurd rfl hne
  | cons s r =>
    have hs := hg s (.head _)
    have e : plStep (Str.ofString "") (midrow s) = rend (s.foldl nstep (upN 0 ++ [])) := by
      show normP (joinP _ (rowOf (s.map sfx))) = _
      rw [joinP_empty, row_mid, norm_join (by simp) (mid_free s hs), fold_tail]
      rfl
    obtain ⟨a', ks', e2, h2⟩ := norm_fold (a := 0) (ks := []) (fun _ h => no_mem h) hs
    rw [List.map_cons, List.foldl_cons, e, e2, place_mid r a' ks' h2 fun s' hs' => hg s' (.tail _ hs'), List.flatten_cons, List.foldl_append, ← e2]
    rfl
/-- the place before a row: nothing yet, or a stack's render -/
theorem place_at (segs : List (List Str)) (hg : ∀ s ∈ segs, ∀ c ∈ s, GoodN c) : ((segs.map midrow).foldl plStep (Str.ofString "") = Str.ofString "" ∧ segs = []) ∨ ∃ a ks, (segs.map midrow).foldl plStep (Str.ofString "") = rend (upN a ++ ks) ∧ Norm a ks ∧ segs.flatten.foldl nstep [] = upN a ++ ks := by
  by_cases h : segs = []
  · subst h; exact .inl ⟨rfl, rfl⟩
  · obtain ⟨a, ks, e, hn⟩ := norm_fold (names := segs.flatten) (a := 0) (ks := []) (fun _ h => no_mem h) (fun c hc => by
      obtain ⟨s, hs, hc⟩ := List.mem_flatten.mp hc
      exact hg s hs c hc)
    have e' : segs.flatten.foldl nstep [] = upN a ++ ks := e
    exact .inr ⟨a, ks, by rw [place_first h hg, e'], hn, e'⟩
theorem place_end {segs : List (List Str)} {sg : List Str} {last : Str} (hg : ∀ s ∈ segs, ∀ c ∈ s, GoodN c) (hs : ∀ c ∈ sg ++ [last], GoodN c) : (segs.map midrow ++ [endrow sg last]).foldl plStep (Str.ofString "") = rend ((segs.flatten ++ sg ++ [last]).foldl nstep []) := by
  rw [List.foldl_append, List.foldl_cons, List.foldl_nil]
  show normP (joinP _ (rowOf (sg.map sfx ++ [last]))) = _
  rw [row_end, List.append_assoc, List.foldl_append (l := segs.flatten)]
  rcases place_at segs hg with ⟨e, rfl⟩ | ⟨a, ks, e, hn, e2⟩
  · rw [e, joinP_empty, norm_join (by simp) fun p hp => (hs p hp).free]
    rfl
  · rw [e, place_next hn (by simp) (fun p hp => (hs p hp).free), e2]

theorem good_sum : ∀ {ps : List Str}, (∀ p ∈ ps, GoodN p) → (ps.map (·.length)).sum ≤ 4 * ps.length
  | [], _ => by simp
  | p :: r, h => by
    have := good_sum fun x hx => h x (.tail _ hx)
    have := (h p (.head _)).len
    rw [List.map_cons, List.sum_cons, List.length_cons]
    omega
theorem len_join (ps : List Str) : (Txt.join (Str.ofString "/") ps).length ≤ (ps.map (·.length)).sum + ps.length := by
  have h := StrLaws.join_length_le (Str.ofString "/") ps
  rw [show (Str.ofString "/").length = 1 from rfl, Nat.mul_one] at h
  rwa [show Txt.join (Str.ofString "/") ps = Str.join (Str.ofString "/") ps from StrLaws.glued_eq_join _ _]
theorem len_joinP (x y : Str) : (joinP x y).length ≤ x.length + y.length + 1 := by
  have ha : ∀ a b : Str, (a ++ b).length = a.length + b.length := fun a b => by rw [← sl_len, sl_append, List.length_append, sl_len, sl_len]
  unfold joinP
  split
  · omega
  · split
    · rw [ha]; omega
    · rw [ha, ha, show (Str.ofString "/").length = 1 from rfl]; omega
theorem len_rend (names : List Str) (h : ∀ p ∈ names, GoodN p) (hl : names.length ≤ 20) : (rend (names.foldl nstep [])).length ≤ 200 := by
  have h1 := nfold_sum names []
  have h2 := nfold_len names []
  have h3 := good_sum h
  have h4 := len_join (names.foldl nstep [])
  simp only [List.map_nil, List.sum_nil, List.length_nil] at h1 h2
  unfold rend
  dsimp only
  split
  · decide
  · omega
theorem len_mid (s : List Str) (h : ∀ p ∈ s, GoodN p) (hl : s.length ≤ 20) : (midrow s).length ≤ 200 := by
  show (rowOf (s.map sfx)).length ≤ _
  rw [row_mid]
  have h4 := len_join (s ++ [Str.ofString ""])
  have h3 := good_sum h
  rw [List.map_append, List.sum_append, List.length_append] at h4
  simp only [List.map_cons, List.map_nil, List.sum_cons, List.sum_nil, List.length_cons, List.length_nil, show (Str.ofString "").length = 0 from rfl] at h4
  omega
theorem len_names (s : List Str) (h : ∀ p ∈ s, GoodN p) (hl : s.length ≤ 20) : (Txt.join (Str.ofString "/") s).length ≤ 200 := by
  have h4 := len_join s
  have h3 := good_sum h
  omega
/-- what _law_rows_hold asks of its rows -/
structure RowsOK (rows names : List Str) (last : Str) : Prop where
  rl : rows.length ≤ 200
  rl0 : 0 < rows.length
  row : ∀ (i : Nat) (r : Str), rows[i]? = some r → r.length ≤ 1000 ∧ r.length ≠ 0 ∧ Txt.startswith r (Str.ofString "/") = false
  whole : ∀ i : Nat, i ≤ rows.length → ((rows.take i).foldl joinP (Str.ofString "")).length ≤ 50000
  place : ∀ i : Nat, i ≤ rows.length → ((rows.take i).foldl (fun p r => normP (joinP p r)) (Str.ofString "")).length ≤ 50000
  step : ∀ (i : Nat) (r : Str), rows[i]? = some r → (joinP ((rows.take i).foldl (fun p r => normP (joinP p r)) (Str.ofString "")) r).length ≤ 60000 ∧ (Txt.slice (joinP ((rows.take i).foldl (fun p r => normP (joinP p r)) (Str.ofString "")) r) none (some 1) != Str.ofString "/") = true ∧ (joinP ((rows.take i).foldl (fun p r => normP (joinP p r)) (Str.ofString "")) r).length ≠ 0
  w0 : (rows.foldl joinP (Str.ofString "")).length ≠ 0
  ws : (Txt.slice (rows.foldl joinP (Str.ofString "")) none (some 1) != Str.ofString "/") = true
  H1 : Txt.join (Str.ofString "/") names = rows.foldl joinP (Str.ofString "")
  H2 : Txt.join (Str.ofString "") rows = rows.foldl joinP (Str.ofString "")
  H3 : rows.map splitT = List.replicate (rows.length - 1) (Str.ofString "") ++ [last]
  last : names.getLast? = some last
  H4 : rows.foldl (fun p r => normP (joinP p r)) (Str.ofString "") = readP names
  H5 : normP (rows.foldl joinP (Str.ofString "")) = rows.foldl (fun p r => normP (joinP p r)) (Str.ofString "")
  jn : JoinOk (Str.ofString "/") names = true
  jr : JoinOk (Str.ofString "") rows = true
section
variable {segs : List (List Str)} {sg : List Str} {last : Str}
theorem flat_len {s : List Str} (hs : s ∈ segs) : s.length ≤ segs.flatten.length := by
  induction segs with
  | nil => cases hs
  | cons x r ih =>
    rw [List.flatten_cons, List.length_append]
    rcases List.mem_cons.mp hs with rfl | hs
    · omega
    · have := ih hs; omega
theorem segs_len (hne : ∀ s ∈ segs, s ≠ []) : segs.length ≤ segs.flatten.length := by
  induction segs with
  | nil => simp
  | cons x r ih =>
    have := ih fun s hs => hne s (.tail _ hs)
    have hx := List.length_pos_iff.mpr (hne x (.head _))
    rw [List.flatten_cons, List.length_append, List.length_cons]
    omega
/-- a row, by its parts -/
theorem row_parts (hne : ∀ s ∈ segs, s ≠ []) (hg : ∀ s ∈ segs, ∀ c ∈ s, GoodN c) (hs : ∀ c ∈ sg ++ [last], GoodN c) (hN : (segs.flatten ++ sg ++ [last]).length ≤ 20) {i : Nat} {r : Str} (h : (segs.map midrow ++ [endrow sg last])[i]? = some r) :
    ∃ p t, r = Txt.join (Str.ofString "/") (p :: t) ∧ GoodN p ∧ (∀ x ∈ p :: t, 47 ∉ sl x) ∧ r.length ≤ 200 := by
  simp only [List.length_append, List.length_singleton] at hN
  rcases Nat.lt_or_ge i segs.length with hi | hi
  · rw [List.getElem?_append_left (by simpa using hi), List.getElem?_map, List.getElem?_eq_getElem hi] at h
    have hr : midrow segs[i] = r := by simpa using h
    have hm : segs[i] ∈ segs := List.getElem_mem hi
    have hfl := flat_len hm
    generalize segs[i] = s at *
    have hl := len_mid s (hg s hm) (by (clear hi; omega))
    subst hr
    cases hsc : s with
    | nil => exact absurd hsc (hne s hm)
    | cons p t =>
      rw [hsc] at hl hm
      refine ⟨p, t ++ [Str.ofString ""], row_mid (p :: t), hg _ hm p (.head _), ?_, hl⟩
      exact mid_free (p :: t) (hg _ hm)
  · rw [List.getElem?_append_right (by simpa using hi)] at h
    have hz : i - (segs.map midrow).length = 0 := by
      have := (List.getElem?_eq_some_iff.mp h).1
      simp at this ⊢
      (clear hN hi; omega)
    rw [hz] at h
    have hr : endrow sg last = r := by simpa using h
    subst hr
    have e : endrow sg last = Txt.join (Str.ofString "/") (sg ++ [last]) := row_end sg last
    have hl : (endrow sg last).length ≤ 200 := by
      rw [e]
      exact len_names _ hs (by simp; (clear hi hz; omega))
    cases hsc : sg ++ [last] with
    | nil => simp at hsc
    | cons p t =>
      refine ⟨p, t, by rw [e, hsc], hs p (by rw [hsc]; exact .head _), fun x hx => (hs x (by rw [hsc]; exact hx)).free, hl⟩
theorem rows_ok (hne : ∀ s ∈ segs, s ≠ []) (hg : ∀ s ∈ segs, ∀ c ∈ s, GoodN c) (hs : ∀ c ∈ sg ++ [last], GoodN c) (hN : (segs.flatten ++ sg ++ [last]).length ≤ 20) : RowsOK (segs.map midrow ++ [endrow sg last]) (segs.flatten ++ sg ++ [last]) last := by
  have hgn : ∀ c ∈ segs.flatten ++ sg ++ [last], GoodN c := fun c hc => by
    rw [List.append_assoc] at hc
    rcases List.mem_append.mp hc with hc | hc
    · obtain ⟨s, hs', hc'⟩ := List.mem_flatten.mp hc
      exact hg s hs' c hc'
    · exact hs c hc
  have hrl : (segs.map midrow ++ [endrow sg last]).length = segs.length + 1 := by simp
  have hsl := segs_len hne
  have hN' := hN
  simp only [List.length_append, List.length_singleton] at hN'
  have htake : ∀ i, i ≤ segs.length → (segs.map midrow ++ [endrow sg last]).take i = (segs.take i).map midrow := fun i hi => by
    rw [List.take_append_of_le_length (by simpa using hi), List.map_take]
  have hg2 : ∀ i, ∀ s ∈ segs.take i, ∀ c ∈ s, GoodN c := fun i s hs => hg s (List.mem_of_mem_take hs)
  have hfl2 : ∀ i, (segs.take i).flatten.length ≤ segs.flatten.length := fun i => by
    have h : segs.flatten = (segs.take i).flatten ++ (segs.drop i).flatten := by rw [← List.flatten_append, List.take_append_drop]
    rw [h, List.length_append]; (clear hN hrl hsl hN'; omega)
  have hgf : ∀ i, ∀ c ∈ (segs.take i).flatten, GoodN c := fun i c hc => by
    obtain ⟨s, hs', hc'⟩ := List.mem_flatten.mp hc
    exact hg2 i s hs' c hc'
  have hplace : ∀ i : Nat, i ≤ (segs.map midrow ++ [endrow sg last]).length → (((segs.map midrow ++ [endrow sg last]).take i).foldl plStep (Str.ofString "")).length ≤ 300 := fun i hi => by
    rcases Nat.lt_or_ge segs.length i with h | h
    · rw [List.take_of_length_le (by (clear hN hsl hN'; omega)), place_end hg hs]
      exact Nat.le_trans (len_rend _ hgn hN) (by (clear hN hrl hsl hN' hi h; omega))
    · rw [htake i h]
      rcases place_at (segs.take i) (hg2 i) with ⟨e, -⟩ | ⟨a, ks, e, hn, e2⟩
      · rw [e]; decide
      · rw [e, ← e2]
        have := hfl2 i
        exact Nat.le_trans (len_rend _ (hgf i) (by (clear hN hrl hsl hi h; omega))) (by (clear hN hrl hsl hN' hi h this; omega))
  have hwe := whole_end segs sg last
  have hcons : ∃ p t, segs.flatten ++ sg ++ [last] = p :: t := by
    cases e : segs.flatten ++ sg ++ [last] with
    | nil => simp at e
    | cons p t => exact ⟨p, t, rfl⟩
  obtain ⟨p0, t0, ep0⟩ := hcons
  have hj := join_first (p := p0) (r := t0) (hgn p0 (by rw [ep0]; exact .head _))
  refine ⟨by (clear hN hj; omega), by (clear hN hsl hN' hj; omega), fun i r h => ?_, fun i hi => ?_, fun i hi => Nat.le_trans (hplace i hi) (by (clear hN hrl hsl hN' hj hi; omega)), fun i r h => ?_, ?_, ?_, hwe.symm, by rw [rows_concat, hwe], ?_, by simp, ?_, ?_, ?_, ?_⟩
  · obtain ⟨p, t, e, hp, -, hl⟩ := row_parts hne hg hs hN h
    have := join_first (r := t) hp
    rw [← e] at this
    exact ⟨by (clear hN hrl hsl hN' hj this; omega), this.2, by rw [starts_slash]; exact decide_eq_false this.1⟩
  · rcases Nat.lt_or_ge segs.length i with h | h
    · rw [List.take_of_length_le (by (clear hN hsl hN' hj; omega)), hwe]
      exact Nat.le_trans (len_names _ hgn hN) (by (clear hN hrl hsl hN' hj hi h; omega))
    · have e0 : Str.ofString "" = rowOf (([] : List Str).map sfx) := by decide +kernel
      rw [htake i h, e0, whole_mid, List.nil_append]
      have := hfl2 i
      exact Nat.le_trans (len_mid _ (hgf i) (by (clear hN hrl hsl hj hi h; omega))) (by (clear hN hrl hsl hN' hj hi h this; omega))
  · obtain ⟨p, t, e, hp, hf, hl⟩ := row_parts hne hg hs hN h
    have hi : i < segs.length + 1 := by rw [← hrl]; exact (List.getElem?_eq_some_iff.mp h).1
    have hpl := hplace i (by (clear hN hsl hN' hj hl; omega))
    have hlj := len_joinP (((segs.map midrow ++ [endrow sg last]).take i).foldl plStep (Str.ofString "")) r
    have key : ∃ q u, joinP (((segs.map midrow ++ [endrow sg last]).take i).foldl plStep (Str.ofString "")) r = Txt.join (Str.ofString "/") (q :: u) ∧ GoodN q := by
      rw [htake i (by (clear hN hrl hsl hN' hj hl hpl hlj; omega))]
      rcases place_at (segs.take i) (hg2 i) with ⟨e2, -⟩ | ⟨a, ks, e2, hn, -⟩
      · rw [e2, joinP_empty]
        exact ⟨p, t, e, hp⟩
      · rw [e2, e, joinP_rend (norm_all hn) (by simp)]
        have hr := rep_good (norm_all hn)
        cases hc : rep (upN a ++ ks) with
        | nil => exact absurd hc (rep_ne _)
        | cons q u => exact ⟨q, u ++ p :: t, rfl, hr q (by rw [hc]; exact .head _)⟩
    obtain ⟨q, u, e3, hq⟩ := key
    have h3 := join_first (r := u) hq
    rw [← e3] at h3
    exact ⟨Nat.le_trans hlj (by (clear hN hrl hsl hN' hj hi hlj h3; omega)), slice_first h3.2 h3.1, h3.2⟩
  · rw [hwe, ep0]; exact hj.2
  · rw [hwe, ep0]; exact slice_first hj.2 hj.1
  · rw [List.map_append, List.map_cons, List.map_nil, hrl, Nat.add_sub_cancel, List.map_map]
    congr 1
    · clear hplace htake hwe ep0 hj hgn hrl hsl hN' hN hg2 hfl2 hgf
      induction segs with
      | nil => rfl
      | cons s r ih =>
        rw [List.map_cons, List.length_cons, List.replicate_succ, ih (fun s hs => hne s (.tail _ hs)) fun s hs => hg s (.tail _ hs)]
        congr 1
        apply sl_inj
        obtain ⟨s', z, e⟩ := snoc_of (hne s (.head _))
        have : sl (midrow s) = ((s'.map sfx).map sl).flatten ++ sl z ++ 47 :: [] := by
          show sl (rowOf (s.map sfx)) = _
          rw [sl_rowOf, e]
          simp [sl_sfx, List.append_assoc]
        exact (splitT_cut (b := []) this (by simp)).trans rfl
    · congr 1
      have hlast := hs last (by simp)
      rcases List.eq_nil_or_concat sg with rfl | ⟨s', z, rfl⟩
      · have e : endrow [] last = last := by
          apply sl_inj
          show sl (rowOf _) = _
          rw [sl_rowOf]
          simp
        rw [e]
        exact splitT_free hlast.free
      · rw [List.concat_eq_append]
        apply sl_inj
        have : sl (endrow (s' ++ [z]) last) = (((s'.map sfx).map sl).flatten ++ sl z) ++ 47 :: sl last := by
          show sl (rowOf _) = _
          rw [sl_rowOf]
          simp [sl_sfx, List.append_assoc]
        exact splitT_cut this hlast.free
  · show (segs.map midrow ++ [endrow sg last]).foldl plStep _ = _
    rw [place_end hg hs, read_fold hgn]
  · show normP _ = (segs.map midrow ++ [endrow sg last]).foldl plStep _
    rw [hwe, norm_join (by simp) (fun c hc => (hgn c hc).free), place_end hg hs]
  · have h3 := good_sum hgn
    exact joinOk_of (by rw [show (Str.ofString "/").length = 1 from rfl]; (clear hrl hsl hN' hj; omega))
  · refine joinOk_of ?_
    rw [show (Str.ofString "").length = 0 from rfl, Nat.mul_zero, Nat.add_zero]
    have hb : ∀ x ∈ segs.map midrow ++ [endrow sg last], x.length ≤ 200 := fun x hx => by
      obtain ⟨i, hi⟩ := List.getElem?_of_mem hx
      obtain ⟨p, t, e, hp, -, hl⟩ := row_parts hne hg hs hN hi
      exact hl
    have := StrLaws.sumLen_le (segs.map midrow ++ [endrow sg last]) hb
    (clear hN hj; omega)
end

abbrev mk (c : List Str) : List (Str × Str) := c.map fun p => (Str.ofString "", p)
def wid (c : List Str) : Int := (c.map fun p => (p.length : Int)).sum
theorem wid_append (a b : List Str) : wid (a ++ b) = wid a + wid b := by simp [wid]
theorem wid_nn : ∀ c : List Str, 0 ≤ wid c
  | [] => by simp [wid]
  | p :: r => by
    have := wid_nn r
    simp only [wid, List.map_cons, List.sum_cons] at *
    omega
theorem wid_one (p : Str) : wid [p] = p.length := by simp [wid]
theorem tlen_mk : ∀ c : List Str, tlen (mk c) = wid c
  | [] => rfl
  | p :: r => by
    have := tlen_mk r
    have hc : clen (Str.ofString "", p) = (p.length : Int) := by
      show (((Str.ofString "").length + p.length : Nat) : Int) = _
      rw [show (Str.ofString "").length = 0 from rfl, Nat.zero_add]
    simp only [tlen, wid, List.map_cons, List.sum_cons, hc] at *
    rw [this]
theorem ctxt_mk (c : List Str) : ctxt (mk c) = rowOf c := by
  apply sl_inj
  rw [sl_ctxt, sl_rowOf, List.map_map]
  congr 1
theorem len_row (c : List Str) : ((rowOf c).length : Int) = wid c := by
  rw [← sl_len, sl_rowOf]
  induction c with
  | nil => rfl
  | cons p r ih =>
    simp only [wid, List.map_cons, List.flatten_cons, List.length_append, List.sum_cons, sl_len] at *
    rw [Int.natCast_add, ih]
/-- the greedy run over the pieces -/
def gstep (W : Int) (s : List (List Str) × List Str) (p : Str) : List (List Str) × List Str :=
  if wid (s.2 ++ [p]) ≤ W then (s.1, s.2 ++ [p]) else if s.2 = [] then (s.1, [p]) else (s.1 ++ [s.2], [p])
def Sla (p : Str) : Prop := endsC 47 (Str.ofString "", p) = true
abbrev stOf (s : List (List Str) × List Str) : List Str × List (Str × Str) × Int := (s.1.map rowOf, mk s.2, 0)
theorem stepC_g {W : Int} {Gs : List (List Str)} {c : List Str} {p : Str} (hc : ∀ x ∈ c, Sla x) : stepC W (stOf (Gs, c)) p = stOf (gstep W (Gs, c) p) := by
  have e : mk c ++ [(Str.ofString "", p)] = mk (c ++ [p]) := by simp
  unfold stepC chunkR gstep
  dsimp only
  rw [e, tlen_mk, Int.zero_add]
  by_cases hw : wid (c ++ [p]) ≤ W
  · rw [if_pos hw, if_pos hw]
  · rw [if_neg hw, if_neg hw]
    rcases List.eq_nil_or_concat c with rfl | ⟨c', z, rfl⟩
    · have hcut : cutAt (mk ([] ++ [p])) (Str.ofString "/").cps.toList = none := by
        rw [slash_cps]
        rfl
      rw [hcut, if_pos rfl]
      rfl
    · rw [List.concat_eq_append] at hc ⊢
      have hz := hc z (by simp)
      have hcut : cutAt (mk ((c' ++ [z]) ++ [p])) (Str.ofString "/").cps.toList = some (c'.length + 1) := by
        rw [slash_cps]
        have hl : (mk ((c' ++ [z]) ++ [p])).length - 1 = c'.length + 1 := by simp
        have hi : innR (mk ((c' ++ [z]) ++ [p])) 47 ((mk ((c' ++ [z]) ++ [p])).length - 1) = some (c'.length + 1) := by
          rw [hl]
          refine innR_hit (c := (Str.ofString "", z)) ?_ hz
          simp
        show cutAt _ [47] = _
        unfold cutAt
        rw [hi]
      rw [hcut, if_neg (by simp)]
      dsimp only
      have h1 : (mk ((c' ++ [z]) ++ [p])).take (c'.length + 1) = mk (c' ++ [z]) := by
        show ((c' ++ [z] ++ [p]).map _).take _ = _
        rw [← List.map_take, List.take_append_of_le_length (by simp), List.take_of_length_le (by simp)]
      have h2 : (mk ((c' ++ [z]) ++ [p])).drop (c'.length + 1) = mk [p] := by
        show ((c' ++ [z] ++ [p]).map _).drop _ = _
        rw [← List.map_drop, List.drop_append_of_le_length (by simp), List.drop_eq_nil_of_le (by simp), List.nil_append]
      rw [h1, h2, ctxt_mk]
      simp
structure GInv (ps : List Str) (s : List (List Str) × List Str) : Prop where
  cat : s.1.flatten ++ s.2 = ps
  ne : ∀ g ∈ s.1, g ≠ []
  cur : ps ≠ [] → s.2 ≠ []
theorem gstep_inv {W : Int} {ps : List Str} {s : List (List Str) × List Str} (h : GInv ps s) (p : Str) : GInv (ps ++ [p]) (gstep W s p) := by
  obtain ⟨Gs, c⟩ := s
  obtain ⟨h1, h2, h3⟩ := h
  dsimp only at h1 h2 h3
  unfold gstep
  dsimp only
  split
  · exact ⟨by rw [← h1]; simp, h2, fun _ => by simp⟩
  · split
    · rename_i hc
      subst hc
      exact ⟨by rw [← h1]; simp, h2, fun _ => by simp⟩
    · rename_i hc
      refine ⟨by rw [← h1]; simp, fun g hg => ?_, fun _ => by simp⟩
      rcases List.mem_append.mp hg with hg | hg
      · exact h2 g hg
      · rw [List.mem_singleton.mp hg]; exact hc
theorem gfold_inv (W : Int) : ∀ (rest ps : List Str) (s : List (List Str) × List Str), GInv ps s → GInv (ps ++ rest) (rest.foldl (gstep W) s)
  | [], ps, s, h => by simpa using h
  | p :: r, ps, s, h => by
    have := gfold_inv W r (ps ++ [p]) _ (gstep_inv (W := W) h p)
    rw [List.append_assoc] at this
    exact this
theorem g0 : GInv [] (([], []) : List (List Str) × List Str) := ⟨rfl, (fun _ h => no_mem h), fun h => absurd rfl h⟩
theorem fold_g (W : Int) : ∀ (rest ps : List Str) (s : List (List Str) × List Str), GInv ps s → (∀ x ∈ ps, Sla x) → (∀ x ∈ rest.dropLast, Sla x) → rest.foldl (stepC W) (stOf s) = stOf (rest.foldl (gstep W) s)
  | [], _, _, _, _, _ => rfl
  | p :: r, ps, s, h, hp, hr => by
    have hc : ∀ x ∈ s.2, Sla x := fun x hx => hp x (by rw [← h.cat]; exact List.mem_append_right _ hx)
    rw [List.foldl_cons, List.foldl_cons]
    have e := stepC_g (W := W) (Gs := s.1) (p := p) hc
    rw [show stOf s = stOf (s.1, s.2) from rfl, e]
    cases r with
    | nil => rfl
    | cons q r' =>
      refine fold_g W (q :: r') (ps ++ [p]) _ (gstep_inv h p) (fun x hx => ?_) fun x hx => hr x (by rw [List.dropLast_cons_cons]; exact .tail _ hx)
      rcases List.mem_append.mp hx with hx | hx
      · exact hp x hx
      · rw [List.mem_singleton.mp hx]; exact hr p (by rw [List.dropLast_cons_cons]; exact .head _)
abbrev gAll (W : Int) (pieces : List Str) : List (List Str) := (pieces.foldl (gstep W) ([], [])).1 ++ [(pieces.foldl (gstep W) ([], [])).2]
theorem nlc_mk {c : List Str} : nlc (mk c) = if c = [] then [(Str.ofString "", Str.ofString "")] else mk c := by
  rcases List.eq_nil_or_concat c with rfl | ⟨c', z, rfl⟩
  · rfl
  · rw [List.concat_eq_append, if_neg (by simp)]
    show nlc ((c' ++ [z]).map _) = (c' ++ [z]).map _
    rw [List.map_append, List.map_cons, List.map_nil, nlc_snoc, if_neg]
    intro q
    have h1 : Str.ofString "" = Str.ofString " " := congrArg Prod.fst q
    revert h1
    decide +kernel
theorem foldC_g {W : Int} {pieces : List Str} (hs : ∀ x ∈ pieces.dropLast, Sla x) : foldC W pieces = stOf (pieces.foldl (gstep W) ([], [])) := by
  have := fold_g W pieces [] ([], []) g0 (fun _ h => no_mem h) hs
  exact this
theorem rowsC_g {W : Int} {pieces : List Str} (hs : ∀ x ∈ pieces.dropLast, Sla x) (hne : pieces ≠ []) (hp : ∀ p ∈ pieces, p.length ≠ 0) : rowsC W pieces = (gAll W pieces).map rowOf ∧ nlc (foldC W pieces).2.1 = mk (pieces.foldl (gstep W) ([], [])).2 ∧ 0 < wid (pieces.foldl (gstep W) ([], [])).2 := by
  have inv := gfold_inv W pieces [] ([], []) g0
  rw [List.nil_append] at inv
  have hc := inv.cur hne
  unfold rowsC
  rw [foldC_g hs]
  dsimp only [stOf]
  rw [nlc_mk, if_neg hc, tlen_mk, ctxt_mk, Int.zero_add]
  have hw : 0 < wid (pieces.foldl (gstep W) ([], [])).2 := by
    obtain ⟨a, b, e⟩ := snoc_of hc
    have hb := hp b (by rw [← inv.cat, e]; simp)
    rw [e, wid_append, wid_one]
    have := wid_nn a
    (clear hne hc; omega)
  rw [if_pos hw]
  exact ⟨by simp, rfl, hw⟩
/-- greedy: nothing breaks while it fits -/
theorem run_fit {W : Int} : ∀ (ps : List Str) (Gs : List (List Str)) (c : List Str), wid c + wid ps ≤ W → ps.foldl (gstep W) (Gs, c) = (Gs, c ++ ps)
  | [], Gs, c, _ => by simp
  | p :: r, Gs, c, h => by
    have e : wid (p :: r) = wid [p] + wid r := by rw [← wid_append]; rfl
    have hr := wid_nn r
    rw [List.foldl_cons]
    have e2 : gstep W (Gs, c) p = (Gs, c ++ [p]) := by
      unfold gstep
      rw [if_pos (show wid (c ++ [p]) ≤ W by rw [wid_append]; omega)]
    rw [e2, run_fit r Gs (c ++ [p]) (by rw [wid_append]; (clear hr; omega))]
    simp
theorem run_one {W : Int} : ∀ (ps : List Str) (Gs : List (List Str)) (c : List Str), wid ps ≤ W → (ps.foldl (gstep W) (Gs, c)).1.length ≤ Gs.length + 1
  | [], Gs, c, _ => by simp
  | p :: r, Gs, c, h => by
    have e : wid (p :: r) = wid [p] + wid r := by rw [← wid_append]; rfl
    have hp := wid_nn [p]
    have hr := wid_nn r
    rw [List.foldl_cons]
    by_cases hw : wid (c ++ [p]) ≤ W
    · have e2 : gstep W (Gs, c) p = (Gs, c ++ [p]) := by unfold gstep; rw [if_pos hw]
      rw [e2]
      exact run_one r Gs (c ++ [p]) (by (clear hr hw; omega))
    · by_cases hc : c = []
      · have e2 : gstep W (Gs, c) p = (Gs, [p]) := by unfold gstep; rw [if_neg hw, if_pos hc]
        rw [e2, run_fit r Gs [p] (by (clear hp hr hw; omega))]
        show Gs.length ≤ _
        (clear h e hp hr hw; omega)
      · have e2 : gstep W (Gs, c) p = (Gs ++ [c], [p]) := by unfold gstep; rw [if_neg hw, if_neg hc]
        rw [e2, run_fit r (Gs ++ [c]) [p] (by (clear hp hr hw hc; omega))]
        simp
abbrev lens (pieces : List Str) : List Int := pieces.map fun p => (p.length : Int)
theorem seg_wid (pieces : List Str) (d e : Nat) : segS (lens pieces) d e = wid ((pieces.drop d).take (e - d)) := by
  show (((pieces.map _).drop d).take (e - d)).sum = _
  rw [← List.map_drop, ← List.map_take]
  rfl
theorem take_seg (pieces : List Str) {d e : Nat} (h : d ≤ e) : pieces.take e = pieces.take d ++ (pieces.drop d).take (e - d) := by
  rw [← List.take_add]
  congr 1
  omega
theorem greedy_le {W : Int} {pieces : List Str} {n : Nat} {w : Int} {d u : Nat} (r : Reach (segS (lens pieces)) n w d u) : w ≤ W → d = 0 ∨ ((pieces.take d).foldl (gstep W) ([], [])).1.length + 1 ≤ u := by
  induction r with
  | z => intro _; exact .inl rfl
  | @s w d u e r hd he ih =>
    intro hw
    rw [seg_wid] at hw
    rw [take_seg pieces (Nat.le_of_lt hd), List.foldl_append]
    right
    rcases ih (by (clear hd he; omega)) with rfl | h
    · rw [List.take_zero, List.foldl_nil, run_fit _ _ _ (by rw [show wid [] = 0 from rfl]; (clear he hd; omega))]
      simp
    · generalize (pieces.take d).foldl (gstep W) ([], []) = s at *
      obtain ⟨Gs, c⟩ := s
      have := run_one (W := W) ((pieces.drop d).take (e - d)) Gs c (by (clear hd he h; omega))
      dsimp only at h
      (clear hd he hw; omega)
theorem mem_wid {p : Str} : ∀ {c : List Str}, p ∈ c → (p.length : Int) ≤ wid c
  | q :: r, h => by
    have e : wid (q :: r) = wid [q] + wid r := by rw [← wid_append]; rfl
    have hr := wid_nn r
    have hq := wid_nn [q]
    rcases List.mem_cons.mp h with rfl | h
    · rw [e, wid_one]; (clear hq; omega)
    · have := mem_wid h; (clear hr; omega)
theorem reach_piece {pieces : List Str} {n : Nat} {w : Int} {d u : Nat} (r : Reach (segS (lens pieces)) n w d u) : ∀ p ∈ pieces.take d, (p.length : Int) ≤ w := by
  induction r with
  | z => intro p hp; simp at hp
  | @s w d u e r hd he ih =>
    intro p hp
    rw [seg_wid]
    rw [take_seg pieces (Nat.le_of_lt hd)] at hp
    rcases List.mem_append.mp hp with hp | hp
    · have := ih p hp; (clear hd he; omega)
    · have := mem_wid hp; (clear hd he; omega)
/-- every group is no wider than W, if no piece is -/
theorem groups_fit {W : Int} : ∀ (ps : List Str) (s : List (List Str) × List Str), (∀ g ∈ s.1, wid g ≤ W) → wid s.2 ≤ W → (∀ p ∈ ps, (p.length : Int) ≤ W) → (∀ g ∈ (ps.foldl (gstep W) s).1, wid g ≤ W) ∧ wid (ps.foldl (gstep W) s).2 ≤ W
  | [], s, h1, h2, _ => ⟨h1, h2⟩
  | p :: r, s, h1, h2, h3 => by
    obtain ⟨Gs, c⟩ := s
    rw [List.foldl_cons]
    have hr : ∀ x ∈ r, (x.length : Int) ≤ W := fun x hx => h3 x (.tail _ hx)
    have hp := h3 p (.head _)
    refine groups_fit r _ ?_ ?_ hr
    · unfold gstep
      split
      · exact h1
      · split
        · exact h1
        · intro g hg
          rcases List.mem_append.mp hg with hg | hg
          · exact h1 g hg
          · rw [List.mem_singleton.mp hg]; exact h2
    · unfold gstep
      split
      · assumption
      · split
        · show wid [p] ≤ W
          rw [wid_one]; exact hp
        · show wid [p] ≤ W
          rw [wid_one]; exact hp
/-- a partition is a way of the search -/
theorem part_reach {pieces : List Str} {Gs : List (List Str)} {B : Int} (hne : ∀ g ∈ Gs, g ≠ []) (hB : ∀ g ∈ Gs, wid g ≤ B) (h0 : 0 ≤ B) (hf : Gs.flatten = pieces) : ∀ k, k ≤ Gs.length → ∃ w, w ≤ B ∧ Reach (segS (lens pieces)) pieces.length w (Gs.take k).flatten.length k
  | 0, _ => ⟨0, h0, by simpa using Reach.z⟩
  | k + 1, hk => by
    obtain ⟨w, hw, r⟩ := part_reach hne hB h0 hf k (by (clear h0; omega))
    have hg : Gs[k]? = some Gs[k] := List.getElem?_eq_getElem (by (clear h0 hw; omega))
    have hm : Gs[k] ∈ Gs := List.getElem_mem (by (clear h0 hw; omega))
    generalize Gs[k] = g at *
    have e := take_succ_at hg
    have hlen : (Gs.take (k + 1)).flatten.length = (Gs.take k).flatten.length + g.length := by rw [e]; simp
    have hdec : pieces = (Gs.take k).flatten ++ (g ++ (Gs.drop (k + 1)).flatten) := by
      rw [← hf]
      conv => lhs; rw [← List.take_append_drop (k + 1) Gs]
      rw [List.flatten_append, e]
      simp
    have hgl := List.length_pos_iff.mpr (hne g hm)
    have hseg : segS (lens pieces) (Gs.take k).flatten.length ((Gs.take k).flatten.length + g.length) = wid g := by
      rw [seg_wid, Nat.add_sub_cancel_left, hdec, List.drop_left, List.take_left]
    refine ⟨max w (wid g), by have := hB g hm; (clear h0 hk hlen hgl hseg; omega), ?_⟩
    rw [hlen, ← hseg]
    refine Reach.s r (by (clear h0 hk hw hlen hseg; omega)) ?_
    have := congrArg List.length hdec
    simp only [List.length_append] at this
    (clear h0 hk hw hlen hgl hseg; omega)
/-- groups of the pieces, by their names -/
theorem map_prefix {f : Str → Str} : ∀ {nm g : List Str} {t : List Str}, nm.map f = g ++ t → ∃ a b, nm = a ++ b ∧ g = a.map f ∧ t = b.map f
  | nm, [], t, h => ⟨[], nm, rfl, rfl, by simpa using h.symm⟩
  | [], x :: g, t, h => by cases h
  | n :: nm, x :: g, t, h => by
    simp only [List.map_cons, List.cons_append, List.cons.injEq] at h
    obtain ⟨a, b, e1, e2, e3⟩ := map_prefix h.2
    exact ⟨n :: a, b, by rw [e1]; rfl, by rw [e2, ← h.1]; rfl, e3⟩
theorem group_segs {last : Str} : ∀ {Gs : List (List Str)} {nm : List Str}, Gs ≠ [] → (∀ g ∈ Gs, g ≠ []) → Gs.flatten = nm.map sfx ++ [last] →
    ∃ (segs : List (List Str)) (sg : List Str), Gs = segs.map (fun s => s.map sfx) ++ [sg.map sfx ++ [last]] ∧ segs.flatten ++ sg = nm ∧ ∀ s ∈ segs, s ≠ []
  | [], _, h, _, _ => absurd rfl h
  | [g], nm, _, _, hf => ⟨[], nm, by simpa using hf, rfl, fun _ h => no_mem h⟩
  | g :: g2 :: r, nm, _, hne, hf => by
    rw [List.flatten_cons] at hf
    have h2 : (g2 :: r).flatten ≠ [] := by
      rw [List.flatten_cons]
      have := hne g2 (.tail _ (.head _))
      simp [this]
    obtain ⟨t, z, e⟩ := snoc_of h2
    rw [e, ← List.append_assoc] at hf
    obtain ⟨h3, h4⟩ := List.append_inj' hf rfl
    have hz : z = last := by simpa using h4
    subst hz
    obtain ⟨a, b, e1, e2, e3⟩ := map_prefix h3.symm
    obtain ⟨segs, sg, e4, e5, e6⟩ := group_segs (last := z) (Gs := g2 :: r) (nm := b) (by simp) (fun x hx => hne x (.tail _ hx)) (by rw [e, e3])
    refine ⟨a :: segs, sg, by rw [e4, e2]; rfl, by rw [List.flatten_cons, List.append_assoc, e5, e1], fun s hs => ?_⟩
    rcases List.mem_cons.mp hs with rfl | hs
    · intro q
      have := hne g (.head _)
      rw [e2, q] at this
      exact this rfl
    · exact e6 s hs

abbrev TBL : List Str := [Str.ofString "a", Str.ofString "bc", Str.ofString "def", Str.ofString "..", Str.ofString ".", Str.ofString "ghij", Str.ofString "kl"]
theorem tbl_all : ∀ p ∈ TBL, (p ≠ Str.ofString "" ∧ 47 ∉ sl p ∧ p.length ≤ 4) ∧ (124 ∉ sl p ∧ p.length ≠ 0 ∧ PyData.strOk p = true ∧ PyData.strOk (sfx p) = true) ∧ (endsC 47 (Str.ofString "", sfx p) = true ∧ (sl p).any (fun c => !Unicode.isSpace c) = true) := by decide +kernel
theorem tbl_good {p : Str} (h : p ∈ TBL) : GoodN p := ⟨(tbl_all p h).1.1, (tbl_all p h).1.2.1, (tbl_all p h).1.2.2⟩
structure FoldOK (V : Int) (pieces names : List Str) (last : Str) : Prop where
  how : (decide (tlen (nlc (foldC V pieces).2.1) = 0) || Txt.isspace (ctxt (nlc (foldC V pieces).2.1))) = false
  jo : JoinOk (Str.ofString "|") (rowsC V pieces) = true
  jl : (Txt.join (Str.ofString "|") (rowsC V pieces)).length ≤ 100000
  sp : Txt.split (Txt.join (Str.ofString "|") (rowsC V pieces)) (Str.ofString "|") = rowsC V pieces
  rows : RowsOK (rowsC V pieces) names last
section
variable {nm : List Str} {last : Str}
abbrev pcs (nm : List Str) (last : Str) : List Str := nm.map sfx ++ [last]
theorem pcs_sla (hn : ∀ p ∈ nm ++ [last], p ∈ TBL) : ∀ x ∈ (pcs nm last).dropLast, Sla x := fun x hx => by
  rw [List.dropLast_concat] at hx
  obtain ⟨p, hp, rfl⟩ := List.mem_map.mp hx
  exact (tbl_all p (hn p (List.mem_append_left _ hp))).2.2.1
theorem pcs_pos (hn : ∀ p ∈ nm ++ [last], p ∈ TBL) : ∀ p ∈ pcs nm last, p.length ≠ 0 := fun x hx => by
  rcases List.mem_append.mp hx with hx | hx
  · obtain ⟨p, hp, rfl⟩ := List.mem_map.mp hx
    rw [← sl_len, sl_sfx]; simp
  · rw [List.mem_singleton.mp hx]
    exact (tbl_all last (hn last (by simp))).2.1.2.1
theorem any_flat {f : Nat → Bool} {c : List Str} {p : Str} (hp : p ∈ c) (h : (sl p).any f = true) : (sl (rowOf c)).any f = true := by
  rw [sl_rowOf, List.any_flatten, List.any_eq_true]
  exact ⟨sl p, List.mem_map_of_mem hp, h⟩
theorem pcs_plain (hn : ∀ p ∈ nm ++ [last], p ∈ TBL) : ∀ p ∈ pcs nm last, (sl p).any (fun c => !Unicode.isSpace c) = true ∧ 124 ∉ sl p ∧ PyData.strOk p = true ∧ p.length ≤ 5 := fun x hx => by
  rcases List.mem_append.mp hx with hx | hx
  · obtain ⟨p, hp, rfl⟩ := List.mem_map.mp hx
    obtain ⟨h1, h2, h3⟩ := tbl_all p (hn p (List.mem_append_left _ hp))
    refine ⟨?_, ?_, h2.2.2.2, ?_⟩
    · rw [sl_sfx, List.any_append, h3.2, Bool.true_or]
    · rw [sl_sfx]
      intro q
      rcases List.mem_append.mp q with q | q
      · exact h2.1 q
      · exact absurd (List.mem_singleton.mp q) (by decide)
    · rw [← sl_len, sl_sfx, List.length_append, sl_len]
      have := h1.2.2
      simp
      (clear h2 h3 this; omega)
  · rw [List.mem_singleton.mp hx]
    obtain ⟨h1, h2, h3⟩ := tbl_all last (hn last (by simp))
    exact ⟨h3.2, h2.1, h2.2.2.1, by have := h1.2.2; (clear h2 h3 this; omega)⟩
theorem fold_ok (V : Int) (hn : ∀ p ∈ nm ++ [last], p ∈ TBL) (hl : (nm ++ [last]).length ≤ 20) : FoldOK V (pcs nm last) (nm ++ [last]) last := by
  have hs := pcs_sla hn
  have hp := pcs_pos hn
  have hne : pcs nm last ≠ [] := by simp
  obtain ⟨h1, h2, h3⟩ := rowsC_g (W := V) hs hne hp
  have inv := gfold_inv V (pcs nm last) [] ([], []) g0
  rw [List.nil_append] at inv
  have hcur := inv.cur hne
  have hflat : (gAll V (pcs nm last)).flatten = pcs nm last := by
    rw [gAll, List.flatten_append, List.flatten_cons, List.flatten_nil, List.append_nil]
    exact inv.cat
  have hgne : ∀ g ∈ gAll V (pcs nm last), g ≠ [] := fun g hg => by
    rcases List.mem_append.mp hg with hg | hg
    · exact inv.ne g hg
    · rw [List.mem_singleton.mp hg]; exact hcur
  obtain ⟨segs, sg, e1, e2, e3⟩ := group_segs (by simp) hgne hflat
  have hrows : rowsC V (pcs nm last) = segs.map midrow ++ [endrow sg last] := by
    rw [h1, e1, List.map_append, List.map_map]
    rfl
  have hgood : ∀ p ∈ nm ++ [last], GoodN p := fun p hp => tbl_good (hn p hp)
  have hg : ∀ s ∈ segs, ∀ c ∈ s, GoodN c := fun s hs' c hc => hgood c (List.mem_append_left _ (by rw [← e2]; exact List.mem_append_left _ (List.mem_flatten.mpr ⟨s, hs', hc⟩)))
  have hsg : ∀ c ∈ sg ++ [last], GoodN c := fun c hc => by
    rcases List.mem_append.mp hc with hc | hc
    · exact hgood c (List.mem_append_left _ (by rw [← e2]; exact List.mem_append_right _ hc))
    · exact hgood c (List.mem_append_right _ hc)
  have hN : (segs.flatten ++ sg ++ [last]).length ≤ 20 := by rw [e2]; exact hl
  have hok := rows_ok e3 hg hsg hN
  rw [e2, ← hrows] at hok
  have hbar : ∀ r ∈ rowsC V (pcs nm last), 124 ∉ sl r := fun r hr q => by
    rw [h1] at hr
    obtain ⟨g, hg', rfl⟩ := List.mem_map.mp hr
    rw [sl_rowOf] at q
    obtain ⟨l, hl', hq⟩ := List.mem_flatten.mp q
    obtain ⟨p, hp', rfl⟩ := List.mem_map.mp hl'
    have hm : p ∈ pcs nm last := by rw [← hflat]; exact List.mem_flatten.mpr ⟨g, hg', hp'⟩
    exact (pcs_plain hn p hm).2.1 hq
  have hlen : ∀ x ∈ rowsC V (pcs nm last), x.length ≤ 1000 := fun x hx => by
    obtain ⟨i, hi⟩ := List.getElem?_of_mem hx
    exact (hok.row i x hi).1
  have hsum := StrLaws.sumLen_le (rowsC V (pcs nm last)) hlen
  have hcount : (rowsC V (pcs nm last)).length ≤ 20 := by
    rw [hrows]
    have := segs_len e3
    simp only [List.length_append, List.length_map, List.length_singleton] at hN ⊢
    (clear hl hne h3 hcur hsum; omega)
  have e1' : (Str.ofString "|").length = 1 := rfl
  have hb20 : (rowsC V (pcs nm last)).length * 1000 ≤ 20000 := by (clear hl hne h3 hcur hN hsum e1'; omega)
  refine ⟨?_, joinOk_of (by rw [e1']; (clear hl hne h3 hcur hN e1' hb20; omega)), ?_, ?_, hok⟩
  · rw [h2, tlen_mk, ctxt_mk, decide_eq_false (by (clear hl hne hcur hN hsum hcount e1' hb20; omega)), Bool.false_or]
    obtain ⟨a, b, e⟩ := snoc_of hcur
    have hb : b ∈ pcs nm last := by rw [← inv.cat, e]; simp
    have hany := any_flat (c := (List.foldl (gstep V) ([], []) (pcs nm last)).2) (p := b) (by rw [e]; simp) (pcs_plain hn b hb).1
    unfold Txt.isspace
    rw [← Array.all_toList]
    have : (sl (rowOf (List.foldl (gstep V) ([], []) (pcs nm last)).2)).all Unicode.isSpace = false := by
      obtain ⟨x, hx, hx2⟩ := List.any_eq_true.mp hany
      rw [List.all_eq_false]
      exact ⟨x, hx, by simpa using hx2⟩
    show (_ && (sl (rowOf _)).all Unicode.isSpace) = false
    rw [this, Bool.and_false]
  · have h := StrLaws.join_length_le (Str.ofString "|") (rowsC V (pcs nm last))
    rw [e1', Nat.mul_one] at h
    rw [show Txt.join (Str.ofString "|") (rowsC V (pcs nm last)) = Str.join (Str.ofString "|") (rowsC V (pcs nm last)) from StrLaws.glued_eq_join _ _]
    (clear hl hne h3 hcur hN e1' hb20; omega)
  · refine split_join (c := 124) (by decide +kernel) ?_ hbar
    intro q
    have := hok.rl0
    rw [q] at this
    exact absurd this (by simp)
theorem least_ex {A : Nat} (hA : 0 < A) : ∃ M k, Reach (segS (lens (pcs nm last))) (pcs nm last).length M (pcs nm last).length k ∧ k ≤ A :=
  ⟨_, 1, Reach.s .z (by simp) (Nat.le_refl _), hA⟩
theorem enough_ok {A : Nat} {W : Int} (hn : ∀ p ∈ nm ++ [last], p ∈ TBL) (h : ∃ k, k ≤ A ∧ Reach (segS (lens (pcs nm last))) (pcs nm last).length W (pcs nm last).length k) :
    (rowsC W (pcs nm last)).length ≤ A ∧ ∀ r ∈ rowsC W (pcs nm last), (r.length : Int) ≤ W := by
  obtain ⟨k, hk, r⟩ := h
  have hs := pcs_sla hn
  have hp := pcs_pos hn
  have hne : pcs nm last ≠ [] := by simp
  obtain ⟨h1, -, -⟩ := rowsC_g (W := W) hs hne hp
  have hg := greedy_le r (Int.le_refl _)
  have hpc := reach_piece r
  rw [List.take_length] at hg hpc
  rcases hg with hg | hg
  · exact absurd hg (by simp)
  · obtain ⟨f1, f2⟩ := groups_fit (W := W) (pcs nm last) ([], []) (fun _ h => no_mem h) (by rw [show wid [] = 0 from rfl]; exact r.nn) hpc
    rw [h1]
    refine ⟨by rw [List.length_map, gAll, List.length_append, List.length_singleton]; (clear hne f2; omega), fun x hx => ?_⟩
    obtain ⟨g, hg', rfl⟩ := List.mem_map.mp hx
    rw [len_row]
    rcases List.mem_append.mp hg' with hg' | hg'
    · exact f1 g hg'
    · rw [List.mem_singleton.mp hg']; exact f2
theorem narrow_ok {A : Nat} {W : Int} (hn : ∀ p ∈ nm ++ [last], p ∈ TBL) (h : ∀ M k, Reach (segS (lens (pcs nm last))) (pcs nm last).length M (pcs nm last).length k → k ≤ A → W ≤ M)
    (hc : (rowsC (W - 1) (pcs nm last)).length ≤ A) : ∃ r ∈ rowsC (W - 1) (pcs nm last), W ≤ (r.length : Int) := by
  refine Classical.byContradiction fun hno => ?_
  have hall : ∀ r ∈ rowsC (W - 1) (pcs nm last), (r.length : Int) ≤ W - 1 := fun r hr => by
    have : ¬ W ≤ (r.length : Int) := fun q => hno ⟨r, hr, q⟩
    (clear hc hno; omega)
  have hs := pcs_sla hn
  have hp := pcs_pos hn
  have hne : pcs nm last ≠ [] := by simp
  obtain ⟨h1, -, h3⟩ := rowsC_g (W := W - 1) hs hne hp
  have inv := gfold_inv (W - 1) (pcs nm last) [] ([], []) g0
  rw [List.nil_append] at inv
  rw [h1] at hall hc
  have hflat : (gAll (W - 1) (pcs nm last)).flatten = pcs nm last := by
    rw [gAll, List.flatten_append, List.flatten_cons, List.flatten_nil, List.append_nil]
    exact inv.cat
  have hgne : ∀ g ∈ gAll (W - 1) (pcs nm last), g ≠ [] := fun g hg => by
    rcases List.mem_append.mp hg with hg | hg
    · exact inv.ne g hg
    · rw [List.mem_singleton.mp hg]; exact inv.cur hne
  have hB : ∀ g ∈ gAll (W - 1) (pcs nm last), wid g ≤ W - 1 := fun g hg => by
    have := hall (rowOf g) (List.mem_map_of_mem hg)
    rwa [len_row] at this
  have h0 : 0 ≤ W - 1 := Int.le_trans (Int.le_of_lt h3) (hB _ (by simp))
  obtain ⟨w, hw, r⟩ := part_reach hgne hB h0 hflat (gAll (W - 1) (pcs nm last)).length (Nat.le_refl _)
  rw [List.take_length, hflat] at r
  rw [List.length_map] at hc
  have := h w _ r hc
  (clear hc hno hne h3 h0; omega)
end

section
variable {w : World} {mg mb : Str → Option Value} {mean : ExcName → Option Value} {dp un : Nat} {gd : Option (List Code)} {fr : List Env} {base : Heap} {s : Shared} {Q E : Value → Shared → Prop}
theorem ints1 (n : Int) (t : Tok) : PyProof.Rows.IntsAre [.int n t] [n] := .cons n t .nil
theorem fmod7 (n : Int) : Int.fmod n 7 = n % 7 := Int.fmod_eq_emod_of_nonneg n (by decide)
abbrev nameOf (k : Int) : Str := TBL.getD k.toNat (Str.ofString "a")
theorem tbl_at {n : Int} (h0 : 0 ≤ n) (h7 : n < 7) (t0 t1 t2 t3 t4 t5 t6 : Tok) : ∃ t, ([.str (Str.ofString "a") t0, .str (Str.ofString "bc") t1, .str (Str.ofString "def") t2, .str (Str.ofString "..") t3, .str (Str.ofString ".") t4, .str (Str.ofString "ghij") t5, .str (Str.ofString "kl") t6] : List Value)[n.toNat]? = some (.str (nameOf n) t) := by
  obtain ⟨k, rfl⟩ := Int.eq_ofNat_of_zero_le h0
  match k, h7 with
  | 0, _ => exact ⟨_, rfl⟩
  | 1, _ => exact ⟨_, rfl⟩
  | 2, _ => exact ⟨_, rfl⟩
  | 3, _ => exact ⟨_, rfl⟩
  | 4, _ => exact ⟨_, rfl⟩
  | 5, _ => exact ⟨_, rfl⟩
  | 6, _ => exact ⟨_, rfl⟩
  | k + 7, h => exact absurd h (by omega)
theorem tbl_mem {n : Int} (h0 : 0 ≤ n) (h7 : n < 7) : nameOf n ∈ TBL := by
  obtain ⟨k, rfl⟩ := Int.eq_ofNat_of_zero_le h0
  have all : ∀ k < 7, TBL.getD k (Str.ofString "a") ∈ TBL := by decide +kernel
  exact all k (by omega)
theorem fold_news {g h h' : Heap} {L R : Addr} {m : Str → Option Value} {front : List (Addr × Obj)} {ps qs ps' qs' : Array Value} {vs : List Value} {k : Nat} (F : Fr g L h m) (N : News g L h (front ++ [(140, tabObj ps), (147, tabObj qs)])) (kp : Keep [140, 147] h h')
    (hf : ∀ p ∈ front, p.2.cls = .type "list") (e140 : h'.get? 140 = some (tabObj ps')) (e147 : h'.get? 147 = some (tabObj qs')) (fR : h.get? R = none) (eR : h'.get? R = some (listOf vs.toArray k)) :
    Fr g L h' m ∧ News g L h' ((R, listOf vs.toArray k) :: (front ++ [(140, tabObj ps'), (147, tabObj qs')])) ∧ ∀ p ∈ front, p.1 ≠ R := by
  have m1 : ((140 : Addr), tabObj ps) ∈ front ++ [((140 : Addr), tabObj ps), ((147 : Addr), tabObj qs)] := List.mem_append_right _ (.head _)
  have m2 : ((147 : Addr), tabObj qs) ∈ front ++ [((140 : Addr), tabObj ps), ((147 : Addr), tabObj qs)] := List.mem_append_right _ (.tail _ (.head _))
  have F' : Fr g L h' m := fr_kept F N kp (fun b hb => by
    rcases List.mem_cons.mp hb with rfl | hb
    · exact ⟨_, m1⟩
    · rw [List.mem_singleton.mp hb]; exact ⟨_, m2⟩)
  have gR : g.get? R = none := by
    cases eg : g.get? R with
    | none => rfl
    | some oP => have := F.keep _ _ eg; rw [this] at fR; cases fR
  refine ⟨F', News.cons ?_ eR gR (list_ne_L F' eR), fun p hp e => ?_⟩
  · intro p hp
    rcases List.mem_append.mp hp with hp | hp
    · have hN := N p (List.mem_append_left _ hp)
      refine ⟨kp _ _ (fun hb => ?_) hN.1, hN.2⟩
      have hc := hf p hp
      rcases List.mem_cons.mp hb with hb | hb
      · have := hN.1; rw [hb, (N _ m1).1] at this; rw [← Option.some.inj this] at hc; cases hc
      · have := hN.1; rw [List.mem_singleton.mp hb, (N _ m2).1] at this; rw [← Option.some.inj this] at hc; cases hc
    · rcases List.mem_cons.mp hp with rfl | hp
      · exact ⟨e140, (N _ m1).2⟩
      · rw [List.mem_singleton.mp hp]; exact ⟨e147, (N _ m2).2⟩
  · have := (N p (List.mem_append_left _ hp)).1
    rw [e, fR] at this; cases this
theorem strs_values (l : List (Str × Tok)) : StrsAre (strValues l) (l.map (·.1)) := by
  induction l with
  | nil => exact .nil
  | cons x l ih => exact .cons ih
theorem law_spec
  {sc : Addr} {svs : List Value} {ns : List Int} {ps qs : Array Value} {R : Result → Shared → Prop}
  (X : (Mine.heapK w.params).In base) (T : Top topProg GL mean mg mb base) (hS : base.StaysIn s.heap) (G : AllBare s.gens)
  (hsc : base.IsList sc svs.toArray) (hI : PyProof.Rows.IntsAre svs ns) (hz : svs.length ≤ sizeLine)
  (h140 : s.heap.get? 140 = some (tabObj ps)) (hb140 : base.get? 140 = none) (ht140 : TabOk posLen ps) (h147 : s.heap.get? 147 = some (tabObj qs)) (hb147 : base.get? 147 = none) (ht147 : TabOk posStr qs)
  (hdp : dp < 310) (_hu : un < 100)
  (ret : ∀ h' g' tk', Keep [140, 147] s.heap h' → (∃ ps' qs', h'.get? 140 = some (tabObj ps') ∧ TabOk posLen ps' ∧ h'.get? 147 = some (tabObj qs') ∧ TabOk posStr qs') → AllBare g' → R (.ok (.ret (.bool true))) { s with heap := h', gens := g', toks := tk' }) :
  codeAny (model PySem.Challenge.rw_ik0220_01.row.prog w) (amb dp un gd fr) (.call (.ref 356) ⟨[.ref sc], []⟩) R s := by
  revert X; k_fill; intro X
  have XS := X.keeps hS
  k_dflt (refine' enterF [(Str.ofString "script", .ref sc)] [(140, tabObj ps), (147, tabObj qs)] ?kX ?kT hS ?kD ?kho ?khcd ?kroom ?kb ?kl ?kr ?_ ?c1 ?c2 ?c3 ?c4; (
  (case kX => assumption); (case kT => assumption); (case kho => k_is); (case khcd => k_is); (case kb => first | exact BindsTo.of_eq rfl | exact binds_K (by k_in) rfl (by k_is) rfl rfl rfl);
  (case kl => exact locs rfl); (case kr => exact rfl); (case c1 => exact rfl); (case c2 => exact rfl); (case c3 => exact rfl); (case c4 => decide); (case kroom => first | exact rm0 hdp rfl | (simp only [recursionLimit]; omega))); (case kD => intro q hq'; rcases List.mem_cons.mp hq' with rfl | hq'; exact ⟨h140, hb140⟩; rcases List.mem_singleton.mp hq' with rfl; exact ⟨h147, hb147⟩))
  intro g L h1 fr' tk F N X1 T1 KP LTs
  k_fold
  clear XS
  have hscg : g.IsList sc svs.toArray := by
    obtain ⟨o, e, r⟩ := hsc
    refine ⟨o, KP _ _ (fun hm => ?_) (hS _ _ e), r⟩
    simp only [List.map_cons, List.map_nil, List.mem_cons, List.not_mem_nil, or_false] at hm
    rcases hm with rfl | rfl
    · rw [hb140] at e; cases e
    · rw [hb147] at e; cases e
  (repeat' (first | (k_unfold; (try dsimp only)) | ((with_reducible show wpAny _ _ (storeName _ _ _) _ _ _); (try dsimp only); walk1) | ((with_reducible show PySem.wpAt _ _ _ _ _ _ _); walk_at "wpAt") | ((fail_if_success (with_reducible refine Stop.go (by constructor) ?_)); first | walk1 | (dsimp only; walk1))))
  refine PyProof.Rows.LCg.Assign_ListComp_U F rfl (cl := []) (by with_unfolding_all rfl) (by with_unfolding_all rfl) (by decide) (by with_unfolding_all rfl) (by decide) (by with_unfolding_all rfl) (by with_unfolding_all rfl) (by with_unfolding_all rfl) ?_ (fun _ => by with_unfolding_all rfl)
  (repeat' (first | (k_unfold; (try dsimp only)) | ((with_reducible show wpAny _ _ (storeName _ _ _) _ _ _); (try dsimp only); walk1) | ((with_reducible show PySem.wpAt _ _ _ _ _ _ _); walk_at "wpAt") | ((fail_if_success (with_reducible refine Stop.go (by constructor) ?_)); first | walk1 | (dsimp only; walk1))))
  refine slice_new (lo := none) (hi := some 6) F N (hscg.at (fun o e => F.keep _ o e)) .none (.int _ _) hz fun q2 sl2 h2 F2 N2 l2 => ?_
  rw [show (some 6 : Option Int) = some ((6 : Nat) : Int) from rfl, slicePick_upto' svs.toArray 6] at N2
  have hns : ns.length = svs.length := hI.length.symm
  refine src_same (l := q2) (vs := svs.take 6) (k := 0) (fun i ys => PyProof.Rows.IntsAre ys (((ns.take 6).take i).map (· % 7))) rfl F2 N2 .nil (by rw [List.length_take]; (clear hz hdp; omega)) (.head _) (fun i v ys I oI C oC D m₂ h tk E' hv hC hx F9 N9 off ne hys => ?_) fun g9 yd hyd => ?_
  · obtain ⟨n, tn, rfl, hnn⟩ := (hI.take 6).at i v hv
    (repeat' (first | (k_unfold; (try dsimp only)) | ((with_reducible show wpAny _ _ (storeName _ _ _) _ _ _); (try dsimp only); walk1) | ((with_reducible show PySem.wpAt _ _ _ _ _ _ _); walk_at "wpAt") | ((fail_if_success (with_reducible refine Stop.go (by constructor) ?_)); first | walk1 | (dsimp only; walk1))))
    exact PyProof.Rows.LCg.CompEnd.intro F9 N9 _ (fun p hp => hp) off trivial ⟨rfl, by rw [take_succ_at hnn, List.map_append, fmod7]; exact hys.append (ints1 _ _)⟩
  · intro DR hR tR F9 N9 offR
    rw [show (svs.take 6).length = (ns.take 6).length by rw [List.length_take, List.length_take, hns], List.take_length] at hyd
    generalize hdr : (ns.take 6).map (· % 7) = dr at hyd
    have hdrl : dr.length ≤ 6 := by rw [← hdr, List.length_map, List.length_take]; (clear hz hdp; omega)
    have hdr7 : ∀ x ∈ dr, 0 ≤ x ∧ x < 7 := fun x hx => by
      rw [← hdr] at hx
      obtain ⟨y, -, rfl⟩ := List.mem_map.mp hx
      exact ⟨Int.emod_nonneg _ (by decide), Int.emod_lt_of_pos _ (by decide)⟩
    clear hdr N2 F2 l2
    (repeat' (first | (k_unfold; (try dsimp only)) | ((with_reducible show wpAny _ _ (storeName _ _ _) _ _ _); (try dsimp only); walk1) | ((with_reducible show PySem.wpAt _ _ _ _ _ _ _); walk_at "wpAt") | ((fail_if_success (with_reducible refine Stop.go (by constructor) ?_)); first | walk1 | (dsimp only; walk1))))
    refine PyProof.Rows.LCg.Assign_ListComp_U F9 rfl (cl := []) (by with_unfolding_all rfl) (by with_unfolding_all rfl) (by decide) (by with_unfolding_all rfl) (by decide) (by with_unfolding_all rfl) (by with_unfolding_all rfl) (by with_unfolding_all rfl) ?_ (fun _ => by with_unfolding_all rfl)
    (repeat' (first | (k_unfold; (try dsimp only)) | ((with_reducible show wpAny _ _ (storeName _ _ _) _ _ _); (try dsimp only); walk1) | ((with_reducible show PySem.wpAt _ _ _ _ _ _ _); walk_at "wpAt") | ((fail_if_success (with_reducible refine Stop.go (by constructor) ?_)); first | walk1 | (dsimp only; walk1))))
    rename_i lA hA0 oA D2 ws2 h5 F5 N5 hI5 oD2
    have hws2 := hI5.length
    rw [List.length_append] at hws2
    have hkn : ∀ x ∈ [1, 4, 2] ++ dr, 0 ≤ x ∧ x < 7 := fun x hx => by
      rcases List.mem_append.mp hx with hx | hx
      · simp at hx; (clear hz hdp hns hdrl oA oD2 hws2; omega)
      · exact hdr7 x hx
    refine src_same (l := D2) (vs := ws2) (k := 0) (fun i ys => StrsAre ys ((([1, 4, 2] ++ dr).take i).map nameOf)) rfl F5 N5 .nil (by simp at hws2; (clear hz hdp hns oA oD2; omega)) (.head _) (fun i v ys I oI C oC D m₂ h tk E' hv hC hx F9 N9 off ne hys => ?_) fun g9 ys hys => ?_
    · obtain ⟨n, tn, rfl, hnn⟩ := hI5.at i v hv
      obtain ⟨hn0, hn7⟩ := hkn n (List.mem_of_getElem? hnn)
      (repeat' (first | (k_unfold; (try dsimp only)) | ((with_reducible show wpAny _ _ (storeName _ _ _) _ _ _); (try dsimp only); walk1) | ((with_reducible show PySem.wpAt _ _ _ _ _ _ _); walk_at "wpAt") | ((fail_if_success (with_reducible refine Stop.go (by constructor) ?_)); first | walk1 | (dsimp only; walk1))))
      rename_i lT hT7 FT NT oT
      obtain ⟨tv, htv⟩ := tbl_at hn0 hn7 tk (tk + 1) (tk + 1 + 1) (tk + 1 + 1 + 1) (tk + 1 + 1 + 1 + 1) (tk + 1 + 1 + 1 + 1 + 1) (tk + 1 + 1 + 1 + 1 + 1 + 1)
      refine sub_list (NT _ (.head _)).1 hn0 (by (clear hz hdp hns hdrl oA oD2 hws2 ne oT; omega)) htv ?_
      exact PyProof.Rows.LCg.CompEnd.intro FT NT _ (fun p hp => .tail _ hp) off trivial ⟨rfl, by rw [take_succ_at (by exact hnn), List.map_append]; exact hys.snoc _ _⟩
    · intro DN hN tN FN NN offN
      rw [hI5.length, List.take_length] at hys
      have NN := News.sub (news' := [(DN, listOf ys.toArray ys.length), (DR, listOf yd.toArray yd.length), (140, tabObj ps), (147, tabObj qs)]) NN (by ((try simp only [List.cons_append, List.nil_append]); repeat' (first | exact .head _ | refine .tail _ ?_ | exact List.forall_mem_nil _ | refine List.forall_mem_cons.mpr ⟨?_, ?_⟩ | assumption | intro _ _)))
      obtain ⟨nm, last, enm⟩ := snoc_of (vs := ([1, 4, 2] ++ dr).map nameOf) (by simp)
      have hnm : ∀ p ∈ nm ++ [last], p ∈ TBL := fun p hp => by
        rw [← enm] at hp
        obtain ⟨x, hx, rfl⟩ := List.mem_map.mp hp
        exact tbl_mem (hkn x hx).1 (hkn x hx).2
      have hnl : (nm ++ [last]).length ≤ 9 := by rw [← enm]; simp; (clear hz hdp hns oA oD2; omega)
      have hnl2 : nm.length ≤ 8 := by rw [List.length_append, List.length_singleton] at hnl; (clear hz hdp hns hdrl oA oD2 hws2; omega)
      have hnl3 : 2 ≤ nm.length := by have := congrArg List.length enm; simp at this; (clear hz hdp hns oA oD2 hnl hnl2; omega)
      rw [enm] at hys
      clear enm hkn hws2 oD2 hI5 N5 F5 oA offN offR
      obtain ⟨yn, yl, rfl⟩ := snoc_of (vs := ys) (fun q => by rw [q] at hys; have := hys.length; simp at this)
      obtain ⟨nm2, z, tz, e1, rfl, hyn⟩ := hys.unsnoc
      obtain ⟨rfl, e2⟩ := List.append_inj' e1 rfl
      cases e2
      clear e1
      have hynl := hyn.length
      (repeat' (first | (k_unfold; (try dsimp only)) | ((with_reducible show wpAny _ _ (storeName _ _ _) _ _ _); (try dsimp only); walk1) | ((with_reducible show PySem.wpAt _ _ _ _ _ _ _); walk_at "wpAt") | ((fail_if_success (with_reducible refine Stop.go (by constructor) ?_)); first | walk1 | (dsimp only; walk1))))
      refine PyProof.Rows.LCg.ListComp_U FN (cl := []) (by with_unfolding_all rfl) (by decide) (by with_unfolding_all rfl) (by decide) (by with_unfolding_all rfl) ?_ (fun _ => by with_unfolding_all rfl)
      (repeat' (first | (k_unfold; (try dsimp only)) | ((with_reducible show wpAny _ _ (storeName _ _ _) _ _ _); (try dsimp only); walk1) | ((with_reducible show PySem.wpAt _ _ _ _ _ _ _); walk_at "wpAt") | ((fail_if_success (with_reducible refine Stop.go (by constructor) ?_)); first | walk1 | (dsimp only; walk1))))
      refine slice_new (lo := none) (hi := some (-1)) FN NN ⟨_, (NN _ (.head _)).1, rfl, _, rfl⟩ .none (.int _ _) (by rw [List.size_toArray, List.length_append, sizeLine_eq]; simp; (clear hz hdp hns hdrl hnl; omega)) fun q3 sl3 h3 F3 N3 l3 => ?_
      rw [show (some (-1) : Option Int) = some (-((1 : Nat) : Int)) from rfl, slicePick_butLast _ 1 (by decide), List.size_toArray, List.length_append, List.length_singleton, Nat.add_sub_cancel, List.toList_toArray, List.take_left] at N3
      refine src_same (l := q3) (vs := yn) (k := 0) (fun i ys => StrsAre ys ((nm.take i).map sfx)) rfl F3 N3 .nil (by (clear hz hdp hns hdrl hnl; omega)) (.head _) (fun i v ys I oI C oC D m₂ h tk E' hv hC hx F9 N9 off ne hys => ?_) fun g9 yp hyp => ?_
      · obtain ⟨c, tc, rfl, hc⟩ := hyn.at' hv
        have hcT := hnm c (List.mem_append_left _ (List.mem_of_getElem? hc))
        (repeat' (first | (k_unfold; (try dsimp only)) | ((with_reducible show wpAny _ _ (storeName _ _ _) _ _ _); (try dsimp only); walk1) | ((with_reducible show PySem.wpAt _ _ _ _ _ _ _); walk_at "wpAt") | ((fail_if_success (with_reducible refine Stop.go (by constructor) ?_)); first | walk1 | (dsimp only; walk1))))
        refine add_str (fun ts tks => ?_) (by have := (tbl_all c hcT).1.2.2; have e1 : (Str.ofString "/").length = 1 := rfl; rw [sizeLine_eq, e1]; (clear hz hdp hns hdrl hnl hnl2 hnl3 hynl ne e1; omega))
        exact PyProof.Rows.LCg.CompEnd.intro F9 N9 _ (fun p hp => hp) off trivial ⟨rfl, by rw [take_succ_at hc, List.map_append]; exact hys.snoc _ _⟩
      · intro DP hP tP FP NP offP
        rw [hynl, List.take_length] at hyp
        have NP := News.sub (news' := [(DP, listOf yp.toArray yp.length), (DN, listOf (yn ++ [Value.str last tz]).toArray (yn.length + 1)), (DR, listOf yd.toArray yd.length), (140, tabObj ps), (147, tabObj qs)]) NP (by ((try simp only [List.cons_append, List.nil_append]); repeat' (first | exact .head _ | refine .tail _ ?_ | exact List.forall_mem_nil _ | refine List.forall_mem_cons.mpr ⟨?_, ?_⟩ | assumption | intro _ _)))
        clear offP N3 F3 l3
        dsimp only
        (repeat' (first | (k_unfold; (try dsimp only)) | ((with_reducible show wpAny _ _ (storeName _ _ _) _ _ _); (try dsimp only); walk1) | ((with_reducible show PySem.wpAt _ _ _ _ _ _ _); walk_at "wpAt") | ((fail_if_success (with_reducible refine Stop.go (by constructor) ?_)); first | walk1 | (dsimp only; walk1))))
        refine sub_last (NP _ (.tail _ (.head _))).1 (by (clear hz hdp hns hdrl hnl; omega)) ?_
        (repeat' (first | (k_unfold; (try dsimp only)) | ((with_reducible show wpAny _ _ (storeName _ _ _) _ _ _); (try dsimp only); walk1) | ((with_reducible show PySem.wpAt _ _ _ _ _ _ _); walk_at "wpAt") | ((fail_if_success (with_reducible refine Stop.go (by constructor) ?_)); first | walk1 | (dsimp only; walk1))))
        rename_i l4 h4 F4 N4 o4
        have hypl := hyp.length
        rw [List.length_map] at hypl
        refine kmk_add_lit F4 N4 (its := yp.toArray) (its2 := #[Value.str last tz]) (zs := yp ++ [Value.str last tz]) ⟨_, (N4 _ (.tail _ (.head _))).1, rfl, _, rfl⟩ ⟨_, (N4 _ (.head _)).1, rfl, _, rfl⟩ (by simp) (fun DQ hQ FQ NQ lQ => ?_) (by rw [sizeLine_eq]; simp; (clear hz hdp hns hdrl hnl o4; omega))
        have hyq : StrsAre (yp ++ [Value.str last tz]) (pcs nm last) := hyp.snoc _ _
        (repeat' (first | (k_unfold; (try dsimp only)) | ((with_reducible show wpAny _ _ (storeName _ _ _) _ _ _); (try dsimp only); walk1) | ((with_reducible show PySem.wpAt _ _ _ _ _ _ _); walk_at "wpAt") | ((fail_if_success (with_reducible refine Stop.go (by constructor) ?_)); first | walk1 | (dsimp only; walk1))))
        rename_i h5 F5 N5
        have N5 := News.sub (news' := [(DQ, listOf (yp ++ [Value.str last tz]).toArray 0), (DN, listOf (yn ++ [Value.str last tz]).toArray (yn.length + 1)), (DR, listOf yd.toArray yd.length), (140, tabObj ps), (147, tabObj qs)]) N5 (by ((try simp only [List.cons_append, List.nil_append]); repeat' (first | exact .head _ | refine .tail _ ?_ | exact List.forall_mem_nil _ | refine List.forall_mem_cons.mpr ⟨?_, ?_⟩ | assumption | intro _ _)))
        refine sumK rfl F5 N5 ⟨_, (N5 _ (.tail _ (.tail _ (.head _)))).1, rfl, _, rfl⟩ hyd fun h6 tk6 t6 F6 N6 => ?_
        clear F5 N5
        obtain ⟨A, hA1, hA4, eA⟩ : ∃ A : Nat, 0 < A ∧ A ≤ 4 ∧ 1 + Int.fmod (dr.sum + 1) 4 = (A : Int) := by
          have e : Int.fmod (dr.sum + 1) 4 = (dr.sum + 1) % 4 := Int.fmod_eq_emod_of_nonneg _ (by decide)
          exact ⟨(1 + (dr.sum + 1) % 4).toNat, by (clear hz hdp hns hdrl hnl hnl2 hnl3 hynl o4 hypl e; omega), by (clear hz hdp hns hdrl hnl hnl2 hnl3 hynl o4 hypl e; omega), by rw [e]; (clear hz hdp hns hdrl hnl hnl2 hnl3 hynl o4 hypl e; omega)⟩
        (repeat' (first | (k_unfold; (try dsimp only)) | ((with_reducible show wpAny _ _ (storeName _ _ _) _ _ _); (try dsimp only); walk1) | ((with_reducible show PySem.wpAt _ _ _ _ _ _ _); walk_at "wpAt") | ((fail_if_success (with_reducible refine Stop.go (by constructor) ?_)); first | walk1 | (dsimp only; walk1))))
        rw [eA] at *
        rename_i h7 F7 N7
        refine PyProof.Rows.LCg.ListComp_U F7 (cl := []) (by with_unfolding_all rfl) (by decide) (by with_unfolding_all rfl) (by decide) (by with_unfolding_all rfl) ?_ (fun _ => by with_unfolding_all rfl)
        (repeat' (first | (k_unfold; (try dsimp only)) | ((with_reducible show wpAny _ _ (storeName _ _ _) _ _ _); (try dsimp only); walk1) | ((with_reducible show PySem.wpAt _ _ _ _ _ _ _); walk_at "wpAt") | ((fail_if_success (with_reducible refine Stop.go (by constructor) ?_)); first | walk1 | (dsimp only; walk1))))
        refine src_same (l := DQ) (vs := yp ++ [Value.str last tz]) (k := 0) (fun i ys => PyProof.Rows.IntsAre ys (lens ((pcs nm last).take i))) rfl F7 N7 .nil (by rw [List.length_append, List.length_singleton]; (clear hz hdp hns hdrl hnl o4 hA1 hA4 eA; omega)) (.head _) (fun i v ys I oI C oC D m₂ h tk E' hv hC hx F9 N9 off ne hys => ?_) fun g9 yz hyz => ?_
        · obtain ⟨c, tc, rfl, hc⟩ := hyq.at' hv
          (repeat' (first | (k_unfold; (try dsimp only)) | ((with_reducible show wpAny _ _ (storeName _ _ _) _ _ _); (try dsimp only); walk1) | ((with_reducible show PySem.wpAt _ _ _ _ _ _ _); walk_at "wpAt") | ((fail_if_success (with_reducible refine Stop.go (by constructor) ?_)); first | walk1 | (dsimp only; walk1))))
          obtain ⟨-, -, -, hc5⟩ := pcs_plain hnm c (List.mem_of_getElem? hc)
          refine len_str (by (clear hz hdp hns hdrl hnl hnl2 hnl3 hynl o4 hypl hA1 hA4 eA ne; omega)) ?_
          exact PyProof.Rows.LCg.CompEnd.intro F9 N9 _ (fun p hp => hp) off trivial ⟨rfl, by rw [take_succ_at hc]; show PyProof.Rows.IntsAre _ ((_ ++ [c]).map _); rw [List.map_append]; exact hys.append (ints1 _ _)⟩
        · intro DZ hZ tZ FZ NZ offZ
          have hpq : (pcs nm last).length = nm.length + 1 := by simp
          rw [show (yp ++ [Value.str last tz]).length = (pcs nm last).length by rw [List.length_append, List.length_singleton, hpq, hypl], List.take_length] at hyz
          have hzl : (lens (pcs nm last)).length = (pcs nm last).length := List.length_map _
          clear F7 N7 offZ eA
          (repeat' (first | (k_unfold; (try dsimp only)) | ((with_reducible show wpAny _ _ (storeName _ _ _) _ _ _); (try dsimp only); walk1) | ((with_reducible show PySem.wpAt _ _ _ _ _ _ _); walk_at "wpAt") | ((fail_if_success (with_reducible refine Stop.go (by constructor) ?_)); first | walk1 | (dsimp only; walk1))))
          refine least_spec (A := A) X1 T1 FZ.keep (NZ _ (.head _)).1 (NZ _ (.head _)).2.2 hyz (by (clear hz hdp hns hdrl hnl o4 hA1 hA4; omega)) hA1 (by (clear hz hdp hns hdrl hnl hnl2 hnl3 hynl o4 hypl hpq hzl; omega)) (fun z hz => ?_) (by rw [hzl]; exact least_ex hA1) (by (clear hz hns hdrl hnl hnl2 hnl3 hynl o4 hypl hA1 hA4 hpq hzl; omega)) (by (clear hz hdp hns hdrl hnl hnl2 hnl3 hynl o4 hypl hA1 hA4 hpq hzl; omega)) fun h8 tk8 W t8 k8 hW1 hW2 => ?_
          · obtain ⟨c, hc, rfl⟩ := List.mem_map.mp hz
            have := (pcs_plain hnm c hc).2.2.2
            (clear hdp hns hdrl hnl hnl2 hnl3 hynl o4 hypl hA1 hA4 hpq hzl; omega)
          rw [hzl] at hW1 hW2
          have F8 := Mine.Fr.kept (h' := h8) (D := []) FZ k8 (fun b hb => no_mem hb) (fun hb => no_mem hb)
          have N8 := News.kept (h' := h8) (D := []) (news := [(DQ, listOf (yp ++ [Value.str last tz]).toArray 0), (DN, listOf (yn ++ [Value.str last tz]).toArray (yn.length + 1)), (140, tabObj ps), (147, tabObj qs)]) (News.sub NZ (by ((try simp only [List.cons_append, List.nil_append]); repeat' (first | exact .head _ | refine .tail _ ?_ | exact List.forall_mem_nil _ | refine List.forall_mem_cons.mpr ⟨?_, ?_⟩ | assumption | intro _ _)))) k8 (fun p hp hb => no_mem hb)
          clear FZ NZ
          (repeat' (first | (k_unfold; (try dsimp only)) | ((with_reducible show wpAny _ _ (storeName _ _ _) _ _ _); (try dsimp only); walk1) | ((with_reducible show PySem.wpAt _ _ _ _ _ _ _); walk_at "wpAt") | ((fail_if_success (with_reducible refine Stop.go (by constructor) ?_)); first | walk1 | (dsimp only; walk1))))
          rename_i h9 F9 N9
          have hsumq : ((pcs nm last).map (·.length)).sum ≤ 10000 := by
            have := StrLaws.sumLen_le (B := 5) (pcs nm last) (fun x hx => (pcs_plain hnm x hx).2.2.2)
            (clear hz hdp hns hdrl hnl o4 hA1 hA4; omega)
          have hstrq : ∀ c ∈ pcs nm last, PyData.strOk c = true := fun c hc => (pcs_plain hnm c hc).2.2.1
          have hDQ : @LT.lt Nat _ 147 DQ := lQ (147, tabObj qs) (by simp)
          have hfo := fold_ok (nm := nm) (last := last) W hnm (by (clear hz hdp hns hdrl hnl2 hnl3 hynl o4 hypl hA1 hA4 hpq hzl hsumq hDQ; omega))
          have hfo2 := fold_ok (nm := nm) (last := last) (W - 1) hnm (by (clear hz hdp hns hdrl hnl2 hnl3 hynl o4 hypl hA1 hA4 hpq hzl hsumq hDQ; omega))
          refine folded_spec (s := { s with heap := h9, toks := tk }) X1 T1 F9.keep G (N9 _ (.head _)).1 (N9 _ (.head _)).2.2 hyq (N9 _ (.tail _ (.tail _ (.head _)))).1 (N9 _ (.tail _ (.tail _ (.head _)))).2.2 ht140 (N9 _ (.tail _ (.tail _ (.tail _ (.head _))))).1 (N9 _ (.tail _ (.tail _ (.tail _ (.head _))))).2.2 ht147 (by (clear hz hdp hns hdrl hnl o4 hA1 hA4 hsumq hDQ; omega)) hsumq hstrq hDQ hfo.how hfo.jo hfo.jl (by (clear hz hns hdrl hnl hnl2 hnl3 hynl o4 hypl hA1 hA4 hpq hzl hsumq hDQ; omega)) (by (clear hz hdp hns hdrl hnl hnl2 hnl3 hynl o4 hypl hA1 hA4 hpq hzl hsumq hDQ; omega)) fun h10 g10 tk10 R1 l1 k10 tabs10 G10 fR1 eR1 el1 => ?_
          rw [hfo.sp] at el1
          have hr1 := strs_values l1
          rw [el1] at hr1
          obtain ⟨ps1, qs1, e140, u140, e147, u147⟩ := tabs10
          obtain ⟨F10, N10, o10⟩ := fold_news (front := [(DQ, listOf (yp ++ [Value.str last tz]).toArray 0), (DN, listOf (yn ++ [Value.str last tz]).toArray (yn.length + 1))]) F9 N9 k10 (fun p hp => by simp only [List.mem_cons, List.not_mem_nil, or_false] at hp; rcases hp with rfl | rfl <;> rfl) e140 e147 fR1 eR1
          simp only [List.cons_append, List.nil_append] at N10
          clear F9 N9
          (repeat' (first | (k_unfold; (try dsimp only)) | ((with_reducible show wpAny _ _ (storeName _ _ _) _ _ _); (try dsimp only); walk1) | ((with_reducible show PySem.wpAt _ _ _ _ _ _ _); walk_at "wpAt") | ((fail_if_success (with_reducible refine Stop.go (by constructor) ?_)); first | walk1 | (dsimp only; walk1))))
          rename_i h11 F11 N11
          refine folded_spec X1 T1 F11.keep G10 (N11 _ (.tail _ (.head _))).1 (N11 _ (.tail _ (.head _))).2.2 hyq (N11 _ (.tail _ (.tail _ (.tail _ (.head _))))).1 (N11 _ (.tail _ (.tail _ (.tail _ (.head _))))).2.2 u140 (N11 _ (.tail _ (.tail _ (.tail _ (.tail _ (.head _)))))).1 (N11 _ (.tail _ (.tail _ (.tail _ (.tail _ (.head _)))))).2.2 u147 (by (clear hz hdp hns hdrl hnl o4 hA1 hA4 hsumq hDQ; omega)) hsumq hstrq hDQ hfo2.how hfo2.jo hfo2.jl (by (clear hz hns hdrl hnl hnl2 hnl3 hynl o4 hypl hA1 hA4 hpq hzl hsumq hDQ; omega)) (by (clear hz hdp hns hdrl hnl hnl2 hnl3 hynl o4 hypl hA1 hA4 hpq hzl hsumq hDQ; omega)) fun h12 g12 tk12 R2 l2 k12 tabs12 G12 fR2 eR2 el2 => ?_
          rw [hfo2.sp] at el2
          have hr2 := strs_values l2
          rw [el2] at hr2
          obtain ⟨ps2, qs2, f140, v140, f147, v147⟩ := tabs12
          obtain ⟨F12, N12, o12⟩ := fold_news (front := [(R1, listOf (strValues l1).toArray 0), (DQ, listOf (yp ++ [Value.str last tz]).toArray 0), (DN, listOf (yn ++ [Value.str last tz]).toArray (yn.length + 1))]) F11 N11 k12 (fun p hp => by simp only [List.mem_cons, List.not_mem_nil, or_false] at hp; rcases hp with rfl | rfl | rfl <;> rfl) f140 f147 fR2 eR2
          simp only [List.cons_append, List.nil_append] at N12
          clear F11 N11
          obtain ⟨hen1, hen2⟩ := enough_ok hnm hW1
          have hl1 : (strValues l1).length = (rowsC W (pcs nm last)).length := hr1.length
          have hl2 : (strValues l2).length = (rowsC (W - 1) (pcs nm last)).length := hr2.length
          have hrl1 := hfo.rows.rl
          have hrl2 := hfo2.rows.rl
          have hsumn : ((nm ++ [last]).map (·.length)).sum ≤ 10000 := by
            have := StrLaws.sumLen_le (B := 4) (nm ++ [last]) (fun x hx => (tbl_all x (hnm x hx)).1.2.2)
            (clear hz hdp hns hdrl hnl2 hnl3 hynl o4 hypl hA1 hA4 hpq hzl hsumq hDQ hen1 hl1 hl2 hrl1 hrl2; omega)
          (repeat' (first | (k_unfold; (try dsimp only)) | ((with_reducible show wpAny _ _ (storeName _ _ _) _ _ _); (try dsimp only); walk1) | ((with_reducible show PySem.wpAt _ _ _ _ _ _ _); walk_at "wpAt") | ((fail_if_success (with_reducible refine Stop.go (by constructor) ?_)); first | walk1 | (dsimp only; walk1))))
          rename_i h13 F13 N13
          refine len_li (N13 _ (.tail _ (.head _))).1 (by (clear hz hdp hns hdrl hnl hnl2 hnl3 hynl o4 hypl hA1 hA4 hpq hzl hsumq hDQ hen1 hl2 hrl2 hsumn; omega)) fun t14 tk14 => ?_
          (repeat' (first | (k_unfold; (try dsimp only)) | ((with_reducible show wpAny _ _ (storeName _ _ _) _ _ _); (try dsimp only); walk1) | ((with_reducible show PySem.wpAt _ _ _ _ _ _ _); walk_at "wpAt") | ((fail_if_success (with_reducible refine Stop.go (by constructor) ?_)); first | walk1 | (dsimp only; walk1))))
          refine PyProof.Rows.LCg.ListComp_U F13 (cl := []) (by with_unfolding_all rfl) (by decide) (by with_unfolding_all rfl) (by decide) (by with_unfolding_all rfl) ?_ (fun _ => by with_unfolding_all rfl)
          (repeat' (first | (k_unfold; (try dsimp only)) | ((with_reducible show wpAny _ _ (storeName _ _ _) _ _ _); (try dsimp only); walk1) | ((with_reducible show PySem.wpAt _ _ _ _ _ _ _); walk_at "wpAt") | ((fail_if_success (with_reducible refine Stop.go (by constructor) ?_)); first | walk1 | (dsimp only; walk1))))
          refine src_same (l := R1) (vs := strValues l1) (k := 0) (fun i ys => PyProof.Rows.IntsAre ys (lens ((rowsC W (pcs nm last)).take i))) rfl F13 N13 .nil (by (clear hz hdp hns hdrl hnl hnl2 hnl3 hynl o4 hypl hA1 hA4 hpq hzl hsumq hDQ hen1 hl2 hrl2 hsumn; omega)) (.tail _ (.head _)) (fun i v ys I oI C oC D m₂ h tk E' hv hC hx F9 N9 off ne hys => ?_) fun gA yA hyA => ?_
          · obtain ⟨c, tc, rfl, hc⟩ := hr1.at' hv
            have hc5 := (hfo.rows.row i c hc).1
            (repeat' (first | (k_unfold; (try dsimp only)) | ((with_reducible show wpAny _ _ (storeName _ _ _) _ _ _); (try dsimp only); walk1) | ((with_reducible show PySem.wpAt _ _ _ _ _ _ _); walk_at "wpAt") | ((fail_if_success (with_reducible refine Stop.go (by constructor) ?_)); first | walk1 | (dsimp only; walk1))))
            exact PyProof.Rows.LCg.CompEnd.intro F9 N9 _ (fun p hp => hp) off trivial ⟨rfl, by rw [take_succ_at hc]; show PyProof.Rows.IntsAre _ ((_ ++ [c]).map _); rw [List.map_append]; exact hys.append (ints1 _ _)⟩
          intro DA hA tA FA NA offA
          rw [hl1, List.take_length] at hyA
          have hr01 := hfo.rows.rl0
          (repeat' (first | (k_unfold; (try dsimp only)) | ((with_reducible show wpAny _ _ (storeName _ _ _) _ _ _); (try dsimp only); walk1) | ((with_reducible show PySem.wpAt _ _ _ _ _ _ _); walk_at "wpAt") | ((fail_if_success (with_reducible refine Stop.go (by constructor) ?_)); first | walk1 | (dsimp only; walk1))))
          refine kso_max FA NA ⟨_, (NA _ (.head _)).1, rfl, _, rfl⟩ hyA (by rw [show (lens (rowsC W (pcs nm last))).length = (rowsC W (pcs nm last)).length from List.length_map _]; exact hr01) rfl fun h15 M15 t15 tk15 F15 N15 hm1 hm2 => ?_
          have hM15 : M15 ≤ W := by
            obtain ⟨r, hr, rfl⟩ := List.mem_map.mp hm1
            exact hen2 r hr
          have N15 := News.sub (news' := [(R2, listOf (strValues l2).toArray 0), (R1, listOf (strValues l1).toArray 0), (DQ, listOf (yp ++ [Value.str last tz]).toArray 0), (DN, listOf (yn ++ [Value.str last tz]).toArray (yn.length + 1)), (140, tabObj ps2), (147, tabObj qs2)]) N15 (fun p hp => .tail _ hp)
          clear F13 N13 FA NA offA
          repeat' (first | (k_unfold; (try dsimp only)) | ((with_reducible show wpAny _ _ (storeName _ _ _) _ _ _); (try dsimp only); walk1) | ((fail_if_success (with_reducible show wpAny _ _ (exec (Stmt.If _ _ _ _) _) _ _ _)); ((fail_if_success (with_reducible refine Stop.go (by constructor) ?_)); first | walk1 | (dsimp only; walk1))))
          k_fold
          have key : ∀ (tk5 : Nat) (h5 : Heap) (u5 : Str → Option Value), Fr g L h5 (KF [(Str.ofString "enough", .ref R1), (Str.ofString "names", .ref DN), (Str.ofString "narrow", .ref R2)] u5) → News g L h5 [(R2, listOf (strValues l2).toArray 0), (R1, listOf (strValues l1).toArray 0), (DQ, listOf (yp ++ [Value.str last tz]).toArray 0), (DN, listOf (yn ++ [Value.str last tz]).toArray (yn.length + 1)), (140, tabObj ps2), (147, tabObj qs2)] → qk .next { s with heap := h5, gens := g12, toks := tk5 } := by
            clear F15 N15
            intro tk5 h5 u5 F17 N17
            (repeat' (first | (k_unfold; (try dsimp only)) | ((with_reducible show wpAny _ _ (storeName _ _ _) _ _ _); (try dsimp only); walk1) | ((with_reducible show PySem.wpAt _ _ _ _ _ _ _); walk_at "wpAt") | ((fail_if_success (with_reducible refine Stop.go (by constructor) ?_)); first | walk1 | (dsimp only; walk1))))
            refine rows_spec (kr := 0) (kn := yn.length + 1) X1 T1 F17.keep (N17 _ (.tail _ (.head _))).1 (N17 _ (.tail _ (.head _))).2.2 hr1 (N17 _ (.tail _ (.tail _ (.tail _ (.head _))))).1 (N17 _ (.tail _ (.tail _ (.tail _ (.head _))))).2.2 hys (fun e => o10 _ (.tail _ (.head _)) e.symm) (by (clear hz hdp hns hdrl hnl2 hnl3 hynl o4 hypl hA1 hA4 hpq hzl hsumq hDQ hen1 hl1 hl2 hrl1 hrl2 hsumn hr01 hM15; omega)) hsumn hfo.rows.rl hfo.rows.rl0 hfo.rows.row hfo.rows.whole hfo.rows.place hfo.rows.step hfo.rows.w0 hfo.rows.ws hfo.rows.H1 hfo.rows.H2 hfo.rows.H3 hfo.rows.last hfo.rows.H4 hfo.rows.H5 hfo.rows.jn hfo.rows.jr (by (clear hz hns hdrl hnl hnl2 hnl3 hynl o4 hypl hA1 hA4 hpq hzl hsumq hDQ hen1 hl1 hl2 hrl1 hrl2 hsumn hr01 hM15; omega)) (by (clear hz hdp hns hdrl hnl hnl2 hnl3 hynl o4 hypl hA1 hA4 hpq hzl hsumq hDQ hen1 hl1 hl2 hrl1 hrl2 hsumn hr01 hM15; omega)) fun h20 tk20 k20 => ?_
            have F20 := Mine.Fr.kept (h' := h20) (D := []) F17 k20 (fun b hb => no_mem hb) (fun hb => no_mem hb)
            have N20 := News.kept (h' := h20) (D := []) N17 k20 (fun p hp hb => no_mem hb)
            clear F17 N17
            (repeat' (first | (k_unfold; (try dsimp only)) | ((with_reducible show wpAny _ _ (storeName _ _ _) _ _ _); (try dsimp only); walk1) | ((with_reducible show PySem.wpAt _ _ _ _ _ _ _); walk_at "wpAt") | ((fail_if_success (with_reducible refine Stop.go (by constructor) ?_)); first | walk1 | (dsimp only; walk1))))
            refine rows_spec (kr := 0) (kn := yn.length + 1) X1 T1 F20.keep (N20 _ (.head _)).1 (N20 _ (.head _)).2.2 hr2 (N20 _ (.tail _ (.tail _ (.tail _ (.head _))))).1 (N20 _ (.tail _ (.tail _ (.tail _ (.head _))))).2.2 hys (fun e => o12 _ (.tail _ (.tail _ (.head _))) e.symm) (by (clear hz hdp hns hdrl hnl2 hnl3 hynl o4 hypl hA1 hA4 hpq hzl hsumq hDQ hen1 hl1 hl2 hrl1 hrl2 hsumn hr01 hM15; omega)) hsumn hfo2.rows.rl hfo2.rows.rl0 hfo2.rows.row hfo2.rows.whole hfo2.rows.place hfo2.rows.step hfo2.rows.w0 hfo2.rows.ws hfo2.rows.H1 hfo2.rows.H2 hfo2.rows.H3 hfo2.rows.last hfo2.rows.H4 hfo2.rows.H5 hfo2.rows.jn hfo2.rows.jr (by (clear hz hns hdrl hnl hnl2 hnl3 hynl o4 hypl hA1 hA4 hpq hzl hsumq hDQ hen1 hl1 hl2 hrl1 hrl2 hsumn hr01 hM15; omega)) (by (clear hz hdp hns hdrl hnl hnl2 hnl3 hynl o4 hypl hA1 hA4 hpq hzl hsumq hDQ hen1 hl1 hl2 hrl1 hrl2 hsumn hr01 hM15; omega)) fun h21 tk21 k21 => ?_
            have F21 := Mine.Fr.kept (h' := h21) (D := []) F20 k21 (fun b hb => no_mem hb) (fun hb => no_mem hb)
            have N21 := News.kept (h' := h21) (D := []) N20 k21 (fun p hp hb => no_mem hb)
            clear F20 N20
            (repeat' (first | (k_unfold; (try dsimp only)) | ((with_reducible show wpAny _ _ (storeName _ _ _) _ _ _); (try dsimp only); walk1) | ((with_reducible show PySem.wpAt _ _ _ _ _ _ _); walk_at "wpAt") | ((fail_if_success (with_reducible refine Stop.go (by constructor) ?_)); first | walk1 | (dsimp only; walk1))))
            refine ret _ _ _ (keep_of (D := [(140, tabObj ps), (147, tabObj qs)]) (fun q hq => ?_) KP F21.keep fun q hq hn' => ?_) ⟨ps2, qs2, (N21 _ (.tail _ (.tail _ (.tail _ (.tail _ (.head _)))))).1, v140, (N21 _ (.tail _ (.tail _ (.tail _ (.tail _ (.tail _ (.head _))))))).1, v147⟩ G12
            · simp only [List.mem_cons, List.not_mem_nil, or_false] at hq
              rcases hq with rfl | rfl
              · exact h140
              · exact h147
            · simp only [List.mem_cons, List.not_mem_nil, or_false] at hq
              rcases hq with rfl | rfl
              · exact absurd (by simp) hn'
              · exact absurd (by simp) hn'
          clear_value qk
          (repeat' (first | (k_unfold; (try dsimp only)) | ((with_reducible show wpAny _ _ (storeName _ _ _) _ _ _); (try dsimp only); walk1) | ((with_reducible show PySem.wpAt _ _ _ _ _ _ _); walk_at "wpAt") | ((fail_if_success (with_reducible refine Stop.go (by constructor) ?_)); first | walk1 | (dsimp only; walk1))))
          refine len_li (N15 _ (.head _)).1 (by (clear hz hdp hns hdrl hnl hnl2 hnl3 hynl o4 hypl hA1 hA4 hpq hzl hsumq hDQ hen1 hl1 hrl1 hsumn hr01 hM15; omega)) fun t16 tk16 => ?_
          (repeat' (first | (k_unfold; (try dsimp only)) | ((with_reducible show wpAny _ _ (storeName _ _ _) _ _ _); (try dsimp only); walk1) | ((with_reducible show PySem.wpAt _ _ _ _ _ _ _); walk_at "wpAt") | ((fail_if_success (with_reducible refine Stop.go (by constructor) ?_)); first | walk1 | (dsimp only; walk1))))
          · rename_i hle
            refine PyProof.Rows.LCg.ListComp_U F15 (cl := []) (by with_unfolding_all rfl) (by decide) (by with_unfolding_all rfl) (by decide) (by with_unfolding_all rfl) ?_ (fun _ => by with_unfolding_all rfl)
            (repeat' (first | (k_unfold; (try dsimp only)) | ((with_reducible show wpAny _ _ (storeName _ _ _) _ _ _); (try dsimp only); walk1) | ((with_reducible show PySem.wpAt _ _ _ _ _ _ _); walk_at "wpAt") | ((fail_if_success (with_reducible refine Stop.go (by constructor) ?_)); first | walk1 | (dsimp only; walk1))))
            refine src_same (l := R2) (vs := strValues l2) (k := 0) (fun i ys => PyProof.Rows.IntsAre ys (lens ((rowsC (W - 1) (pcs nm last)).take i))) rfl F15 N15 .nil (by (clear hz hdp hns hdrl hnl hnl2 hnl3 hynl o4 hypl hA1 hA4 hpq hzl hsumq hDQ hen1 hl1 hrl1 hsumn hr01 hM15 hle; omega)) (.head _) (fun i v ys I oI C oC D m₂ h tk E' hv hC hx F9 N9 off ne hys => ?_) fun gB yB hyB => ?_
            · obtain ⟨c, tc, rfl, hc⟩ := hr2.at' hv
              have hc5 := (hfo2.rows.row i c hc).1
              (repeat' (first | (k_unfold; (try dsimp only)) | ((with_reducible show wpAny _ _ (storeName _ _ _) _ _ _); (try dsimp only); walk1) | ((with_reducible show PySem.wpAt _ _ _ _ _ _ _); walk_at "wpAt") | ((fail_if_success (with_reducible refine Stop.go (by constructor) ?_)); first | walk1 | (dsimp only; walk1))))
              exact PyProof.Rows.LCg.CompEnd.intro F9 N9 _ (fun p hp => hp) off trivial ⟨rfl, by rw [take_succ_at hc]; show PyProof.Rows.IntsAre _ ((_ ++ [c]).map _); rw [List.map_append]; exact hys.append (ints1 _ _)⟩
            intro DB hB tB FB NB offB
            rw [hl2, List.take_length] at hyB
            have hr02 := hfo2.rows.rl0
            (repeat' (first | (k_unfold; (try dsimp only)) | ((with_reducible show wpAny _ _ (storeName _ _ _) _ _ _); (try dsimp only); walk1) | ((with_reducible show PySem.wpAt _ _ _ _ _ _ _); walk_at "wpAt") | ((fail_if_success (with_reducible refine Stop.go (by constructor) ?_)); first | walk1 | (dsimp only; walk1))))
            refine kso_max FB NB ⟨_, (NB _ (.head _)).1, rfl, _, rfl⟩ hyB (by rw [show (lens (rowsC (W - 1) (pcs nm last))).length = (rowsC (W - 1) (pcs nm last)).length from List.length_map _]; exact hr02) rfl fun h17 M17 t17 tk17 F17 N17 hm3 hm4 => ?_
            have hM17 : W ≤ M17 := by
              obtain ⟨r, hr, hrW⟩ := narrow_ok hnm hW2 (by (clear hz hdp hns hdrl hnl hnl2 hnl3 hynl o4 hypl hA1 hA4 hpq hzl hsumq hDQ hen1 hl1 hrl1 hrl2 hsumn hr01 hM15 hr02; omega))
              exact Int.le_trans hrW (hm4 _ (List.mem_map_of_mem hr))
            have N17 := News.sub (news' := [(R2, listOf (strValues l2).toArray 0), (R1, listOf (strValues l1).toArray 0), (DQ, listOf (yp ++ [Value.str last tz]).toArray 0), (DN, listOf (yn ++ [Value.str last tz]).toArray (yn.length + 1)), (140, tabObj ps2), (147, tabObj qs2)]) N17 (fun p hp => .tail _ hp)
            clear F15 N15 FB NB offB
            (repeat' (first | (k_unfold; (try dsimp only)) | ((with_reducible show wpAny _ _ (storeName _ _ _) _ _ _); (try dsimp only); walk1) | ((with_reducible show PySem.wpAt _ _ _ _ _ _ _); walk_at "wpAt") | ((fail_if_success (with_reducible refine Stop.go (by constructor) ?_)); first | walk1 | (dsimp only; walk1))))
            exact key _ _ _ (toKF [(Str.ofString "enough", .ref R1), (Str.ofString "names", .ref DN), (Str.ofString "narrow", .ref R2)] F17 ⟨rfl, rfl, rfl, trivial⟩) N17
          · exact key _ _ _ (toKF [(Str.ofString "enough", .ref R1), (Str.ofString "names", .ref DN), (Str.ofString "narrow", .ref R2)] F15 ⟨rfl, rfl, rfl, trivial⟩) N15

end
end Mine
namespace Mine
theorem tabs_base {h h' : Heap} {tabs : List (Addr × Addr)} {D : List Addr} (hD : D = tabs.map (·.2)) (k : Keep D h h') : ∀ b o, (ghostOf h tabs).get? b = some o → h'.get? b = some o := fun b o e => k b o (fun hb => by
  rw [hD] at hb
  have := hideAll_none (h := h) _ hb
  rw [show (ghostOf h tabs).get? b = none from this] at e; cases e) (of_hideAll _ e)
theorem top_gl {p : Program} {loose : List Str} {mean : ExcName → Option Value} {mg mb : Str → Option Value} {h : Heap} {tabs : List (Addr × Addr)} (hT : TabsAt tabs h) (T : Top p loose mean mg mb h)
    (e : loose ++ (recsOf p).map (·.name) ++ (litsOf p).map (·.1) ++ (clssOf p loose).map (·.name) = GL) : Top topProg GL mean mg mb (ghostOf h tabs) := e ▸ ghost_top hT T
theorem grown2 {h : Heap} {ps qs : Array Value} (e1 : h.get? 140 = some (tabObj ps)) (e2 : h.get? 147 = some (tabObj qs)) : GrownAll [(144, 140), (151, 147)] h := ⟨⟨ps, e1⟩, ⟨qs, e2⟩, trivial⟩
end Mine
theorem PySem.Challenge.cw_ik0220_01_holds : PySem.Challenge.rw_ik0220_01.Holds := by
  w_on
  refine holds_law Mine.said1 fun said => ?_
  refine holds_open (q := Mine.vw) (loose := Mine.LS1) (Xt := fun s => xlAt Mine.vw [] s && recOk (RowW.records Mine.rowR.toRowW) s) (XP := XL Mine.vw []) (Yf := Hook.obs Mine.HK) (Ya := Hook.val Mine.HK) (YP := Hook.says Mine.HK) (N := 4552) Mine.left1 (Hook.of Mine.HK) (Hook.keeps Mine.HK) (fun s e => xl_of s (Bool.and_eq_true_iff.mp e).1) XL.keeps (by rfl) (by rfl) (by rfl) (fun s e => recFacts_of (Bool.and_eq_true_iff.mp e).2) (by rfl) said (by decide +kernel) ⟨rfl, rfl, rfl, rfl, rfl, by decide +kernel⟩ ?hw ?hc
  case hw => w_witness2
  case hc =>
    k_fill
    intro w s₀ s₁ mg mb G Y fa o pm cd doc dV kV ho hd' hcd hD hmg hg args vals as hpre hlay hrd hwl hlo
    have KX := km_in_of Y
    have KT := km_tabs_of Y
    have X := (Ground.X G).1
    have V := (Ground.X G).2
    refine Ground.open G ?_
    intro T B D TE TW
    try (refine guard_noD D (by decide +kernel) ?_; clear D)
    have hT9 : TabsAt [(144, 140), (151, 147)] s₁.heap := List.forall_mem_cons.mpr ⟨⟨codeHd_of_K (c := 144) (P := 140) KX (by kernel_rfl), KT 140 (by k_mem)⟩, List.forall_mem_cons.mpr ⟨⟨codeHd_of_K (c := 151) (P := 147) KX (by kernel_rfl), KT 147 (by k_mem)⟩, fun _ h => nomatch h⟩⟩
    wrow_args hpre hlay hrd hwl hlo
    rename_i zs hsh hla0 hL1 hrr1 hlw2 rs1 rs2 al vsA rsA hLst hRA hW1 hR0 hIA hRW hlen htt
    have e356 : mg (Str.ofString "law") = some (.ref 356) := mg_of KX T.g (by kernel_rfl)
    have hfa : fa = 356 := by
      rw [show mg (Str.ofString "law") = some (.ref fa) from hmg] at e356
      cases e356
      rfl
    subst hfa
    clear ho hd' hcd hD hmg
    refine enter_call ?_
    refine Mine.end_true hT9 (d := .bool true) (fun _ => rfl) (fun _ => .bool _) (by kernel_rfl) ?_
    have GT := Mine.top_gl hT9 T (by kernel_rfl)

    have hzl : vsA.length ≤ sizeLine := by rw [hIA.length, sizeLine_eq]; omega
    refine Mine.law_spec (w := w) (dp := 1 + claimMargin) (un := 4) (gd := some []) (fr := []) (ps := #[]) (qs := #[]) (ns := zs) (ghost_K hT9 KX (by kernel_rfl)) GT (fun b o e => of_hideAll _ e) (AllBare.of_eq hg) (ghost_list hT9 hLst) hIA hzl (KT 140 (by simp)) (hideAll_none _ (by simp)) (.inl rfl) (KT 147 (by simp)) (hideAll_none _ (by simp)) (.inl rfl) (by decide) (by decide) fun h' g' tk' kp tb gb => ?_
    obtain ⟨ps', qs', e1, -, e2, -⟩ := tb
    exact ⟨rfl, Mine.tabs_base rfl kp, rfl, gb, Mine.grown2 e1 e2⟩
