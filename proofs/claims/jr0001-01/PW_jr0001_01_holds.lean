import PyProof.Rows.All
import Wide.All
import OpenK.AllK
import Wide.FinOn
import PySem.Challenge.RW_jr0001_01
set_option Elab.async false

section
open PySem PySem.W PyProof.Rows
set_option maxRecDepth 100000
set_option maxHeartbeats 8000000
namespace Mine
noncomputable abbrev pr : Program := PySem.Challenge.pw_jr0001_01
/-- what the top left, object for object; the bodies are those of the row's own text -/
noncomputable abbrev KOf (p28 : Arguments) (b28 : List Stmt) (s28 : Scope) (p35 : Arguments) (b35 : List Stmt) (s35 : Scope) (p42 : Arguments) (b42 : List Stmt) (s42 : Scope) (p49 : Arguments) (b49 : List Stmt) (s49 : Scope) (p56 : Arguments) (b56 : List Stmt) (s56 : Scope) (p77 : Arguments) (b77 : List Stmt) (s77 : Scope) (p87 : Arguments) (b87 : List Stmt) (s87 : Scope) (p94 : Arguments) (b94 : List Stmt) (s94 : Scope) (p101 : Arguments) (b101 : List Stmt) (s101 : Scope) (p106 : Arguments) (b106 : List Stmt) (s106 : Scope) (p113 : Arguments) (b113 : List Stmt) (s113 : Scope) (p118 : Arguments) (b118 : List Stmt) (s118 : Scope) (p125 : Arguments) (b125 : List Stmt) (s125 : Scope) (p130 : Arguments) (b130 : List Stmt) (s130 : Scope) (p137 : Arguments) (b137 : List Stmt) (s137 : Scope) (p142 : Arguments) (b142 : List Stmt) (s142 : Scope) (p147 : Arguments) (b147 : List Stmt) (s147 : Scope) : Params → Frag := fun P => [
    (2, { cls := Value.none, data := Data.dict #[] }),
    (3, { cls := Value.type "dict", data := Data.dict #[{ hash := PyData.keyHash P (Str.ofString "__name__"), key := Value.str (Str.ofString "__name__") 165, val := Value.str (Str.ofString "law_jr0001_01") 294 }, { hash := PyData.keyHash P (Str.ofString "__doc__"), key := Value.str (Str.ofString "__doc__") 166, val := Value.none }, { hash := PyData.keyHash P (Str.ofString "__package__"), key := Value.str (Str.ofString "__package__") 167, val := Value.none }, { hash := PyData.keyHash P (Str.ofString "__loader__"), key := Value.str (Str.ofString "__loader__") 168, val := Value.builtin "__main__.__loader__#opaque" }, { hash := PyData.keyHash P (Str.ofString "__spec__"), key := Value.str (Str.ofString "__spec__") 169, val := Value.none }, { hash := PyData.keyHash P (Str.ofString "__annotations__"), key := Value.str (Str.ofString "__annotations__") 170, val := Value.ref 6 }, { hash := PyData.keyHash P (Str.ofString "__builtins__"), key := Value.str (Str.ofString "__builtins__") 171, val := Value.ref 4 }, { hash := PyData.keyHash P (Str.ofString "__file__"), key := Value.str (Str.ofString "__file__") 173, val := Value.str (Str.ofString "/claim/cut.py") 172 }, { hash := PyData.keyHash P (Str.ofString "__cached__"), key := Value.str (Str.ofString "__cached__") 174, val := Value.none }, { hash := PyData.keyHash P (Str.ofString "PolicyTreeRoot"), key := Value.str (Str.ofString "PolicyTreeRoot") 260, val := Value.ref 59 }, { hash := PyData.keyHash P (Str.ofString "PolicyTreeNode"), key := Value.str (Str.ofString "PolicyTreeNode") 293, val := Value.ref 80 }, { hash := PyData.keyHash P (Str.ofString "_law_start"), key := Value.str (Str.ofString "_law_start") 301, val := Value.ref 87 }, { hash := PyData.keyHash P (Str.ofString "_law_take"), key := Value.str (Str.ofString "_law_take") 310, val := Value.ref 94 }, { hash := PyData.keyHash P (Str.ofString "_law_rows"), key := Value.str (Str.ofString "_law_rows") 320, val := Value.ref 101 }, { hash := PyData.keyHash P (Str.ofString "_law_level"), key := Value.str (Str.ofString "_law_level") 326, val := Value.ref 106 }, { hash := PyData.keyHash P (Str.ofString "_law_bare"), key := Value.str (Str.ofString "_law_bare") 333, val := Value.ref 113 }, { hash := PyData.keyHash P (Str.ofString "_law_pairs"), key := Value.str (Str.ofString "_law_pairs") 339, val := Value.ref 118 }, { hash := PyData.keyHash P (Str.ofString "_law_flat"), key := Value.str (Str.ofString "_law_flat") 347, val := Value.ref 125 }, { hash := PyData.keyHash P (Str.ofString "_law_right"), key := Value.str (Str.ofString "_law_right") 353, val := Value.ref 130 }, { hash := PyData.keyHash P (Str.ofString "_law_node"), key := Value.str (Str.ofString "_law_node") 364, val := Value.ref 137 }, { hash := PyData.keyHash P (Str.ofString "_law_swept"), key := Value.str (Str.ofString "_law_swept") 370, val := Value.ref 142 }, { hash := PyData.keyHash P (Str.ofString "law"), key := Value.str (Str.ofString "law") 376, val := Value.ref 147 }] 22 }),
    (6, { cls := Value.type "dict", data := Data.dict #[] }),
    (22, { cls := Value.type "tuple", data := Data.seq #[] }),
    (24, { cls := Value.type "tuple", data := Data.seq #[Value.str (Str.ofString "self") 206, Value.str (Str.ofString "valid_policy") 207, Value.str (Str.ofString "qualifier_set") 208, Value.str (Str.ofString "expected_policy_set") 209] }),
    (25, { cls := Value.type "tuple", data := Data.seq #[] }),
    (27, { cls := Value.type "code", data := Data.fields #[Value.str (Str.ofString "__init__") 203, Value.str (Str.ofString "PolicyTreeRoot.__init__") 204, Value.str (Str.ofString "/claim/cut.py") 205, Value.int 6 0, Value.int 4 0, Value.int 0 0, Value.int 0 0, Value.int 3 0, Value.ref 22, Value.bool true, Value.int 181 0, Value.ref 23, Value.none, Value.ref 24, Value.ref 25, Value.ref 26, Value.int 210 0, Value.int 6 0, Value.str (Str.ofString "/claim/cut.py") 211] }),
    (28, { cls := Value.type "function", data := Data.func { name := Str.ofString "__init__", qualname := Str.ofString "PolicyTreeRoot.__init__", params := p28, body := FuncBody.stmts b28, scope := s28, globals := 3, closure := [], defaults := Value.none, kwdefaults := Value.none, pyModule := Value.str (Str.ofString "certvalidator.validate") 187, code := Value.ref 27 } }),
    (29, { cls := Value.type "tuple", data := Data.seq #[] }),
    (31, { cls := Value.type "tuple", data := Data.seq #[Value.str (Str.ofString "self") 216, Value.str (Str.ofString "valid_policy") 217, Value.str (Str.ofString "qualifier_set") 218, Value.str (Str.ofString "expected_policy_set") 219, Value.str (Str.ofString "child") 220] }),
    (32, { cls := Value.type "tuple", data := Data.seq #[] }),
    (34, { cls := Value.type "code", data := Data.fields #[Value.str (Str.ofString "add_child") 213, Value.str (Str.ofString "PolicyTreeRoot.add_child") 214, Value.str (Str.ofString "/claim/cut.py") 215, Value.int 10 0, Value.int 4 0, Value.int 0 0, Value.int 0 0, Value.int 3 0, Value.ref 29, Value.bool true, Value.int 181 0, Value.ref 30, Value.none, Value.ref 31, Value.ref 32, Value.ref 33, Value.int 221 0, Value.int 10 0, Value.str (Str.ofString "/claim/cut.py") 222] }),
    (35, { cls := Value.type "function", data := Data.func { name := Str.ofString "add_child", qualname := Str.ofString "PolicyTreeRoot.add_child", params := p35, body := FuncBody.stmts b35, scope := s35, globals := 3, closure := [], defaults := Value.none, kwdefaults := Value.none, pyModule := Value.str (Str.ofString "certvalidator.validate") 187, code := Value.ref 34 } }),
    (36, { cls := Value.type "tuple", data := Data.seq #[] }),
    (38, { cls := Value.type "tuple", data := Data.seq #[Value.str (Str.ofString "self") 227, Value.str (Str.ofString "child") 228] }),
    (39, { cls := Value.type "tuple", data := Data.seq #[] }),
    (41, { cls := Value.type "code", data := Data.fields #[Value.str (Str.ofString "remove_child") 224, Value.str (Str.ofString "PolicyTreeRoot.remove_child") 225, Value.str (Str.ofString "/claim/cut.py") 226, Value.int 15 0, Value.int 2 0, Value.int 0 0, Value.int 0 0, Value.int 3 0, Value.ref 36, Value.bool true, Value.int 181 0, Value.ref 37, Value.none, Value.ref 38, Value.ref 39, Value.ref 40, Value.int 229 0, Value.int 15 0, Value.str (Str.ofString "/claim/cut.py") 230] }),
    (42, { cls := Value.type "function", data := Data.func { name := Str.ofString "remove_child", qualname := Str.ofString "PolicyTreeRoot.remove_child", params := p42, body := FuncBody.stmts b42, scope := s42, globals := 3, closure := [], defaults := Value.none, kwdefaults := Value.none, pyModule := Value.str (Str.ofString "certvalidator.validate") 187, code := Value.ref 41 } }),
    (43, { cls := Value.type "tuple", data := Data.seq #[] }),
    (45, { cls := Value.type "tuple", data := Data.seq #[Value.str (Str.ofString "self") 235, Value.str (Str.ofString "depth") 236, Value.str (Str.ofString "child") 237, Value.str (Str.ofString "grandchild") 238] }),
    (46, { cls := Value.type "tuple", data := Data.seq #[] }),
    (48, { cls := Value.type "code", data := Data.fields #[Value.str (Str.ofString "at_depth") 232, Value.str (Str.ofString "PolicyTreeRoot.at_depth") 233, Value.str (Str.ofString "/claim/cut.py") 234, Value.int 18 0, Value.int 2 0, Value.int 0 0, Value.int 0 0, Value.int 35 0, Value.ref 43, Value.bool true, Value.int 181 0, Value.ref 44, Value.none, Value.ref 45, Value.ref 46, Value.ref 47, Value.int 239 0, Value.int 18 0, Value.str (Str.ofString "/claim/cut.py") 240] }),
    (49, { cls := Value.type "function", data := Data.func { name := Str.ofString "at_depth", qualname := Str.ofString "PolicyTreeRoot.at_depth", params := p49, body := FuncBody.stmts b49, scope := s49, globals := 3, closure := [], defaults := Value.none, kwdefaults := Value.none, pyModule := Value.str (Str.ofString "certvalidator.validate") 187, code := Value.ref 48 } }),
    (50, { cls := Value.type "tuple", data := Data.seq #[] }),
    (52, { cls := Value.type "tuple", data := Data.seq #[Value.str (Str.ofString "self") 245, Value.str (Str.ofString "depth") 246, Value.str (Str.ofString "child") 247, Value.str (Str.ofString "grandchild") 248] }),
    (53, { cls := Value.type "tuple", data := Data.seq #[] }),
    (55, { cls := Value.type "code", data := Data.fields #[Value.str (Str.ofString "walk_up") 242, Value.str (Str.ofString "PolicyTreeRoot.walk_up") 243, Value.str (Str.ofString "/claim/cut.py") 244, Value.int 26 0, Value.int 2 0, Value.int 0 0, Value.int 0 0, Value.int 35 0, Value.ref 50, Value.bool true, Value.int 181 0, Value.ref 51, Value.none, Value.ref 52, Value.ref 53, Value.ref 54, Value.int 249 0, Value.int 26 0, Value.str (Str.ofString "/claim/cut.py") 250] }),
    (56, { cls := Value.type "function", data := Data.func { name := Str.ofString "walk_up", qualname := Str.ofString "PolicyTreeRoot.walk_up", params := p56, body := FuncBody.stmts b56, scope := s56, globals := 3, closure := [], defaults := Value.none, kwdefaults := Value.none, pyModule := Value.str (Str.ofString "certvalidator.validate") 187, code := Value.ref 55 } }),
    (57, { cls := Value.type "tuple", data := Data.seq #[Value.str (Str.ofString "children") 252] }),
    (58, { cls := Value.type "dict", data := Data.dict #[{ hash := PyData.keyHash P (Str.ofString "__module__"), key := Value.str (Str.ofString "__module__") 196, val := Value.str (Str.ofString "certvalidator.validate") 187 }, { hash := PyData.keyHash P (Str.ofString "__firstlineno__"), key := Value.str (Str.ofString "__firstlineno__") 200, val := Value.int 2 199 }, { hash := PyData.keyHash P (Str.ofString "parent"), key := Value.str (Str.ofString "parent") 201, val := Value.none }, { hash := PyData.keyHash P (Str.ofString "children"), key := Value.str (Str.ofString "children") 202, val := Value.none }, { hash := PyData.keyHash P (Str.ofString "__init__"), key := Value.str (Str.ofString "__init__") 212, val := Value.ref 28 }, { hash := PyData.keyHash P (Str.ofString "add_child"), key := Value.str (Str.ofString "add_child") 223, val := Value.ref 35 }, { hash := PyData.keyHash P (Str.ofString "remove_child"), key := Value.str (Str.ofString "remove_child") 231, val := Value.ref 42 }, { hash := PyData.keyHash P (Str.ofString "at_depth"), key := Value.str (Str.ofString "at_depth") 241, val := Value.ref 49 }, { hash := PyData.keyHash P (Str.ofString "walk_up"), key := Value.str (Str.ofString "walk_up") 251, val := Value.ref 56 }, { hash := PyData.keyHash P (Str.ofString "__static_attributes__"), key := Value.str (Str.ofString "__static_attributes__") 253, val := Value.ref 57 }, { hash := PyData.keyHash P (Str.ofString "__dict__"), key := Value.str (Str.ofString "__dict__") 255, val := Value.ref 60 }, { hash := PyData.keyHash P (Str.ofString "__weakref__"), key := Value.str (Str.ofString "__weakref__") 257, val := Value.ref 61 }, { hash := PyData.keyHash P (Str.ofString "__doc__"), key := Value.str (Str.ofString "__doc__") 258, val := Value.none }] 4 }),
    (59, { cls := Value.type "type", data := Data.cls { name := Str.ofString "PolicyTreeRoot", bases := [Value.type "object"], mro := [Value.ref 59, Value.type "object"], ns := 58, qualname := Str.ofString "PolicyTreeRoot", subclasses := [Value.ref 80] }, slots := #[none, none, some (Value.str (Str.ofString "PolicyTreeRoot") 189), some (Value.str (Str.ofString "PolicyTreeRoot") 197), some (Value.builtin "object.__new__"), some (Value.bool true)] }),
    (60, { cls := Value.type "getset_descriptor", data := Data.fields #[Value.str (Str.ofString "__dict__") 254, Value.ref 59, Value.builtin "function.__dict__", Value.builtin "function.__dict__#set"] }),
    (61, { cls := Value.type "getset_descriptor", data := Data.fields #[Value.str (Str.ofString "__weakref__") 256, Value.ref 59, Value.builtin "ExceptionGroup.__weakref__", Value.none] }),
    (64, { cls := Value.type "tuple", data := Data.seq #[Value.ref 59] }),
    (71, { cls := Value.type "tuple", data := Data.seq #[] }),
    (73, { cls := Value.type "tuple", data := Data.seq #[Value.str (Str.ofString "self") 279, Value.str (Str.ofString "valid_policy") 280, Value.str (Str.ofString "qualifier_set") 281, Value.str (Str.ofString "expected_policy_set") 282] }),
    (74, { cls := Value.type "tuple", data := Data.seq #[] }),
    (76, { cls := Value.type "code", data := Data.fields #[Value.str (Str.ofString "__init__") 276, Value.str (Str.ofString "PolicyTreeNode.__init__") 277, Value.str (Str.ofString "/claim/cut.py") 278, Value.int 37 0, Value.int 4 0, Value.int 0 0, Value.int 0 0, Value.int 3 0, Value.ref 71, Value.bool true, Value.int 181 0, Value.ref 72, Value.none, Value.ref 73, Value.ref 74, Value.ref 75, Value.int 283 0, Value.int 37 0, Value.str (Str.ofString "/claim/cut.py") 284] }),
    (77, { cls := Value.type "function", data := Data.func { name := Str.ofString "__init__", qualname := Str.ofString "PolicyTreeNode.__init__", params := p77, body := FuncBody.stmts b77, scope := s77, globals := 3, closure := [], defaults := Value.none, kwdefaults := Value.none, pyModule := Value.str (Str.ofString "certvalidator.validate") 187, code := Value.ref 76 } }),
    (78, { cls := Value.type "tuple", data := Data.seq #[Value.str (Str.ofString "children") 286, Value.str (Str.ofString "expected_policy_set") 287, Value.str (Str.ofString "qualifier_set") 288, Value.str (Str.ofString "valid_policy") 289] }),
    (79, { cls := Value.type "dict", data := Data.dict #[{ hash := PyData.keyHash P (Str.ofString "__module__"), key := Value.str (Str.ofString "__module__") 268, val := Value.str (Str.ofString "certvalidator.validate") 187 }, { hash := PyData.keyHash P (Str.ofString "__firstlineno__"), key := Value.str (Str.ofString "__firstlineno__") 272, val := Value.int 32 271 }, { hash := PyData.keyHash P (Str.ofString "valid_policy"), key := Value.str (Str.ofString "valid_policy") 273, val := Value.none }, { hash := PyData.keyHash P (Str.ofString "qualifier_set"), key := Value.str (Str.ofString "qualifier_set") 274, val := Value.none }, { hash := PyData.keyHash P (Str.ofString "expected_policy_set"), key := Value.str (Str.ofString "expected_policy_set") 275, val := Value.none }, { hash := PyData.keyHash P (Str.ofString "__init__"), key := Value.str (Str.ofString "__init__") 285, val := Value.ref 77 }, { hash := PyData.keyHash P (Str.ofString "__static_attributes__"), key := Value.str (Str.ofString "__static_attributes__") 290, val := Value.ref 78 }, { hash := PyData.keyHash P (Str.ofString "__doc__"), key := Value.str (Str.ofString "__doc__") 291, val := Value.none }] 2 }),
    (80, { cls := Value.type "type", data := Data.cls { name := Str.ofString "PolicyTreeNode", bases := [Value.ref 59], mro := [Value.ref 80, Value.ref 59, Value.type "object"], ns := 79, qualname := Str.ofString "PolicyTreeNode" }, slots := #[some (Value.ref 64), none, some (Value.str (Str.ofString "PolicyTreeNode") 261), some (Value.str (Str.ofString "PolicyTreeNode") 269), some (Value.builtin "object.__new__"), some (Value.bool true)] }),
    (83, { cls := Value.type "tuple", data := Data.seq #[] }),
    (86, { cls := Value.type "code", data := Data.fields #[Value.str (Str.ofString "_law_start") 296, Value.str (Str.ofString "_law_start") 297, Value.str (Str.ofString "/claim/cut.py") 298, Value.int 43 0, Value.int 1 0, Value.int 0 0, Value.int 0 0, Value.int 3 0, Value.ref 83, Value.bool true, Value.int 181 0, Value.ref 84, Value.none, Value.none, Value.none, Value.ref 85, Value.int 299 0, Value.int 43 0, Value.str (Str.ofString "/claim/cut.py") 300] }),
    (87, { cls := Value.type "function", data := Data.func { name := Str.ofString "_law_start", qualname := Str.ofString "_law_start", params := p87, body := FuncBody.stmts b87, scope := s87, globals := 3, closure := [], defaults := Value.none, kwdefaults := Value.none, pyModule := Value.str (Str.ofString "law_jr0001_01") 294, code := Value.ref 86 } }),
    (88, { cls := Value.type "tuple", data := Data.seq #[] }),
    (90, { cls := Value.type "tuple", data := Data.seq #[Value.str (Str.ofString "state") 305, Value.str (Str.ofString "many") 306, Value.str (Str.ofString "found") 307] }),
    (91, { cls := Value.type "tuple", data := Data.seq #[] }),
    (93, { cls := Value.type "code", data := Data.fields #[Value.str (Str.ofString "_law_take") 302, Value.str (Str.ofString "_law_take") 303, Value.str (Str.ofString "/claim/cut.py") 304, Value.int 45 0, Value.int 2 0, Value.int 0 0, Value.int 0 0, Value.int 3 0, Value.ref 88, Value.bool true, Value.int 181 0, Value.ref 89, Value.none, Value.ref 90, Value.ref 91, Value.ref 92, Value.int 308 0, Value.int 45 0, Value.str (Str.ofString "/claim/cut.py") 309] }),
    (94, { cls := Value.type "function", data := Data.func { name := Str.ofString "_law_take", qualname := Str.ofString "_law_take", params := p94, body := FuncBody.stmts b94, scope := s94, globals := 3, closure := [], defaults := Value.none, kwdefaults := Value.none, pyModule := Value.str (Str.ofString "law_jr0001_01") 294, code := Value.ref 93 } }),
    (95, { cls := Value.type "tuple", data := Data.seq #[] }),
    (97, { cls := Value.type "tuple", data := Data.seq #[Value.str (Str.ofString "node") 314, Value.str (Str.ofString "depth") 315, Value.str (Str.ofString "found") 316, Value.str (Str.ofString "child") 317] }),
    (98, { cls := Value.type "tuple", data := Data.seq #[] }),
    (100, { cls := Value.type "code", data := Data.fields #[Value.str (Str.ofString "_law_rows") 311, Value.str (Str.ofString "_law_rows") 312, Value.str (Str.ofString "/claim/cut.py") 313, Value.int 55 0, Value.int 3 0, Value.int 0 0, Value.int 0 0, Value.int 3 0, Value.ref 95, Value.bool true, Value.int 181 0, Value.ref 96, Value.none, Value.ref 97, Value.ref 98, Value.ref 99, Value.int 318 0, Value.int 55 0, Value.str (Str.ofString "/claim/cut.py") 319] }),
    (101, { cls := Value.type "function", data := Data.func { name := Str.ofString "_law_rows", qualname := Str.ofString "_law_rows", params := p101, body := FuncBody.stmts b101, scope := s101, globals := 3, closure := [], defaults := Value.none, kwdefaults := Value.none, pyModule := Value.str (Str.ofString "law_jr0001_01") 294, code := Value.ref 100 } }),
    (102, { cls := Value.type "tuple", data := Data.seq #[] }),
    (105, { cls := Value.type "code", data := Data.fields #[Value.str (Str.ofString "_law_level") 321, Value.str (Str.ofString "_law_level") 322, Value.str (Str.ofString "/claim/cut.py") 323, Value.int 59 0, Value.int 2 0, Value.int 0 0, Value.int 0 0, Value.int 3 0, Value.ref 102, Value.bool true, Value.int 181 0, Value.ref 103, Value.none, Value.none, Value.none, Value.ref 104, Value.int 324 0, Value.int 59 0, Value.str (Str.ofString "/claim/cut.py") 325] }),
    (106, { cls := Value.type "function", data := Data.func { name := Str.ofString "_law_level", qualname := Str.ofString "_law_level", params := p106, body := FuncBody.stmts b106, scope := s106, globals := 3, closure := [], defaults := Value.none, kwdefaults := Value.none, pyModule := Value.str (Str.ofString "law_jr0001_01") 294, code := Value.ref 105 } }),
    (107, { cls := Value.type "tuple", data := Data.seq #[] }),
    (109, { cls := Value.type "tuple", data := Data.seq #[Value.str (Str.ofString "node") 330] }),
    (110, { cls := Value.type "tuple", data := Data.seq #[] }),
    (112, { cls := Value.type "code", data := Data.fields #[Value.str (Str.ofString "_law_bare") 327, Value.str (Str.ofString "_law_bare") 328, Value.str (Str.ofString "/claim/cut.py") 329, Value.int 63 0, Value.int 1 0, Value.int 0 0, Value.int 0 0, Value.int 3 0, Value.ref 107, Value.bool true, Value.int 181 0, Value.ref 108, Value.none, Value.ref 109, Value.ref 110, Value.ref 111, Value.int 331 0, Value.int 63 0, Value.str (Str.ofString "/claim/cut.py") 332] }),
    (113, { cls := Value.type "function", data := Data.func { name := Str.ofString "_law_bare", qualname := Str.ofString "_law_bare", params := p113, body := FuncBody.stmts b113, scope := s113, globals := 3, closure := [], defaults := Value.none, kwdefaults := Value.none, pyModule := Value.str (Str.ofString "law_jr0001_01") 294, code := Value.ref 112 } }),
    (114, { cls := Value.type "tuple", data := Data.seq #[] }),
    (117, { cls := Value.type "code", data := Data.fields #[Value.str (Str.ofString "_law_pairs") 334, Value.str (Str.ofString "_law_pairs") 335, Value.str (Str.ofString "/claim/cut.py") 336, Value.int 65 0, Value.int 2 0, Value.int 0 0, Value.int 0 0, Value.int 3 0, Value.ref 114, Value.bool true, Value.int 181 0, Value.ref 115, Value.none, Value.none, Value.none, Value.ref 116, Value.int 337 0, Value.int 65 0, Value.str (Str.ofString "/claim/cut.py") 338] }),
    (118, { cls := Value.type "function", data := Data.func { name := Str.ofString "_law_pairs", qualname := Str.ofString "_law_pairs", params := p118, body := FuncBody.stmts b118, scope := s118, globals := 3, closure := [], defaults := Value.none, kwdefaults := Value.none, pyModule := Value.str (Str.ofString "law_jr0001_01") 294, code := Value.ref 117 } }),
    (119, { cls := Value.type "tuple", data := Data.seq #[] }),
    (121, { cls := Value.type "tuple", data := Data.seq #[Value.str (Str.ofString "tree") 343, Value.str (Str.ofString "found") 344] }),
    (122, { cls := Value.type "tuple", data := Data.seq #[] }),
    (124, { cls := Value.type "code", data := Data.fields #[Value.str (Str.ofString "_law_flat") 340, Value.str (Str.ofString "_law_flat") 341, Value.str (Str.ofString "/claim/cut.py") 342, Value.int 73 0, Value.int 1 0, Value.int 0 0, Value.int 0 0, Value.int 3 0, Value.ref 119, Value.bool true, Value.int 181 0, Value.ref 120, Value.none, Value.ref 121, Value.ref 122, Value.ref 123, Value.int 345 0, Value.int 73 0, Value.str (Str.ofString "/claim/cut.py") 346] }),
    (125, { cls := Value.type "function", data := Data.func { name := Str.ofString "_law_flat", qualname := Str.ofString "_law_flat", params := p125, body := FuncBody.stmts b125, scope := s125, globals := 3, closure := [], defaults := Value.none, kwdefaults := Value.none, pyModule := Value.str (Str.ofString "law_jr0001_01") 294, code := Value.ref 124 } }),
    (126, { cls := Value.type "tuple", data := Data.seq #[] }),
    (129, { cls := Value.type "code", data := Data.fields #[Value.str (Str.ofString "_law_right") 348, Value.str (Str.ofString "_law_right") 349, Value.str (Str.ofString "/claim/cut.py") 350, Value.int 77 0, Value.int 2 0, Value.int 0 0, Value.int 0 0, Value.int 3 0, Value.ref 126, Value.bool true, Value.int 181 0, Value.ref 127, Value.none, Value.none, Value.none, Value.ref 128, Value.int 351 0, Value.int 77 0, Value.str (Str.ofString "/claim/cut.py") 352] }),
    (130, { cls := Value.type "function", data := Data.func { name := Str.ofString "_law_right", qualname := Str.ofString "_law_right", params := p130, body := FuncBody.stmts b130, scope := s130, globals := 3, closure := [], defaults := Value.none, kwdefaults := Value.none, pyModule := Value.str (Str.ofString "law_jr0001_01") 294, code := Value.ref 129 } }),
    (131, { cls := Value.type "tuple", data := Data.seq #[] }),
    (133, { cls := Value.type "tuple", data := Data.seq #[Value.str (Str.ofString "root") 357, Value.str (Str.ofString "tree") 358, Value.str (Str.ofString "depth") 359, Value.str (Str.ofString "k") 360, Value.str (Str.ofString "rows") 361] }),
    (134, { cls := Value.type "tuple", data := Data.seq #[] }),
    (136, { cls := Value.type "code", data := Data.fields #[Value.str (Str.ofString "_law_node") 354, Value.str (Str.ofString "_law_node") 355, Value.str (Str.ofString "/claim/cut.py") 356, Value.int 88 0, Value.int 4 0, Value.int 0 0, Value.int 0 0, Value.int 3 0, Value.ref 131, Value.bool true, Value.int 181 0, Value.ref 132, Value.none, Value.ref 133, Value.ref 134, Value.ref 135, Value.int 362 0, Value.int 88 0, Value.str (Str.ofString "/claim/cut.py") 363] }),
    (137, { cls := Value.type "function", data := Data.func { name := Str.ofString "_law_node", qualname := Str.ofString "_law_node", params := p137, body := FuncBody.stmts b137, scope := s137, globals := 3, closure := [], defaults := Value.none, kwdefaults := Value.none, pyModule := Value.str (Str.ofString "law_jr0001_01") 294, code := Value.ref 136 } }),
    (138, { cls := Value.type "tuple", data := Data.seq #[] }),
    (141, { cls := Value.type "code", data := Data.fields #[Value.str (Str.ofString "_law_swept") 365, Value.str (Str.ofString "_law_swept") 366, Value.str (Str.ofString "/claim/cut.py") 367, Value.int 93 0, Value.int 4 0, Value.int 0 0, Value.int 0 0, Value.int 3 0, Value.ref 138, Value.bool true, Value.int 181 0, Value.ref 139, Value.none, Value.none, Value.none, Value.ref 140, Value.int 368 0, Value.int 93 0, Value.str (Str.ofString "/claim/cut.py") 369] }),
    (142, { cls := Value.type "function", data := Data.func { name := Str.ofString "_law_swept", qualname := Str.ofString "_law_swept", params := p142, body := FuncBody.stmts b142, scope := s142, globals := 3, closure := [], defaults := Value.none, kwdefaults := Value.none, pyModule := Value.str (Str.ofString "law_jr0001_01") 294, code := Value.ref 141 } }),
    (143, { cls := Value.type "tuple", data := Data.seq #[] }),
    (146, { cls := Value.type "code", data := Data.fields #[Value.str (Str.ofString "law") 371, Value.str (Str.ofString "law") 372, Value.str (Str.ofString "/claim/cut.py") 373, Value.int 106 0, Value.int 1 0, Value.int 0 0, Value.int 0 0, Value.int 3 0, Value.ref 143, Value.bool true, Value.int 181 0, Value.ref 144, Value.none, Value.none, Value.none, Value.ref 145, Value.int 374 0, Value.int 106 0, Value.str (Str.ofString "/claim/cut.py") 375] }),
    (147, { cls := Value.type "function", data := Data.func { name := Str.ofString "law", qualname := Str.ofString "law", params := p147, body := FuncBody.stmts b147, scope := s147, globals := 3, closure := [], defaults := Value.none, kwdefaults := Value.none, pyModule := Value.str (Str.ofString "law_jr0001_01") 294, code := Value.ref 146 } })]
noncomputable abbrev pick {x0 : Stmt} {x1 : Stmt} {x2 : Stmt} {n28 : Str} {p28 : Arguments} {b28 : List Stmt} {d28 : List Expr} {r28 : Option Expr} {t28 : List TypeParam} {s28 : Scope} {u28 : Option Scope} {i28 : Str} {q28 : Pos} {n35 : Str} {p35 : Arguments} {b35 : List Stmt} {d35 : List Expr} {r35 : Option Expr} {t35 : List TypeParam} {s35 : Scope} {u35 : Option Scope} {i35 : Str} {q35 : Pos} {n42 : Str} {p42 : Arguments} {b42 : List Stmt} {d42 : List Expr} {r42 : Option Expr} {t42 : List TypeParam} {s42 : Scope} {u42 : Option Scope} {i42 : Str} {q42 : Pos} {n49 : Str} {p49 : Arguments} {b49 : List Stmt} {d49 : List Expr} {r49 : Option Expr} {t49 : List TypeParam} {s49 : Scope} {u49 : Option Scope} {i49 : Str} {q49 : Pos} {n56 : Str} {p56 : Arguments} {b56 : List Stmt} {d56 : List Expr} {r56 : Option Expr} {t56 : List TypeParam} {s56 : Scope} {u56 : Option Scope} {i56 : Str} {q56 : Pos} {cnA : Str} {cbA : List Expr} {ckA : List Keyword} {cdA : List Expr} {ctA : List TypeParam} {csA : Scope} {cuA : Option Scope} {ciA : Str} {caA : List Str} {cqA : Pos} {x3 : Stmt} {x4 : Stmt} {x5 : Stmt} {n77 : Str} {p77 : Arguments} {b77 : List Stmt} {d77 : List Expr} {r77 : Option Expr} {t77 : List TypeParam} {s77 : Scope} {u77 : Option Scope} {i77 : Str} {q77 : Pos} {cnB : Str} {cbB : List Expr} {ckB : List Keyword} {cdB : List Expr} {ctB : List TypeParam} {csB : Scope} {cuB : Option Scope} {ciB : Str} {caB : List Str} {cqB : Pos} {x6 : Stmt} {n87 : Str} {p87 : Arguments} {b87 : List Stmt} {d87 : List Expr} {r87 : Option Expr} {t87 : List TypeParam} {s87 : Scope} {u87 : Option Scope} {i87 : Str} {q87 : Pos} {n94 : Str} {p94 : Arguments} {b94 : List Stmt} {d94 : List Expr} {r94 : Option Expr} {t94 : List TypeParam} {s94 : Scope} {u94 : Option Scope} {i94 : Str} {q94 : Pos} {n101 : Str} {p101 : Arguments} {b101 : List Stmt} {d101 : List Expr} {r101 : Option Expr} {t101 : List TypeParam} {s101 : Scope} {u101 : Option Scope} {i101 : Str} {q101 : Pos} {n106 : Str} {p106 : Arguments} {b106 : List Stmt} {d106 : List Expr} {r106 : Option Expr} {t106 : List TypeParam} {s106 : Scope} {u106 : Option Scope} {i106 : Str} {q106 : Pos} {n113 : Str} {p113 : Arguments} {b113 : List Stmt} {d113 : List Expr} {r113 : Option Expr} {t113 : List TypeParam} {s113 : Scope} {u113 : Option Scope} {i113 : Str} {q113 : Pos} {n118 : Str} {p118 : Arguments} {b118 : List Stmt} {d118 : List Expr} {r118 : Option Expr} {t118 : List TypeParam} {s118 : Scope} {u118 : Option Scope} {i118 : Str} {q118 : Pos} {n125 : Str} {p125 : Arguments} {b125 : List Stmt} {d125 : List Expr} {r125 : Option Expr} {t125 : List TypeParam} {s125 : Scope} {u125 : Option Scope} {i125 : Str} {q125 : Pos} {n130 : Str} {p130 : Arguments} {b130 : List Stmt} {d130 : List Expr} {r130 : Option Expr} {t130 : List TypeParam} {s130 : Scope} {u130 : Option Scope} {i130 : Str} {q130 : Pos} {n137 : Str} {p137 : Arguments} {b137 : List Stmt} {d137 : List Expr} {r137 : Option Expr} {t137 : List TypeParam} {s137 : Scope} {u137 : Option Scope} {i137 : Str} {q137 : Pos} {n142 : Str} {p142 : Arguments} {b142 : List Stmt} {d142 : List Expr} {r142 : Option Expr} {t142 : List TypeParam} {s142 : Scope} {u142 : Option Scope} {i142 : Str} {q142 : Pos} {n147 : Str} {p147 : Arguments} {b147 : List Stmt} {d147 : List Expr} {r147 : Option Expr} {t147 : List TypeParam} {s147 : Scope} {u147 : Option Scope} {i147 : Str} {q147 : Pos}
    (_ : pr.main.body = [x0, .ClassDef cnA cbA ckA [x1, x2, .FunctionDef n28 p28 b28 d28 r28 t28 s28 u28 i28 q28, .FunctionDef n35 p35 b35 d35 r35 t35 s35 u35 i35 q35, .FunctionDef n42 p42 b42 d42 r42 t42 s42 u42 i42 q42, .FunctionDef n49 p49 b49 d49 r49 t49 s49 u49 i49 q49, .FunctionDef n56 p56 b56 d56 r56 t56 s56 u56 i56 q56] cdA ctA csA cuA ciA caA cqA, .ClassDef cnB cbB ckB [x3, x4, x5, .FunctionDef n77 p77 b77 d77 r77 t77 s77 u77 i77 q77] cdB ctB csB cuB ciB caB cqB, x6, .FunctionDef n87 p87 b87 d87 r87 t87 s87 u87 i87 q87, .FunctionDef n94 p94 b94 d94 r94 t94 s94 u94 i94 q94, .FunctionDef n101 p101 b101 d101 r101 t101 s101 u101 i101 q101, .FunctionDef n106 p106 b106 d106 r106 t106 s106 u106 i106 q106, .FunctionDef n113 p113 b113 d113 r113 t113 s113 u113 i113 q113, .FunctionDef n118 p118 b118 d118 r118 t118 s118 u118 i118 q118, .FunctionDef n125 p125 b125 d125 r125 t125 s125 u125 i125 q125, .FunctionDef n130 p130 b130 d130 r130 t130 s130 u130 i130 q130, .FunctionDef n137 p137 b137 d137 r137 t137 s137 u137 i137 q137, .FunctionDef n142 p142 b142 d142 r142 t142 s142 u142 i142 q142, .FunctionDef n147 p147 b147 d147 r147 t147 s147 u147 i147 q147]) : Params → Frag := KOf p28 b28 s28 p35 b35 s35 p42 b42 s42 p49 b49 s49 p56 b56 s56 p77 b77 s77 p87 b87 s87 p94 b94 s94 p101 b101 s101 p106 b106 s106 p113 b113 s113 p118 b118 s118 p125 b125 s125 p130 b130 s130 p137 b137 s137 p142 b142 s142 p147 b147 s147
noncomputable def heapK : Params → Frag := pick rfl
abbrev heapA : List Nat := [2, 3, 6, 22, 24, 25, 27, 28, 29, 31, 32, 34, 35, 36, 38, 39, 41, 42, 43, 45, 46, 48, 49, 50, 52, 53, 55, 56, 57, 58, 59, 60, 61, 64, 71, 73, 74, 76, 77, 78, 79, 80, 83, 86, 87, 88, 90, 91, 93, 94, 95, 97, 98, 100, 101, 102, 105, 106, 107, 109, 110, 112, 113, 114, 117, 118, 119, 121, 122, 124, 125, 126, 129, 130, 131, 133, 134, 136, 137, 138, 141, 142, 143, 146, 147]
noncomputable def vw : Program := view pr [1, 2, 4, 5, 6, 7, 8, 9, 10, 11, 12, 13, 14]
abbrev lo : List Str := [Str.ofString "PolicyTreeRoot", Str.ofString "PolicyTreeNode"]
noncomputable abbrev hook : Hook := kHook heapK heapA (fun _ => by kernel_rfl)
/-- where the text's own body begins -/
noncomputable def hdEnv : Env := { scope := pr.main.scope, locals := mainNs, globals := mainNs, cells := [], code := .ref 13, frame := some 14 }
noncomputable def hdTree (P : Params) : BT :=
  .node (boot_o_0 P)
    (.node (boot_o_1 P)
      (.node (boot_o_3 P) (.node (boot_o_7 P) .nil .nil) (.node { cls := .type "tuple", data := .seq #[] } .nil .nil))
      (.node (boot_o_5 P) (.node (boot_o_9 P) .nil .nil) (.node { cls := .type "code", data := .fields #[.str (Str.ofString "<module>") 182, .str (Str.ofString "<module>") 183, .str (Str.ofString "/claim/cut.py") 184, .int 1 0, .int 0 0, .int 0 0, .int 0 0, .int 0 0, .ref 11, .bool false, .int 181 0, .ref 12, .none, .none, .none, .none, .int 185 0, .int 1 0, .str (Str.ofString "/claim/cut.py") 186] } .nil .nil)))
    (.node (boot_o_2 P)
      (.node (boot_o_4 P) (.node (boot_o_8 P) .nil .nil) (.node { cls := .none, data := .fields #[] } .nil .nil))
      (.node (boot_o_6 P) (.node (boot_o_10 P) .nil .nil) (.node { cls := .type "frame", slots := #[some (.ref 13), some (.ref 3), some (.ref 3), none, some (.str (Str.ofString "__main__") 164), none, some (.ref 0)] } .nil .nil)))
abbrev hdPos : Pos := ⟨0, 0, 0, 0⟩
noncomputable abbrev hdStmts : List Stmt := behindTheImports pr
noncomputable abbrev hdCode : Code := Code.body hdStmts hdEnv
noncomputable abbrev hdSt (w : World) (os : OsState) : SharedT := ⟨hdTree w.params, 15, {}, #[], {}, 187, os⟩
noncomputable abbrev hdBoot (w : World) (os : OsState) : Shared := ⟨boot_heap w.params, #[], boot_drawn, boot_toks, os⟩
theorem hdPre (w : World) (os : OsState) : topGo treeTable pr w 11 (some (.ref 6)) 12 (hdBoot w os) (topStub pr) = some ((hdSt w os).abs, ⟨denote treeTable hdCode, hdCode, hdPos, [topFrame hdPos]⟩) := by kernel_rfl
theorem hdBlock (w : World) (os : OsState) : segRun treeTable pr w 11 (some (.ref 6)) 1 1 (hdSt w os).abs (blockOf hdStmts hdEnv hdCode hdPos [topFrame hdPos]) = some (.next, (hdSt w os).abs, hdCode, hdPos) := by kernel_rfl
theorem hdFin (w : World) (p' : Pos) (s : Shared) : topRun treeTable pr w 11 (some (.ref 6)) 2 s ⟨doneF .next, hdCode, p', [topFrame hdPos]⟩ = some s := by kernel_rfl
noncomputable abbrev hdXt (s : Shared) : Bool := xlAt vw [] s && recOk (RowW.records PySem.Challenge.rw_jr0001_01.row.toRowW) s
noncomputable def hdLooks (w : World) (s : Shared) :=
  ((staticsOk (importedModules pr.main.body) (boot_heap w.params) s.heap && namesBound pr s.heap && gensDone s && laidKept (boot_heap w.params) s.heap), openSeen vw lo (importedModules pr.main.body) hdXt true s, Hook.obs hook s)
/-- the top's run, and what is to be seen behind it -/
theorem hdBody (w : World) (os : OsState) : (PySem.W.Fast.tw10110043849684766642 PySem.W.Fast.tw14364793385576792824 pr w 11 (some (.ref 6)) 1 986 (hdSt w os) (piecesOf hdStmts hdEnv hdCode hdPos [topFrame hdPos])).map (fun r => (r.1, r.2.2.1, hdLooks w r.2.1.abs)) =
    some (.next, hdCode, true, openGood vw lo, Hook.val hook w) := by kernel_rfl
theorem hdWhole (w : World) (os : OsState) : ∃ s', topRun treeTable pr w 11 (some (.ref 6)) (12 + (1 + (986 + 2))) (hdBoot w os) (topStub pr) = some s' ∧ hdLooks w s' = (true, openGood vw lo, Hook.val hook w) := by
  have b := hdBody w os
  rw [← PySem.W.Fast.te10110043849684766642, ← PySem.W.Fast.te14364793385576792824] at b
  obtain ⟨⟨f, s, c, p'⟩, e, e'⟩ := Option.map_eq_some_iff.mp b
  have e1 : f = .next := congrArg Prod.fst e'
  have e2 : c = hdCode := congrArg (fun x => x.2.1) e'
  have e3 : hdLooks w s.abs = (true, openGood vw lo, Hook.val hook w) := congrArg (fun x => x.2.2) e'
  rw [e1, e2] at e
  have k := piece_app (rest := []) (segRun_of e) (piece_nil (hdFin w p' s.abs))
  rw [List.append_nil] at k
  exact ⟨s.abs, go_top (hdPre w os) (piece_block (hdBlock w os) k), e3⟩
theorem hdLeft {p q : Program} {loose : List Str} {Xt : Shared → Bool} {α : Type} {Yf : Shared → α} {Ya : World → α} {N : Nat} {H₀ : Params → Heap} {gs₀ : Array GenState} {d₀ : Drawn} {k₀ : Nat} {m₀ : Nat} {ann : Option Value}
    (op : ∀ w : World, (fencedOpening treeTable p w N).map (fun s => (s.heap, s.gens, s.drawn, s.toks)) = some (H₀ w.params, gs₀, d₀, k₀))
    (size : ∀ w : World, ((H₀ w.params).isNs mainGlobals && gs₀.size == 0, (H₀ w.params).objs.size, (H₀ w.params).nsMap mainGlobals "__annotations__") = (true, m₀, ann))
    (run : ∀ (w : World) (os : OsState), ∃ s', topRun treeTable p w m₀ ann N ⟨H₀ w.params, gs₀, d₀, k₀, os⟩ (topStub p) = some s' ∧
      (staticsOk (importedModules p.main.body) (H₀ w.params) s'.heap && namesBound p s'.heap && gensDone s' && laidKept (H₀ w.params) s'.heap) = true ∧ (openSeen q loose (importedModules p.main.body) Xt true s', Yf s') = (openGood q loose, Ya w)) :
    LeftO p q loose Xt Yf Ya N := fun w => by
  obtain ⟨⟨h, gs, d, k, os⟩, e, e'⟩ := Option.map_eq_some_iff.mp (op w)
  obtain ⟨rfl, rfl, rfl, rfl⟩ : h = H₀ w.params ∧ gs = gs₀ ∧ d = d₀ ∧ k = k₀ := by simpa using e'
  obtain ⟨s', r, l1, l2⟩ := run w os
  obtain ⟨z1, z2, z3⟩ : _ ∧ _ ∧ _ := by simpa only [Prod.mk.injEq] using size w
  have t : topFrom treeTable p w N ⟨H₀ w.params, gs, d, k, os⟩ = some s' := by
    unfold topFrom
    dsimp only
    rw [z1, z2, z3, r]
    show (match staticsOk (importedModules p.main.body) (H₀ w.params) s'.heap && namesBound p s'.heap && gensDone s' && laidKept (H₀ w.params) s'.heap with | true => _ | false => _) = _
    rw [l1]
  unfold openEnds
  rw [e]
  show (topFrom treeTable p w N _).map _ = _
  rw [t]
  exact congrArg some l2
theorem hdSize (w : World) : ((boot_heap w.params).isNs mainGlobals && (#[] : Array GenState).size == 0, (boot_heap w.params).objs.size, (boot_heap w.params).nsMap mainGlobals "__annotations__") = (true, 11, some (.ref 6)) := by kernel_rfl
theorem hdOpen (w : World) : (fencedOpening treeTable pr w 2092).map (fun s => (s.heap, s.gens, s.drawn, s.toks)) = some (boot_heap w.params, #[], boot_drawn, boot_toks) :=
  boot_open (p := pr) (N := 2092) (by kernel_rfl) (by kernel_rfl) (fun s => by kernel_rfl) w
theorem left : LeftO pr vw lo hdXt (Hook.obs hook) (Hook.val hook) 2092 := hdLeft hdOpen hdSize fun w os => by
  obtain ⟨s', r, l⟩ := hdWhole w os
  have r := topRun_mono 1091 _ _ _ _ r
  rw [show 12 + (1 + (986 + 2)) + 1091 = 2092 by decide] at r
  exact ⟨s', r, congrArg Prod.fst l, congrArg Prod.snd l⟩
theorem said : OpenLaw.wellSaid PySem.Challenge.rw_jr0001_01 = true := by
  rw [PySem.W.Fast.te9446332074065402090]
  kernel_rfl
end Mine
end

section
open PySem PySem.W PyProof.Rows PySem.Calls
set_option maxRecDepth 100000
namespace Mine

noncomputable abbrev KK (w : World) : Frag := heapK w.params

/-- all objects of h stand in h' -/
def Le (h h' : Heap) : Prop := ∀ b o, h.get? b = some o → h'.get? b = some o
theorem Le.refl (h : Heap) : Le h h := fun _ _ e => e
theorem Le.trans {a b c : Heap} (x : Le a b) (y : Le b c) : Le a c := fun p o e => y p o (x p o e)

/-- all but the places of W stand -/
def Kp (W : Addr → Prop) (h h' : Heap) : Prop := ∀ b o, ¬ W b → h.get? b = some o → h'.get? b = some o
/-- the ground: what the top left, all of it below z; its last object stands -/
def Grd (w : World) (z : Nat) (h : Heap) : Prop := ∃ B₀ mg mb, (KK w).In B₀ ∧ TopRead vw lo mg mb B₀ ∧ Le B₀ h ∧ B₀.objs.size = z ∧ ∃ y o, y + 1 = z ∧ B₀.get? y = some o
theorem Grd.le {w : World} {z : Nat} {h h' : Heap} (g : Grd w z h) (l : Le h h') : Grd w z h' :=
  let ⟨B, a, b, c, d, e, f⟩ := g; ⟨B, a, b, c, d, e.trans l, f⟩
theorem Grd.k {w : World} {z : Nat} {h : Heap} (g : Grd w z h) : (KK w).In h := let ⟨_, _, _, x, _, l, _⟩ := g; x.keeps l
theorem Grd.nolimit {w : World} {z : Nat} {h : Heap} (g : Grd w z h) : h.NoLimit := let ⟨_, _, _, _, t, l, _⟩ := g; t.nolimit.keeps l
theorem Grd.size {w : World} {z : Nat} {h : Heap} (g : Grd w z h) : z ≤ h.objs.size := by
  obtain ⟨B, a, b, c, d, e, f, y, o, hy, ho⟩ := g
  exact hy ▸ Nat.succ_le_of_lt (Heap.lt_size (e y o ho))
theorem Grd.kp {w : World} {z : Nat} {W : Addr → Prop} {h h' : Heap} (g : Grd w z h) (k : Kp W h h') (hz : ∀ b, W b → z ≤ b) : Grd w z h' :=
  let ⟨B, a, b, c, d, e, f⟩ := g
  ⟨B, a, b, c, d, fun p o q => k p o (fun hw => absurd (Nat.lt_of_lt_of_le (Heap.lt_size q) (Nat.le_of_eq f.1)) (Nat.not_lt.mpr (hz p hw))) (e p o q), f⟩
theorem Kp.refl (W : Addr → Prop) (h : Heap) : Kp W h h := fun _ _ _ e => e
theorem Kp.trans {W W' : Addr → Prop} {a b c : Heap} (x : Kp W a b) (y : Kp W' b c) : Kp (fun p => W p ∨ W' p) a c :=
  fun p o n e => y p o (fun q => n (.inr q)) (x p o (fun q => n (.inl q)) e)
theorem Kp.wide {W W' : Addr → Prop} {a b : Heap} (x : Kp W a b) (h : ∀ p, W p → W' p) : Kp W' a b := fun p o n e => x p o (fun q => n (h p q)) e
theorem Kp.step {W W' : Addr → Prop} {a b c : Heap} (x : Kp W a b) (y : Kp W' b c) (h : ∀ p, W' p → W p) : Kp W a c := (x.trans y).wide fun p q => q.elim id (h p)
theorem Kp.le {h h' : Heap} (k : Kp (fun _ => False) h h') : Le h h' := fun b o e => k b o id e
theorem Le.kp {h h' : Heap} (k : Le h h') (W : Addr → Prop) : Kp W h h' := fun b o _ e => k b o e
theorem Kp.of_same {h h' : Heap} {a : Addr} (s : Heap.SameBut a h h') : Kp (fun b => b = a) h h' := fun b _ n e => (s.2 b n).trans e
theorem get_new {h : Heap} : h.get? h.objs.size = none := by
  cases q : h.get? h.objs.size with
  | none => rfl
  | some o => exact absurd (Heap.lt_size q) (Nat.lt_irrefl _)

/-- a frame at L: its names m; the base B stands below -/
structure Fm (B : Heap) (L : Addr) (h : Heap) (m : Str → Option Value) : Prop where
  ns : h.Ns L m
  keep : Le B h
  off : B.get? L = none

theorem Fm.set {B h h' : Heap} {L : Addr} {m m' : Str → Option Value} (F : Fm B L h m) (hn : h'.Ns L m') (hs : Heap.SameBut L h h') : Fm B L h' m' :=
  ⟨hn, fun b o e => (hs.2 b fun q => by rw [q, F.off] at e; cases e).trans (F.keep b o e), F.off⟩

/-- a place of the base is changed: the base that has it changed -/
theorem Fm.mut {B h h' : Heap} {L a : Addr} {o o' : Obj} {m : Str → Option Value} (F : Fm B L h m) (ho : B.get? a = some o) (hs : Heap.SameBut a h h') (hn : h'.get? a = some o') :
    ∃ B', Fm B' L h' m ∧ Heap.SameBut a B B' ∧ B'.get? a = some o' := by
  have hf : o'.isFreed = false := by
    rcases Heap.get?_some_iff.mp hn with ⟨_, q⟩; exact q
  have hsb := Heap.SameBut.update B a fun _ => o'
  have hg : (B.update a fun _ => o').get? a = some o' := Heap.get?_update_self _ ho hf
  have hne : L ≠ a := fun q => by rw [← q, F.off] at ho; cases ho
  refine ⟨B.update a fun _ => o', ⟨F.ns.sameBut hs hne, fun b x e => ?_, ?_⟩, hsb, hg⟩
  · by_cases hb : b = a
    · subst hb; rw [hg] at e; cases e; exact hn
    · rw [hsb.2 b hb] at e; exact (hs.2 b hb).trans (F.keep b x e)
  · rw [hsb.2 L hne]; exact F.off
/-- behind a call: what stands now is the new base -/
theorem Fm.after {B h h' : Heap} {L : Addr} {m : Str → Option Value} {W : Addr → Prop} (F : Fm B L h m) (k : Kp W h h') (hL : ¬ W L) :
    ∃ B', Fm B' L h' m ∧ Kp W B B' ∧ ∀ b o, b ≠ L → h'.get? b = some o → B'.get? b = some o := by
  refine ⟨h'.hide L, ⟨?_, fun b o e => Heap.of_hide e, Heap.hide_self _ _⟩, fun b o n e => ?_, fun b o n e => (Heap.hide_ne _ n).trans e⟩
  · obtain ⟨o, es, ep, ho, r⟩ := F.ns
    exact ⟨o, es, ep, k L o hL ho, r⟩
  · have : b ≠ L := fun q => by rw [q, F.off] at e; cases e
    exact (Heap.hide_ne _ this).trans (k b o n (F.keep b o e))
theorem Fm.off_ne {B h : Heap} {L a : Addr} {o : Obj} {m : Str → Option Value} (F : Fm B L h m) (e : B.get? a = some o) : a ≠ L := fun q => by rw [q, F.off] at e; cases e
/-- the frame's end: what the caller keeps -/
theorem Fm.out {B h : Heap} {L : Addr} {m : Str → Option Value} (F : Fm B L h m) : Kp (fun _ => False) B h := fun b o _ e => F.keep b o e

/-- a list that stands at a -/
def ListAt (h : Heap) (a : Addr) (xs : List Value) : Prop := ∃ n, h.get? a = some { cls := .type "list", data := .seq xs.toArray n }
theorem ListAt.isList {h : Heap} {a : Addr} {xs : List Value} (l : ListAt h a xs) : h.IsList a xs.toArray := let ⟨n, e⟩ := l; ⟨_, e, rfl, n, rfl⟩
theorem ListAt.le {h h' : Heap} {a : Addr} {xs : List Value} (l : ListAt h a xs) (k : Le h h') : ListAt h' a xs := let ⟨n, e⟩ := l; ⟨n, k _ _ e⟩
theorem ListAt.kp {h h' : Heap} {a : Addr} {xs : List Value} {W : Addr → Prop} (l : ListAt h a xs) (k : Kp W h h') (hw : ¬ W a) : ListAt h' a xs := let ⟨n, e⟩ := l; ⟨n, k _ _ hw e⟩

section
variable {M : Model} {A : Around} {E : Value → Shared → Prop} {s : Shared} {env : Env} {B : Heap} {L : Addr} {m : Str → Option Value} {w : World} {z : Nat}

theorem eLocal {x : Str} {pos : Pos} {v : Value} {Q : Value → Shared → Prop} (F : Fm B L s.heap m) (hv : m x = some v) (hL : env.locals = L)
    (hk : env.scope.kind = .function) (hl : env.kindOf x = some .local) (hd : (x == ("__debug__" : Str)) = false) (h : Q v s) :
    wpAny M A (eval (.Name x pos) env) Q E s := wpAny_Name (wpAny_loadName_local hk hl (hL ▸ F.ns) hv h) hd

theorem eGlob {x : Str} {pos : Pos} {v : Value} {Q : Value → Shared → Prop} (G : Grd w z B) (F : Fm B L s.heap m) (e : nsIn (KK w) mainGlobals x = some (some v)) (hg : env.globals = mainGlobals)
    (hk : env.scope.kind = .function) (hx : env.kindOf x = some .globalImplicit) (hd : (x == ("__debug__" : Str)) = false) (h : Q v s) :
    wpAny M A (eval (.Name x pos) env) Q E s := by
  obtain ⟨B₀, mg, mb, X, T, l, _⟩ := G
  exact Calls.Name_function_global hk hx (loadGlobal_global (env := env) (by rw [hg]; exact T.g.keeps (l.trans F.keep)) (mg_of X T.g e) h) hd

theorem eBuilt {x : Str} {pos : Pos} {v : Value} {Q : Value → Shared → Prop} (G : Grd w z B) (F : Fm B L s.heap m) (e : nsIn (KK w) mainGlobals x = some none) (hv : bootBuiltins x = some v) (hn : x ≠ "__name__") (hg : env.globals = mainGlobals)
    (hb : env.builtins = builtinsNs)
    (hk : env.scope.kind = .function) (hx : env.kindOf x = some .globalImplicit) (hd : (x == ("__debug__" : Str)) = false) (h : Q v s) :
    wpAny M A (eval (.Name x pos) env) Q E s := by
  obtain ⟨B₀, mg, mb, X, T, l, _⟩ := G
  exact Calls.Name_function_global hk hx (loadGlobal_builtin (env := env) (by rw [hg]; exact T.g.keeps (l.trans F.keep)) (mg_none_of X T.g e) (by rw [hb]; exact T.b.keeps (l.trans F.keep)) ((T.builtins x hn).trans hv) h) hd

theorem eItem {prog : Program} {value slice : Expr} {a : Addr} {xs : List Value} {k : Int} {u : Tok} {v : Value} {Q : Value → Shared → Prop} (F : Fm B L s.heap m) (hl : ListAt B a xs) (h0 : 0 ≤ k) (hhi : k < 2 ^ 63)
    (hx : xs[k.toNat]? = some v) (hs : subscripted slice false (.ref a) (.int k u) = operate [.ref a, .int k u] (getItem (.ref a) (.int k u))) (h : Q v s) :
    wpAny (model prog w) A (subscriptTail value slice (.ref a) (.int k u)) Q E s :=
  have hL := (hl.le F.keep).isList
  tail_any hL.typeIs slot_list_getitem.lookup (wpAny_getItem_list hL h0 hhi (by simpa using hx) h) hs

theorem eSetItem {prog : Program} {a : Addr} {xs : List Value} {k : Int} {u : Tok} {v : Value} {Q : Unit → Shared → Prop} (F : Fm B L s.heap m) (hl : ListAt B a xs) (h0 : 0 ≤ k) (hhi : k < 2 ^ 63) (hk : k.toNat < xs.length)
    (h : ∀ h' B', Fm B' L h' m → Kp (fun b => b = a) B B' → ListAt B' a (xs.set k.toNat v) → Q () { s with heap := h' }) :
    wpAny (model prog w) A (setItem (.ref a) (.int k u) v) Q E s := by
  obtain ⟨n, e⟩ := hl
  have e' := F.keep _ _ e
  have hg : (s.heap.update a (Obj.mapSeq (·.setIfInBounds k.toNat v))).get? a = some { cls := .type "list", data := .seq (xs.set k.toNat v).toArray n } := by
    rw [Heap.get?_update_self (Obj.mapSeq (·.setIfInBounds k.toNat v)) e' (by simp only [Obj.mapSeq]; rfl)]
    simp [Obj.mapSeq]
  obtain ⟨B', F', hs', hg'⟩ := F.mut e (Heap.SameBut.update ..) hg
  exact ki_setAt e' h0 hhi (by simp; omega) (h _ B' F' (.of_same hs') ⟨n, hg'⟩)

theorem eTruthyL {prog : Program} {a : Addr} {xs : List Value} {Q : Bool → Shared → Prop} (F : Fm B L s.heap m) (hl : ListAt B a xs) (hn : xs.length < 2 ^ 62) (h : Q (!xs.isEmpty) { s with toks := s.toks + 1 + 1 }) :
    wpAny (model prog w) A (truthy (.ref a)) Q E s :=
  wpAny_truthy_list (hl.le F.keep).isList (by rw [List.size_toArray]; omega) (by simpa using h)

theorem eStore {x : Str} {v : Value} {Q : Unit → Shared → Prop} (F : Fm B L s.heap m) (hL : env.locals = L) (hk : env.scope.kind = .function) (hl : env.kindOf x = some .local)
    (h : ∀ h', Fm B L h' (fun y => if y = x then some v else m y) → Q () { s with heap := h', toks := s.toks + 1 }) :
    wpAny M A (storeName env x v) Q E s := by
  subst hL
  exact wpAny_storeName_local hl F.ns (fun h' hn hs => h h' (F.set hn hs)) (by rw [hk]; rfl)
end
section
variable {w : World} {z : Nat} {A : Around} {E : Value → Shared → Prop} {s : Shared}

noncomputable def flowVal : Flow → Value
  | .ret v => v
  | _ => .none

/-- the room that a call has -/
structure Rm (A : Around) (k : Nat) : Prop where
  hh : A.handled = none
  dp : A.depth + k < recursionLimit
  un : A.units + 8 * k < cLine
theorem Rm.le {A : Around} {k j : Nat} (r : Rm A k) (h : j ≤ k) : Rm A j := ⟨r.hh, by have := r.dp; omega, by have := r.un; omega⟩
theorem Rm.deeper {A : Around} {k : Nat} {env : Env} (r : Rm A (k + 1)) : Rm (A.deeper env) k := ⟨r.hh, by have := r.dp; show A.depth + 1 + k < _; omega, by have := r.un; show A.units + 3 + 8 * k < _; omega⟩
theorem Rm.in1 {A : Around} {k : Nat} (r : Rm A (k + 1)) : Rm A.in1 k := ⟨r.hh, by have := r.dp; show A.depth + k < _; omega, by have := r.un; show A.units + 1 + 8 * k < _; omega⟩

theorem codeF {f : Addr} {o : Obj} {fd : FuncData} {body : List Stmt} {pos : List Value} {binds : List (Str × Value)} {R : Result → Shared → Prop}
    (G : Grd w z s.heap) (ho : (KK w).lookup f = some o) (hd : o.data = .func fd) (hc : codeIn (KK w) fd.code fd.qualname = true) (hb : fd.body = .stmts body)
    (hroom : A.depth < recursionLimit) (bt : bindArgs fd ⟨pos, []⟩ = pure binds)
    (hcell : (fd.scope.names.all fun x => x.2 != .cell) = true) (hloc : (binds.all fun x => decide (fd.scope.names.lookup x.1 = some .local)) = true)
    (hco : fd.scope.isCoroutine = false) (hgen : fd.scope.isGenerator = false) (hk : fd.scope.kind = .function)
    (h : ∀ h₁, Fm s.heap s.heap.objs.size h₁ (fun x => binds.reverse.lookup x) →
      let env := callEnv fd s.heap.objs.size f
      let A' := A.deeper env
      wpAny (model pr w) A' (execs body env) (fun fl s' => R (.ok (.ret (flowVal fl))) s') (fun _ _ => False)
        { s with heap := h₁, toks := s.toks + binds.length }) :
    codeAny (model pr w) A (.call (.ref f) ⟨pos, []⟩) R s := by
  refine codeAny_call_def hroom (G.k _ _ ho) hd G.nolimit (codeRec_of G.k hc) hb (BindsTo.of_eq bt) (fun x hx => ?_) (locs hloc) (fun h₁ hns hk₁ => ?_) hco hgen hk
  · have := List.all_eq_true.mp hcell x hx
    simpa using this
  · refine wpAny_mono (h h₁ ⟨hns, hk₁, get_new⟩) (fun fl s' q => ?_) (fun _ _ q => q.elim)
    cases fl <;> exact q
theorem callF {f : Addr} {o : Obj} {fd : FuncData} {body : List Stmt} {pos : List Value} {binds : List (Str × Value)} {Q : Value → Shared → Prop}
    (G : Grd w z s.heap) (ho : (KK w).lookup f = some o) (hd : o.data = .func fd) (hc : codeIn (KK w) fd.code fd.qualname = true) (hb : fd.body = .stmts body)
    (hroom : A.depth < recursionLimit) (bt : bindArgs fd ⟨pos, []⟩ = pure binds)
    (hcell : (fd.scope.names.all fun x => x.2 != .cell) = true) (hloc : (binds.all fun x => decide (fd.scope.names.lookup x.1 = some .local)) = true)
    (hco : fd.scope.isCoroutine = false) (hgen : fd.scope.isGenerator = false) (hk : fd.scope.kind = .function)
    (h : ∀ h₁, Fm s.heap s.heap.objs.size h₁ (fun x => binds.reverse.lookup x) →
      let env := callEnv fd s.heap.objs.size f
      let A' := A.deeper env
      wpAny (model pr w) A' (execs body env) (fun fl s' => Q (flowVal fl) s') (fun _ _ => False)
        { s with heap := h₁, toks := s.toks + binds.length }) :
    wpAny (model pr w) A (call (.ref f) pos) Q E s := by
  refine wpAny_call (codeAny_call_def hroom (G.k _ _ ho) hd G.nolimit (codeRec_of G.k hc) hb (BindsTo.of_eq bt) (fun x hx => ?_) (locs hloc) (fun h₁ hns hk₁ => ?_) hco hgen hk)
  · have := List.all_eq_true.mp hcell x hx
    simpa using this
  · have hlt := hns.lt
    refine wpAny_mono (h h₁ ⟨hns, hk₁, get_new⟩) (fun fl s' q => ?_) (fun _ _ q => q.elim)
    cases fl <;> exact q
end
end Mine
end

section
open PySem PySem.W PyProof.Rows PySem.Calls
set_option maxRecDepth 100000
set_option maxHeartbeats 4000000
set_option linter.unusedVariables false
namespace Mine
section
variable {M : Model} {A : Around} {E : Value → Shared → Prop} {env : Env} {B : Heap} {L : Addr} {m : Str → Option Value} {w : World} {z : Nat} {prog : Program}
  {h : Heap} {g : Array GenState} {d : Drawn} {t : Nat} {o : OsState}

theorem kInt {i : Int} {k : Nat} {pos : Pos} {Q : Value → Shared → Prop} (H : ∀ tk t', Q (.int i tk) ⟨h, g, d, t', o⟩) : wpAny M A (eval (.Constant (.int i) k pos) env) Q E ⟨h, g, d, t, o⟩ :=
  wpAny_Constant_int (H _ _)
theorem kStr {x : Str} {k : Nat} {pos : Pos} {Q : Value → Shared → Prop} (H : ∀ tk t', Q (.str x tk) ⟨h, g, d, t', o⟩) : wpAny M A (eval (.Constant (.str x) k pos) env) Q E ⟨h, g, d, t, o⟩ :=
  Calls.Constant_str (H _ _)
theorem kStore {x : Str} {v : Value} {Q : Unit → Shared → Prop} (F : Fm B L h m) (hL : env.locals = L) (hk : env.scope.kind = .function) (hl : env.kindOf x = some .local)
    (H : ∀ h' t', Fm B L h' (fun y => if y = x then some v else m y) → Q () ⟨h', g, d, t', o⟩) : wpAny M A (storeName env x v) Q E ⟨h, g, d, t, o⟩ :=
  eStore F hL hk hl fun h' F' => H h' _ F'
theorem kTruthyL {a : Addr} {xs : List Value} {Q : Bool → Shared → Prop} (F : Fm B L h m) (hl : ListAt B a xs) (hn : xs.length < 2 ^ 62) (H : ∀ t', Q (!xs.isEmpty) ⟨h, g, d, t', o⟩) :
    wpAny (model prog w) A (truthy (.ref a)) Q E ⟨h, g, d, t, o⟩ := eTruthyL F hl hn (H _)
theorem kTruthyI {i : Int} {u : Tok} {Q : Bool → Shared → Prop} (H : ∀ t', Q (i != 0) ⟨h, g, d, t', o⟩) :
    wpAny (model prog w) A (truthy (.int i u)) Q E ⟨h, g, d, t, o⟩ := truthy_int (H _)
theorem kAdd {a b : Int} {u v : Tok} {Q : Value → Shared → Prop} (H : ∀ tk t', Q (.int (a + b) tk) ⟨h, g, d, t', o⟩) : wpAny (model prog w) A (binaryOp .Add (.int a u) (.int b v)) Q E ⟨h, g, d, t, o⟩ := add_int (H _ _)
theorem kSub {a b : Int} {u v : Tok} {Q : Value → Shared → Prop} (H : ∀ tk t', Q (.int (a - b) tk) ⟨h, g, d, t', o⟩) : wpAny (model prog w) A (binaryOp .Sub (.int a u) (.int b v)) Q E ⟨h, g, d, t, o⟩ := sub_int (H _ _)
theorem kMul {a b : Int} {u v : Tok} {Q : Value → Shared → Prop} (hb : IntMulOk a b) (H : ∀ tk t', Q (.int (a * b) tk) ⟨h, g, d, t', o⟩) : wpAny (model prog w) A (binaryOp .Mult (.int a u) (.int b v)) Q E ⟨h, g, d, t, o⟩ := mul_int (H _ _) hb
theorem kMod {a b : Int} {u v : Tok} {Q : Value → Shared → Prop} (ha : 0 ≤ a) (hb : 0 < b) (H : ∀ tk t', Q (.int (a % b) tk) ⟨h, g, d, t', o⟩) : wpAny (model prog w) A (binaryOp .Mod (.int a u) (.int b v)) Q E ⟨h, g, d, t, o⟩ :=
  mod_int' (by omega) (by rw [Int.fmod_eq_emod_of_nonneg _ (by omega)]; exact H _ _)
theorem kDiv {a b : Int} {u v : Tok} {Q : Value → Shared → Prop} (ha : 0 ≤ a) (hb : 0 < b) (hp : Builtin.divisionGoesByPylong a b = false) (H : ∀ tk t', Q (.int (a / b) tk) ⟨h, g, d, t', o⟩) : wpAny (model prog w) A (binaryOp .FloorDiv (.int a u) (.int b v)) Q E ⟨h, g, d, t, o⟩ :=
  floordiv_int (by omega) (by rw [Int.fdiv_eq_ediv_of_nonneg _ (by omega)]; exact H _ _) (.inl hp)
theorem kAddS {x y : Str} {u v : Tok} {Q : Value → Shared → Prop} (hz : x.length + y.length ≤ sizeLine) (H : ∀ tk t', Q (.str (x ++ y) tk) ⟨h, g, d, t', o⟩) : wpAny (model prog w) A (binaryOp .Add (.str x u) (.str y v)) Q E ⟨h, g, d, t, o⟩ :=
  add_str (fun a b => H a b) hz
theorem kSetItem {a : Addr} {xs : List Value} {k : Int} {u : Tok} {v : Value} {Q : Unit → Shared → Prop} (F : Fm B L h m) (hl : ListAt B a xs) (h0 : 0 ≤ k) (hhi : k < 2 ^ 63) (hk : k.toNat < xs.length)
    (H : ∀ h' B', Fm B' L h' m → Kp (fun b => b = a) B B' → ListAt B' a (xs.set k.toNat v) → Q () ⟨h', g, d, t, o⟩) :
    wpAny (model prog w) A (setItem (.ref a) (.int k u) v) Q E ⟨h, g, d, t, o⟩ := eSetItem F hl h0 hhi hk H

/-- a method of a list met through an expression -/
def LOn (h : Heap) (ov : Value) (K : Addr → Prop) : Prop := ∃ a xs, ov = .ref a ∧ ListAt h a xs ∧ K a
theorem lCall1 {s : Shared} {ob e : Expr} {name : Str} {apos pos : Pos} {id : String} {Q : Value → Shared → Prop}
    (hbase : attributeBase ob name env (eval ob env) = eval ob env) (hline : (apos.endLine == pos.line) = true) (htrees : backTo pos (starEach [e] env) = [(false, eval e env)])
    (sl : Slot "list" name id) (ty : typeOf (.builtin id) = pure (.type "method_descriptor"))
    (H : wpAny (model prog w) A (eval ob env) (fun ov s₁ => LOn s₁.heap ov fun a => wpAny (model prog w) A (eval e env) (fun v s₂ => wpAny (model prog w) A (call (.builtin id) [.ref a, v]) Q E s₂) E s₁) E s) :
    wpAny (model prog w) A (eval (.Call (.Attribute ob name apos) [e] [] pos) env) Q E s := by
  refine wpAny_Call_method1_late hbase hline htrees (wpAny_mono H (fun ov s₁ h₁ => ?_) fun _ _ x => x)
  obtain ⟨a, xs, rfl, ⟨n, hl⟩, h₂⟩ := h₁
  refine ⟨"list", id, PySem.F.plainAttrs_list, sl, ty, ⟨_, hl, rfl⟩, fun b e => by cases e; exact ⟨_, hl, rfl⟩, ?_⟩
  refine Calls.callWith_builtin rfl (evalArgs_plain (spliced_cons (wpAny_mono h₂ (fun v s₂ h₃ => spliced_nil ?_) fun _ _ x => x)))
  exact h₃
theorem lOn {s : Shared} {a : Addr} {xs : List Value} {K : Addr → Prop} (F : Fm B L s.heap m) (hl : ListAt B a xs) (H : K a) : LOn s.heap (.ref a) K := ⟨a, xs, rfl, hl.le F.keep, H⟩

/-- a built-in method that turns its list's items -/
theorem lMut {name : Str} {id : String} {Bt : Builtin} {a : Addr} {xs ys : List Value} {rest : List Value} {r : Value} {f : Array Value → Array Value} {Q : Value → Shared → Prop}
    (sl : Slot "list" name id) (en : entryFor table id = some Bt) (ar : argsOk id ⟨.ref a :: rest, []⟩) (F : Fm B L h m) (hl : ListAt B a xs) (hf : f xs.toArray = ys.toArray)
    (gm : ∀ n, Meets (Bt ⟨.ref a :: rest, []⟩) (fun _ R s => s.heap.get? a = some { cls := .type "list", dict := none, data := .seq xs.toArray n, slots := #[] } ∧ R (.ok (.ret r)) { s with heap := s.heap.update a (Obj.mapSeq f) }))
    (H : ∀ h' B', Fm B' L h' m → Kp (fun b => b = a) B B' → ListAt B' a ys → Q r ⟨h', g, d, t, o⟩) :
    wpAny (model prog w) A (call (.builtin id) (.ref a :: rest)) Q E ⟨h, g, d, t, o⟩ := by
  obtain ⟨n, e⟩ := hl
  have e' := F.keep _ _ e
  have hg : ∃ n', (h.update a (Obj.mapSeq f)).get? a = some { cls := .type "list", data := .seq ys.toArray n' } := by
    refine ⟨if (f xs.toArray).size == xs.toArray.size then n else n + 1, ?_⟩
    rw [Heap.get?_update_self (Obj.mapSeq f) e' (by simp only [Obj.mapSeq]; rfl)]
    simp only [Obj.mapSeq, hf]
  obtain ⟨n', hg⟩ := hg
  obtain ⟨B', F', hs', hg'⟩ := F.mut e (Heap.SameBut.update ..) hg
  exact call_meets sl ⟨_, e', rfl⟩ en ar (gm n) ⟨e', H _ B' F' (.of_same hs') ⟨n', hg'⟩⟩

theorem lAppend {a : Addr} {xs : List Value} {v : Value} {Q : Value → Shared → Prop} (F : Fm B L h m) (hl : ListAt B a xs) (hz : xs.length ≤ sizeLine)
    (H : ∀ h' B', Fm B' L h' m → Kp (fun b => b = a) B B' → ListAt B' a (xs ++ [v]) → Q .none ⟨h', g, d, t, o⟩) :
    wpAny (model prog w) A (call (.builtin "list.append") [.ref a, v]) Q E ⟨h, g, d, t, o⟩ :=
  lMut (f := fun x => x.push v) slot_list_append entry_list_append (args_list_append _ _) F hl (by simp) (fun n => list_append a xs.toArray n v (by rw [List.size_toArray]; exact hz)) H

theorem lPop {a : Addr} {xs : List Value} {k : Int} {u : Tok} {v : Value} {Q : Value → Shared → Prop} (F : Fm B L h m) (hl : ListAt B a xs) (hz : xs.length ≤ sizeLine) (h0 : 0 ≤ k) (hx : xs[k.toNat]? = some v)
    (H : ∀ h' B', Fm B' L h' m → Kp (fun b => b = a) B B' → ListAt B' a (xs.eraseIdx k.toNat) → Q v ⟨h', g, d, t, o⟩) :
    wpAny (model prog w) A (call (.builtin "list.pop") [.ref a, .int k u]) Q E ⟨h, g, d, t, o⟩ := by
  have hlt : k.toNat < xs.length := (List.getElem?_eq_some_iff.mp hx).1
  have hz' := hz
  rw [sizeLine_eq] at hz'
  refine lMut (f := fun x => x.eraseIdxIfInBounds k.toNat) (ys := xs.eraseIdx k.toNat) PySem.F.slot_list_pop PySem.F.entry_list_pop (PySem.F.args_list_pop_2 _ _) F hl ?_ (fun n => MeetsSeq.list_pop_at a xs.toArray n k u k.toNat v ?_ ?_ ?_ ?_) H
  · simp [Array.eraseIdxIfInBounds, hlt]
  · simp only [Builtin.List.listFitsIndex, Bool.and_eq_true, decide_eq_true_eq]; omega
  · rw [List.size_toArray]; unfold seqIndex?; rw [if_neg (show ¬ k < 0 by omega)]; dsimp only; rw [if_pos (by simp only [Bool.and_eq_true, decide_eq_true_eq]; omega)]
  · simpa using hx
  · rw [List.size_toArray]; exact hz
end
end Mine
end

section
open PySem PySem.W PyProof.Rows PySem.Calls
set_option maxRecDepth 100000
set_option maxHeartbeats 4000000
set_option linter.unusedVariables false
namespace Mine
/-- the generators outside GF stand; none is left with a cleanup -/
def KpG (GF : Nat → Prop) (g g' : Array GenState) : Prop := (∀ i x, ¬ GF i → g[i]? = some x → g'[i]? = some x) ∧ (AllBare g → AllBare g')
theorem KpG.refl (GF : Nat → Prop) (g : Array GenState) : KpG GF g g := ⟨fun _ _ _ e => e, id⟩
theorem KpG.trans {G G' : Nat → Prop} {a b c : Array GenState} (x : KpG G a b) (y : KpG G' b c) : KpG (fun i => G i ∨ G' i) a c :=
  ⟨fun i o n e => y.1 i o (fun q => n (.inr q)) (x.1 i o (fun q => n (.inl q)) e), fun z => y.2 (x.2 z)⟩
theorem KpG.wide {G G' : Nat → Prop} {a b : Array GenState} (x : KpG G a b) (h : ∀ i, G i → G' i) : KpG G' a b := ⟨fun i o n e => x.1 i o (fun q => n (h i q)) e, x.2⟩
abbrev none1 : Addr → Prop := fun _ => False
abbrev noneG : Nat → Prop := fun _ => False

/-- an iterator: what it gives next, what it reads (R), what is its own (W, GF) -/
structure Itr (w : World) (A : Around) (I : Value) {α : Type} (val : α → Value → (Addr → Prop) → Prop) (St : List α → (Addr → Prop) → (Addr → Prop) → (Nat → Prop) → Heap → Array GenState → Prop) : Prop where
  item : ∀ x xs R W GF h g d t o (Q : Option Value → Shared → Prop) (E : Value → Shared → Prop), St (x :: xs) R W GF h g →
    (∀ v R' W' GF' h' g' d' t', val x v R' → St xs R' W' GF' h' g' → Kp W h h' → KpG GF g g' → (∀ b, W' b → W b ∨ h.get? b = none) → (∀ b, R' b → R b ∨ W b ∨ h.get? b = none) → (∀ i, GF' i → GF i ∨ g[i]? = none) →
      Q (some v) ⟨h', g', d', t', o⟩) → wpAny (model pr w) A (pyNext I) Q E ⟨h, g, d, t, o⟩
  done : ∀ R W GF h g d t o (Q : Option Value → Shared → Prop) (E : Value → Shared → Prop), St [] R W GF h g →
    (∀ h' g' d' t', Kp W h h' → KpG GF g g' → Q none ⟨h', g', d', t', o⟩) → wpAny (model pr w) A (pyNext I) Q E ⟨h, g, d, t, o⟩
  self : ∀ xs R W GF s (Q : Value → Shared → Prop) (E : Value → Shared → Prop), St xs R W GF s.heap s.gens → Q I s → wpAny (model pr w) A (pyIter I) Q E s
  own : ∀ xs R W GF h g, St xs R W GF h g → ∀ b, W b → ∃ o, h.get? b = some o
  gown : ∀ xs R W GF h g, St xs R W GF h g → ∀ i, GF i → ∃ x, g[i]? = some x
  rd : ∀ xs R W GF h g, St xs R W GF h g → ∀ b, R b → ∃ o, h.get? b = some o
  frame : ∀ xs R W GF h h' g g', St xs R W GF h g → (∀ b o, (R b ∨ W b) → h.get? b = some o → h'.get? b = some o) → (∀ i x, GF i → g[i]? = some x → g'[i]? = some x) → St xs R W GF h' g'

section
variable {w : World} {A : Around} {E : Value → Shared → Prop}
theorem noRaise {M : Model} {α : Type} {m : Sem α} {k : Value → Sem Unit} {Q : α → Shared → Prop} {s : Shared} (h : wpAny M A m Q (fun _ _ => False) s) : wpAny M A (m.onRaise k) Q E s :=
  wpAny_onRaise (wpAny_mono h (fun _ _ x => x) fun _ _ x => x.elim)
theorem toE {M : Model} {α : Type} {m : Sem α} {Q : α → Shared → Prop} {s : Shared} (h : wpAny M A m Q (fun _ _ => False) s) : wpAny M A m Q E s := wpAny_mono h (fun _ _ x => x) fun _ _ x => x.elim

/-- a list's iterator -/
def LIt (it l : Addr) (xs : List Value) (R W : Addr → Prop) (GF : Nat → Prop) (h : Heap) (_ : Array GenState) : Prop :=
  (∀ b, R b ↔ b = l) ∧ (∀ b, W b ↔ b = it) ∧ (∀ i, ¬ GF i) ∧ ∃ i items, h.IsListIter it l i ∧ h.IsList l items ∧ items.toList.drop i = xs
theorem itr_list {it l : Addr} (hh : A.handled = none) (hne : l ≠ it) : Itr w A (.ref it) (fun x v R' => v = x ∧ ∀ b, R' b → b = l) (LIt it l) where
  item := by
    rintro x xs R W GF h g d t o Q E ⟨hR, hW, hG, i, items, hi, hl, hx⟩ H
    have e1 : items[i]? = some x := by
      have : items.toList[i]? = some x := by
        rw [← List.head?_drop, hx]; rfl
      simpa using this
    refine wpAny_pyNext_list_item hi hl e1 fun h' hi' hs => ?_
    refine H x R W GF h' g d t ⟨rfl, fun b q => (hR b).mp q⟩ ⟨hR, hW, hG, i + 1, items, hi', hl.at fun o e => (hs.2 l hne).trans e, ?_⟩ (fun b o n e => (hs.2 b fun q => n ((hW b).mpr q)).trans e) (.refl _ _) (fun b q => .inl q) (fun b q => .inl q) (fun b q => .inl q)
    rw [← List.tail_drop, hx]; rfl
  done := by
    rintro R W GF h g d t o Q E ⟨hR, hW, hG, i, items, hi, hl, hx⟩ H
    have e1 : items[i]? = none := by
      have : items.toList[i]? = none := by
        rw [← List.head?_drop, hx]; rfl
      simpa using this
    exact wpAny_pyNext_list_end hh hi hl e1 fun h' hs => H h' g d t (fun b o n e => hs b o (fun q => n ((hW b).mpr q)) e) (.refl _ _)
  self := by
    rintro xs R W GF s Q E ⟨hR, hW, hG, i, items, hi, _⟩ hQ
    exact wpAny_pyIter_listiter hi hQ
  own := by
    rintro xs R W GF h g ⟨hR, hW, hG, i, items, ⟨oi, e1, _⟩, _⟩ b hb
    exact ⟨oi, (hW b).mp hb ▸ e1⟩
  gown := fun xs R W GF h g st i q => absurd q (st.2.2.1 i)
  rd := by
    rintro xs R W GF h g ⟨hR, hW, hG, i, items, _, ⟨ol, e1, _⟩, _⟩ b hb
    exact ⟨ol, (hR b).mp hb ▸ e1⟩
  frame := by
    rintro xs R W GF h h' g g' ⟨hR, hW, hG, i, items, ⟨oi, e1, e2, e3⟩, hl, hx⟩ k _
    exact ⟨hR, hW, hG, i, items, ⟨oi, k it oi (.inr ((hW it).mpr rfl)) e1, e2, e3⟩, hl.at fun o e => k l o (.inl ((hR l).mpr rfl)) e, hx⟩

/-- an ascending range's iterator -/
def RIt (it : Addr) (xs : List Int) (R W : Addr → Prop) (GF : Nat → Prop) (h : Heap) (_ : Array GenState) : Prop :=
  (∀ b, ¬ R b) ∧ (∀ b, W b ↔ b = it) ∧ (∀ i, ¬ GF i) ∧ ∃ a n : Nat, IsRangeIter h it (a : Int) (n : Int) 1 ∧ xs = (List.range' a n).map fun k : Nat => (k : Int)
theorem itr_range {it : Addr} (hh : A.handled = none) : Itr w A (.ref it) (fun x v R' => (∃ t, v = .int x t) ∧ ∀ b, ¬ R' b) (RIt it) where
  item := by
    rintro x xs R W GF h g d t o Q E ⟨hR, hW, hG, a, n, hi, hx⟩ H
    cases n with
    | zero => cases hx
    | succ n =>
      simp only [List.range'_succ, List.map_cons, List.cons.injEq] at hx
      obtain ⟨rfl, rfl⟩ := hx
      refine wpAny_pyNext_range_item hi (by omega) fun h' hi' hs => ?_
      refine H _ R W GF h' g d _ ⟨⟨_, rfl⟩, hR⟩ ⟨hR, hW, hG, a + 1, n, ?_, rfl⟩ (fun b o n e => (hs.2 b fun q => n ((hW b).mpr q)).trans e) (.refl _ _) (fun b q => .inl q) (fun b q => .inl q) (fun b q => .inl q)
      have e1 : ((a + 1 : Nat) : Int) = (a : Int) + 1 := by omega
      have e2 : ((n + 1 : Nat) : Int) - 1 = (n : Int) := by omega
      rw [e1, ← e2]; exact hi'
  done := by
    rintro R W GF h g d t o Q E ⟨hR, hW, hG, a, n, hi, hx⟩ H
    cases n with
    | succ n => simp [List.range'_succ] at hx
    | zero => exact wpAny_pyNext_range_end hh hi (by omega) fun h' hs => H h' g d t (fun b o n e => hs b o (fun q => n ((hW b).mpr q)) e) (.refl _ _)
  self := by
    rintro xs R W GF s Q E ⟨hR, hW, hG, a, n, hi, _⟩ hQ
    exact wpAny_pyIter_rangeiter hi hQ
  own := by
    rintro xs R W GF h g ⟨hR, hW, hG, a, n, hi, _⟩ b hb
    exact ⟨_, (hW b).mp hb ▸ hi⟩
  gown := fun xs R W GF h g st i q => absurd q (st.2.2.1 i)
  rd := fun _ _ _ _ _ _ st b hb => absurd hb (st.1 b)
  frame := by
    rintro xs R W GF h h' g g' ⟨hR, hW, hG, a, n, hi, hx⟩ k _
    exact ⟨hR, hW, hG, a, n, k it _ (.inr ((hW it).mpr rfl)) hi, hx⟩
end
end Mine
end

section
open PySem PySem.W PyProof.Rows PySem.Calls
set_option maxRecDepth 100000
set_option maxHeartbeats 4000000
set_option linter.unusedVariables false
namespace Mine
theorem KpG.step {GF₀ GF : Nat → Prop} {a b c : Array GenState} (x : KpG GF₀ a b) (y : KpG GF b c) (h : ∀ i, GF i → GF₀ i ∨ a[i]? = none) : KpG GF₀ a c :=
  ⟨fun i o n e => y.1 i o (fun q => (h i q).elim n fun z => by rw [e] at z; cases z) (x.1 i o n e), fun z => y.2 (x.2 z)⟩
theorem Fm.there {B h : Heap} {L : Addr} {m : Str → Option Value} (F : Fm B L h m) : ∃ o, h.get? L = some o := let ⟨oL, _, _, hL, _⟩ := F.ns; ⟨oL, hL⟩
section
variable {w : World} {A : Around} {E : Value → Shared → Prop}

/-- what the client holds (Ft, its frame L, the generators CG) is not the iterator's own -/
inductive ApEx {α : Type} (St : List α → (Addr → Prop) → (Addr → Prop) → (Nat → Prop) → Heap → Array GenState → Prop) (Ft : Addr → Prop) (g₀ : Array GenState) (GF₀ : Nat → Prop) (Nr : Addr → Prop) (xs : List α) (h : Heap) (g : Array GenState) : Prop
  | mk (R W : Addr → Prop) (GF : Nat → Prop) (st : St xs R W GF h g) (a : ∀ b, Ft b → ¬ W b) (b : ∀ b, Nr b → ¬ W b) (c : ∀ b, Nr b → ¬ R b) (d : ∀ i, GF i → GF₀ i ∨ g₀[i]? = none) : ApEx St Ft g₀ GF₀ Nr xs h g
structure Apart {α : Type} (St : List α → (Addr → Prop) → (Addr → Prop) → (Nat → Prop) → Heap → Array GenState → Prop) (Ft : Addr → Prop) (g₀ : Array GenState) (GF₀ : Nat → Prop) (Nr : Addr → Prop) (xs : List α) (h : Heap) (g : Array GenState) : Prop where
  ex : ApEx St Ft g₀ GF₀ Nr xs h g
  nthere : ∀ b, Nr b → ∃ o, h.get? b = some o
  there : ∀ b, Ft b → ∃ o, h.get? b = some o
  gk : KpG GF₀ g₀ g

/-- the end of a turn -/
inductive TurnI (B : Heap) (L : Addr) (g : Array GenState) (o : OsState) (Mt : Addr → Prop) (Ft : Addr → Prop) (J : (Addr → Prop) → Heap → (Str → Option Value) → Prop) (K : Flow → Shared → Prop) : Flow → Shared → Prop
  | next {f : Flow} {Ft' : Addr → Prop} {B' h' : Heap} {g' : Array GenState} {d' : Drawn} {t' : Nat} {m' : Str → Option Value} (hf : f = .next ∨ f = .cont) (F : Fm B' L h' m') (k : Kp Mt B B') (kg : KpG noneG g g') (j : J Ft' B' m')
      (ft : ∀ b, Ft' b → (∃ o, B'.get? b = some o) ∧ (Ft b ∨ B.get? b = none)) : TurnI B L g o Mt Ft J K f ⟨h', g', d', t', o⟩
  | out {v : Value} {s : Shared} (k : K (.ret v) s) : TurnI B L g o Mt Ft J K (.ret v) s

theorem codeAny_forItr {α : Type} {target : Expr} {body : List Stmt} {env : Env} {I : Value} {val : α → Value → (Addr → Prop) → Prop} {St} (it : Itr w A I val St) {L : Addr} (g₀ : Array GenState) (GF₀ : Nat → Prop) (Mt : α → Addr → Prop)
    (J : List α → (Addr → Prop) → Heap → (Str → Option Value) → Prop) (hJ : ∀ xs Ft B B' m, J xs Ft B m → (∀ b o, Ft b → B.get? b = some o → B'.get? b = some o) → J xs Ft B' m)
    (hM : ∀ x xs v R' Ft B m, J (x :: xs) Ft B m → val x v R' → ∀ b, Mt x b → Ft b ∧ ¬ R' b)
    (hlet : ∀ v s (Q : Unit → Shared → Prop), Q () s → (∃ x xs R W GF, val x v R ∧ St xs R W GF s.heap s.gens) → wpAny (model pr w) A (letOwnedTupleGo target I v) Q (fun _ _ => False) s) {K : Flow → Shared → Prop} {o : OsState}
    (turn : ∀ x xs v R' Ft B h g d t m, J (x :: xs) Ft B m → Fm B L h m → val x v R' → KpG GF₀ g₀ g → (∀ b, Ft b → b ≠ L → ∃ o, B.get? b = some o) →
      wpAny (model pr w) A (assign target env v) (fun _ s₁ => wpAny (model pr w) A (execs body env) (TurnI B L g o (Mt x) Ft (J xs) K) (fun _ _ => False) s₁) (fun _ _ => False) ⟨h, g, d, t, o⟩)
    (done : ∀ Ft B h g d t m, J [] Ft B m → Fm B L h m → KpG GF₀ g₀ g → K .next ⟨h, g, d, t, o⟩) :
    ∀ (xs : List α) (Ft : Addr → Prop) (B h : Heap) (g : Array GenState) (d : Drawn) (t : Nat) (m : Str → Option Value), J xs Ft B m → Fm B L h m → Apart St Ft g₀ GF₀ (fun b => b = L) xs h g →
      codeAny (model pr w) A (.forLoop target I body [] env) (fun r s' => match r with | .ok f => K f s' | .error _ => False) ⟨h, g, d, t, o⟩ := by
  intro xs
  induction xs with
  | nil =>
    intro Ft B h g d t m j F ⟨⟨R, W, GF, st, hC, hWn, hRn, hCG⟩, nth, th, gth⟩
    have hWL := hWn L rfl
    have hRL := hRn L rfl
    refine codeAny_of_tree ?_
    rw [Around.under_of_weight (by rfl) (by rfl)]
    show wpAny _ A ((forTurn target I body [] env).onRaise _) _ _ _
    refine noRaise ?_
    unfold forTurn
    refine wpAny_bind (wpAny_standAt (wpAny_bind (noRaise (it.done R W GF h g d t o _ _ st fun h' g' d' t' k kg => ?_))))
    refine wpAny_pure ⟨rfl, codeAny_of_tree ?_⟩
    rw [Around.under_of_weight (by rfl) (by rfl)]
    show wpAny _ A (Sem.onRaise (execs [] env) _ >>= _) _ _ _
    refine wpAny_bind (noRaise (wpAny_execs_nil (wpAny_pure ?_)))
    obtain ⟨B', F', kB, up⟩ := F.after k hWL
    exact done Ft B' h' g' d' t' m (hJ _ _ _ _ _ j fun b o hb e => kB b o (hC b hb) e) F' (gth.step kg hCG)
  | cons x xs ih =>
    intro Ft B h g d t m j F ⟨⟨R, W, GF, st, hC, hWn, hRn, hCG⟩, nth, th, gth⟩
    have hWL := hWn L rfl
    have hRL := hRn L rfl
    refine codeAny_of_tree ?_
    rw [Around.under_of_weight (by rfl) (by rfl)]
    show wpAny _ A ((forTurn target I body [] env).onRaise _) _ _ _
    refine noRaise ?_
    unfold forTurn
    refine wpAny_bind (wpAny_standAt (wpAny_bind (noRaise (it.item x xs R W GF h g d t o _ _ st fun v R' W' GF' h₁ g₁ d₁ t₁ hv st₁ k kg hW hR hG => ?_))))
    obtain ⟨B₁, F₁, kB, up⟩ := F.after k hWL
    have thL : ∃ o, h.get? L = some o := F.there
    have th₁ : ∀ b, Ft b → ∃ o, h₁.get? b = some o := fun b hb => let ⟨o, e⟩ := th b hb; ⟨o, k b o (hC b hb) e⟩
    have gth₁ : KpG GF₀ g₀ g₁ := gth.step kg hCG
    have hC₁ : ∀ b, Ft b → ¬ W' b := fun b hb hw => (hW b hw).elim (hC b hb) fun q => by obtain ⟨o, e⟩ := th b hb; rw [q] at e; cases e
    have hWL₁ : ¬ W' L := fun hw => (hW L hw).elim hWL fun q => by obtain ⟨o, e⟩ := thL; rw [q] at e; cases e
    have hCG₁ : ∀ i, GF' i → GF₀ i ∨ g₀[i]? = none := fun i hw => (hG i hw).elim (hCG i) fun q => by
      by_cases hi : GF₀ i
      · exact .inl hi
      · cases e : g₀[i]? with
        | none => exact .inr rfl
        | some y => have := gth.1 i y hi e; rw [q] at this; cases this
    have hRL₁ : ¬ R' L := fun q => (hR L q).elim hRL fun e => e.elim hWL fun e => by obtain ⟨o, e'⟩ := thL; rw [e] at e'; cases e'
    have j₁ := hJ _ _ _ B₁ _ j fun b o hb e => kB b o (hC b hb) e
    refine wpAny_bind (hlet v _ _ ?_ ⟨x, xs, R', W', GF', hv, st₁⟩)
    refine wpAny_bind (wpAny_mono (turn x xs v R' Ft B₁ h₁ g₁ d₁ t₁ m j₁ F₁ hv gth₁ fun b hb hn => let ⟨o, e⟩ := th₁ b hb; ⟨o, up b o hn e⟩) (fun _ s₁ q₁ => wpAny_bind (wpAny_mono q₁ (fun f s₂ q₂ => ?_) fun _ _ x => x)) fun _ _ x => x)
    cases q₂ with
    | next hf F₂ k₂ kg₂ j₂ ft₂ =>
      rename_i Ft' B' h' g' d' t' m'
      have hW₂ : ∀ b, Ft' b → ¬ W' b := fun b hb hw => by
        rcases (ft₂ b hb).2 with q | q
        · exact hC₁ b q hw
        · obtain ⟨o₁, e₁⟩ := it.own _ _ _ _ _ _ st₁ b hw
          have hbL : b ≠ L := fun e => hWL₁ (e ▸ hw)
          rw [up b o₁ hbL e₁] at q; cases q
      have fin : wpAny (model pr w) A (again (.forLoop target I body [] env)) (fun fin s' => match fin with | .done f => K f s' | .again c' => c'.quiet = true ∧ codeAny (model pr w) A c' (fun r s' => match r with | .ok f => K f s' | .error _ => False) s') (fun _ _ => False) ⟨h', g', d', t', o⟩ := by
        refine wpAny_pure ⟨rfl, ih Ft' B' h' g' d' t' m' j₂ F₂ ⟨⟨R', W', GF', ?_, hW₂, fun b e => by rw [e]; exact hWL₁, fun b e => by rw [e]; exact hRL₁, hCG₁⟩, fun b e => by rw [e]; exact F₂.there, ?_, ?_⟩⟩
        · refine it.frame xs R' W' GF' h₁ h' g₁ g' st₁ (fun b o hb e => ?_) fun i y hi e => kg₂.1 i y id e
          have hbL : b ≠ L := fun q => hb.elim (fun r => hRL₁ (q ▸ r)) fun r => hWL₁ (q ▸ r)
          exact F₂.keep b o (k₂ b o (fun hm => by
            have z := hM x xs v R' Ft B₁ m j₁ hv b hm
            exact hb.elim z.2 (hC₁ b z.1)) (up b o hbL e))
        · exact fun b hb => let ⟨o, e⟩ := (ft₂ b hb).1; ⟨o, F₂.keep b o e⟩
        · exact (gth₁.step kg₂ fun _ q => q.elim)
      rcases hf with rfl | rfl <;> exact fin
    | out k₂ => exact wpAny_pure k₂

/-- the end of a comprehension's turn -/
inductive CEnd (B : Heap) (L : Addr) (g : Array GenState) (o : OsState) (Ft : Addr → Prop) (P : (Addr → Prop) → Heap → Prop) (s : Shared) : Prop
  | mk (Ft' : Addr → Prop) (B' h' : Heap) (g' : Array GenState) (d' : Drawn) (t' : Nat) (m' : Str → Option Value) (e : s = ⟨h', g', d', t', o⟩) (F : Fm B' L h' m') (k : Kp none1 B B') (kg : KpG noneG g g') (p : P Ft' B')
    (ft : ∀ b, Ft' b → (∃ o, B'.get? b = some o) ∧ (Ft b ∨ B.get? b = none)) : CEnd B L g o Ft P s

theorem codeAny_compItr {α : Type} {elt target iter : Expr} {ifs : List Expr} {scope : Scope} {pos : Pos} {env : Env} {I : Value} {val : α → Value → (Addr → Prop) → Prop} {St} (it : Itr w A I val St) {L D : Addr} (g₀ : Array GenState) (GF₀ : Nat → Prop)
    (J : List α → List Value → (Addr → Prop) → Heap → Prop) (hJ : ∀ xs ys Ft B B', J xs ys Ft B → (∀ b o, Ft b → B.get? b = some o → B'.get? b = some o) → J xs ys Ft B')
    (hJn : ∀ xs ys Ft B, J xs ys Ft B → ys.length ≤ sizeLine) (hDL : D ≠ L)
    (hlet : ∀ v s (Q : Unit → Shared → Prop), Q () s → (∃ x xs R W GF, val x v R ∧ St xs R W GF s.heap s.gens) → wpAny (model pr w) A (letOwnedTupleGo target I v) Q (fun _ _ => False) s) {K : Shared → Prop} {o : OsState}
    (turn : ∀ x xs ys v R' Ft B h g d t m, J (x :: xs) ys Ft B → Fm B L h m → val x v R' → KpG GF₀ g₀ g → (∀ b, Ft b → b ≠ L → ∃ o, B.get? b = some o) → (∃ o, B.get? D = some o) →
      wpAny (model pr w) A (assign target env v) (fun _ s₁ => wpAny (model pr w) A (forIn ifs true fun c r => if r = true then do let ok ← isTrue c env (eval c env); pure (ForInStep.yield ok) else pure (ForInStep.yield r))
        (fun ok s₂ => if ok = true then wpAny (model pr w) A (eval elt env) (fun y s₃ => CEnd B L g o Ft (J xs (ys ++ [y])) s₃) (fun _ _ => False) s₂ else CEnd B L g o Ft (J xs ys) s₂) (fun _ _ => False) s₁) (fun _ _ => False) ⟨h, g, d, t, o⟩)
    (done : ∀ ys Ft B h g d t m, J [] ys Ft B → Fm B L h m → ListAt B D ys → KpG GF₀ g₀ g → K ⟨h, g, d, t, o⟩) :
    ∀ (xs : List α) (ys : List Value) (Ft : Addr → Prop) (B h : Heap) (g : Array GenState) (d : Drawn) (t : Nat) (m : Str → Option Value), J xs ys Ft B → Fm B L h m → ListAt B D ys → Apart St Ft g₀ GF₀ (fun b => b = L ∨ b = D) xs h g → ¬ Ft D →
      codeAny (model pr w) A (.compLoop (.ListComp elt [⟨target, iter, ifs, 0⟩] scope pos) 0 I (.ref D) env) (fun r s' => match r with | .ok _ => K s' | .error _ => False) ⟨h, g, d, t, o⟩ := by
  intro xs
  induction xs with
  | nil =>
    intro ys Ft B h g d t m j F lD ⟨⟨R, W, GF, st, hC, hWn, hRn, hCG⟩, nth, th, gth⟩ nD
    have hWL := hWn L (.inl rfl)
    have hWD := hWn D (.inr rfl)
    refine codeAny_of_tree ?_
    rw [Around.under_of_weight (by rfl) (by rfl)]
    show wpAny _ A ((compTurn (.ListComp elt [⟨target, iter, ifs, 0⟩] scope pos) 0 I (.ref D) env).onRaise _) _ _ _
    refine noRaise ?_
    rw [compTurn_list]
    refine wpAny_bind (wpAny_standAt (wpAny_bind (it.done R W GF h g d t o _ _ st fun h' g' d' t' k kg => ?_)))
    refine wpAny_pure ?_
    obtain ⟨B', F', kB, up⟩ := F.after k hWL
    exact done ys Ft B' h' g' d' t' m (hJ _ _ _ _ _ j fun b o hb e => kB b o (hC b hb) e) F' (lD.kp kB hWD) (gth.step kg hCG)
  | cons x xs ih =>
    intro ys Ft B h g d t m j F lD ⟨⟨R, W, GF, st, hC, hWn, hRn, hCG⟩, nth, th, gth⟩ nD
    have hWL := hWn L (.inl rfl)
    have hWD := hWn D (.inr rfl)
    refine codeAny_of_tree ?_
    rw [Around.under_of_weight (by rfl) (by rfl)]
    show wpAny _ A ((compTurn (.ListComp elt [⟨target, iter, ifs, 0⟩] scope pos) 0 I (.ref D) env).onRaise _) _ _ _
    refine noRaise ?_
    rw [compTurn_list]
    refine wpAny_bind (wpAny_standAt (wpAny_bind (it.item x xs R W GF h g d t o _ _ st fun v R' W' GF' h₁ g₁ d₁ t₁ hv st₁ k kg hW hR hG => ?_)))
    obtain ⟨B₁, F₁, kB, up⟩ := F.after k hWL
    have th₁ : ∀ b, Ft b → ∃ o, h₁.get? b = some o := fun b hb => let ⟨o, e⟩ := th b hb; ⟨o, k b o (hC b hb) e⟩
    have gth₁ : KpG GF₀ g₀ g₁ := gth.step kg hCG
    have hC₁ : ∀ b, Ft b → ¬ W' b := fun b hb hw => (hW b hw).elim (hC b hb) fun q => by obtain ⟨o, e⟩ := th b hb; rw [q] at e; cases e
    have hWn₁ : ∀ b, (b = L ∨ b = D) → ¬ W' b := fun b hb hw => (hW b hw).elim (hWn b hb) fun q => by obtain ⟨o, e⟩ := nth b hb; rw [q] at e; cases e
    have hRn₁ : ∀ b, (b = L ∨ b = D) → ¬ R' b := fun b hb hw => (hR b hw).elim (hRn b hb) fun q => q.elim (hWn b hb) fun q => by obtain ⟨o, e⟩ := nth b hb; rw [q] at e; cases e
    have hCG₁ : ∀ i, GF' i → GF₀ i ∨ g₀[i]? = none := fun i hw => (hG i hw).elim (hCG i) fun q => by
      by_cases hi : GF₀ i
      · exact .inl hi
      · cases e : g₀[i]? with
        | none => exact .inr rfl
        | some y => have := gth.1 i y hi e; rw [q] at this; cases this
    have j₁ := hJ _ _ _ _ B₁ j fun b o hb e => kB b o (hC b hb) e
    have lD₁ : ListAt B₁ D ys := lD.kp kB hWD
    refine wpAny_bind (hlet v _ _ ?_ ⟨x, xs, R', W', GF', hv, st₁⟩)
    have ndd : ∀ (Ft' : Addr → Prop) (B' : Heap), (∀ b, Ft' b → (∃ o, B'.get? b = some o) ∧ (Ft b ∨ B₁.get? b = none)) → ¬ Ft' D := fun Ft' B' q h9 => (q D h9).2.elim nD fun e => by obtain ⟨n, e'⟩ := lD₁; rw [e] at e'; cases e'
    have key : ∀ ys' Ft' B' h' g' d' t' m', Fm B' L h' m' → Kp (fun b => b = D) B₁ B' → KpG noneG g₁ g' → J xs ys' Ft' B' → (∀ b, Ft' b → (∃ o, B'.get? b = some o) ∧ (Ft b ∨ B₁.get? b = none)) → ListAt B' D ys' →
        wpAny (model pr w) A (again (.compLoop (.ListComp elt [⟨target, iter, ifs, 0⟩] scope pos) 0 I (.ref D) env)) (fun fin s' => match fin with | .done f => K s' | .again c' => c'.quiet = true ∧ codeAny (model pr w) A c' (fun r s' => match r with | .ok _ => K s' | .error _ => False) s') (fun _ _ => False) ⟨h', g', d', t', o⟩ := by
      intro ys' Ft' B' h' g' d' t' m' F₂ k₂ kg₂ j₂ ft₂ lD₂
      have hW₂ : ∀ b, Ft' b → ¬ W' b := fun b hb hw => by
        rcases (ft₂ b hb).2 with q | q
        · exact hC₁ b q hw
        · obtain ⟨o₁, e₁⟩ := it.own _ _ _ _ _ _ st₁ b hw
          rw [up b o₁ (fun e => hWn₁ L (.inl rfl) (e ▸ hw)) e₁] at q; cases q
      refine wpAny_pure ⟨rfl, ih ys' Ft' B' h' g' d' t' m' j₂ F₂ lD₂ ⟨⟨R', W', GF', ?_, hW₂, hWn₁, hRn₁, hCG₁⟩, ?_, ?_, ?_⟩ (ndd _ _ ft₂)⟩
      · refine it.frame xs R' W' GF' h₁ h' g₁ g' st₁ (fun b o hb e => ?_) fun i y hi e => kg₂.1 i y id e
        have hbL : b ≠ L := fun q => hb.elim (fun r => hRn₁ L (.inl rfl) (q ▸ r)) fun r => hWn₁ L (.inl rfl) (q ▸ r)
        exact F₂.keep b o (k₂ b o (fun hm => hb.elim (fun r => hRn₁ D (.inr rfl) (hm ▸ r)) fun r => hWn₁ D (.inr rfl) (hm ▸ r)) (up b o hbL e))
      · rintro b (rfl | rfl)
        · exact F₂.there
        · exact let ⟨n, e⟩ := lD₂; ⟨_, F₂.keep _ _ e⟩
      · exact fun b hb => let ⟨o, e⟩ := (ft₂ b hb).1; ⟨o, F₂.keep b o e⟩
      · exact (gth₁.step kg₂ fun _ q => q.elim)
    refine wpAny_bind (wpAny_mono (turn x xs ys v R' Ft B₁ h₁ g₁ d₁ t₁ m j₁ F₁ hv gth₁ (fun b hb hn => let ⟨o, e⟩ := th₁ b hb; ⟨o, up b o hn e⟩) (let ⟨n, e⟩ := lD₁; ⟨_, e⟩))
      (fun _ s₁ q₁ => wpAny_bind (wpAny_mono q₁ (fun ok s₂ q₂ => ?_) fun _ _ x => x)) fun _ _ x => x)
    cases ok with
    | false =>
      obtain ⟨Ft', B', h', g', d', t', m', rfl, F₂, k₂, kg₂, j₂, ft₂⟩ := q₂
      exact key ys Ft' B' h' g' d' t' m' F₂ (k₂.wide fun p q => q.elim) kg₂ j₂ ft₂ (lD₁.kp k₂ id)
    | true =>
      refine wpAny_bind (wpAny_bind (wpAny_mono q₂ (fun y s₃ q₃ => ?_) fun _ _ x => x))
      obtain ⟨Ft', B', h', g', d', t', m', rfl, F₂, k₂, kg₂, j₂, ft₂⟩ := q₃
      refine wpAny_bind (lAppend F₂ (lD₁.kp k₂ id) (hJn _ _ _ _ j₁) fun h₄ B₄ F₄ k₄ l₄ => wpAny_pure ?_)
      refine key (ys ++ [y]) Ft' B₄ h₄ g' d' t' m' F₄ ((k₂.trans k₄).wide fun p q => q.elim False.elim id) kg₂ (hJ _ _ _ _ _ j₂ fun b o hb e => k₄ b o (fun q => ndd _ _ ft₂ (q ▸ hb)) e) (fun b hb => ⟨?_, (ft₂ b hb).2⟩) l₄
      obtain ⟨o₁, e₁⟩ := (ft₂ b hb).1
      exact ⟨o₁, k₄ b o₁ (fun q => ndd _ _ ft₂ (q ▸ hb)) e₁⟩
end
end Mine
end

section
open PySem PySem.W PyProof.Rows PySem.Calls
set_option maxRecDepth 100000
set_option maxHeartbeats 4000000
set_option linter.unusedVariables false
namespace Mine
section
variable {w : World} {A : Around} {E : Value → Shared → Prop}

theorem compStart_go {elt target iter : Expr} {ifs : List Expr} {rest : List Comprehension} {scope : Scope} {pos : Pos} {I acc : Value} {env : Env} {R : Result → Shared → Prop} {s : Shared}
    (hs : ∀ (Q : Value → Shared → Prop), Q I s → wpAny (model pr w) A (pyIter I) Q (fun _ _ => False) s)
    (h : codeAny (model pr w) A (.compLoop (.ListComp elt (⟨target, iter, ifs, 0⟩ :: rest) scope pos) 0 I acc env) R s) :
    codeAny (model pr w) A (.compStart (.ListComp elt (⟨target, iter, ifs, 0⟩ :: rest) scope pos) 0 I acc env) R s := by
  refine codeAny_of_tree ?_
  rw [Around.under_of_weight (by rfl) (by rfl)]
  show wpAny _ A ((compStart (.ListComp elt (⟨target, iter, ifs, 0⟩ :: rest) scope pos) 0 I acc env).onRaise _) _ _ _
  refine noRaise ?_
  unfold compStart
  show wpAny _ A (ask >>= _) _ _ _
  refine wpAny_bind (wpAny_askSetting ?_)
  cases hf : w.params.followText "comprehension-iter-twice" with
  | true =>
    show wpAny _ A (if w.params.followText "comprehension-iter-twice" = true then _ else _) _ _ _
    rw [hf, if_pos rfl]
    exact wpAny_bind (wpAny_pure (wpAny_pure ⟨rfl, h⟩))
  | false =>
    show wpAny _ A (if w.params.followText "comprehension-iter-twice" = true then _ else _) _ _ _
    rw [hf, if_neg Bool.false_ne_true]
    refine wpAny_bind (wpAny_rule ?_)
    refine wpAny_bind (wpAny_standAt ?_)
    exact wpAny_bind (hs _ (wpAny_pure ⟨rfl, h⟩))

/-- what a comprehension of one clause wants where its iterator has been made -/
inductive LcAtZ (w : World) (A : Around) (elt target iter : Expr) (ifs : List Expr) (cenv : Addr → Env) (L : Addr) (Q : Value → Shared → Prop) (I : Value) (s : Shared) : Prop
  | mk (α : Type) (val : α → Value → (Addr → Prop) → Prop) (St : List α → (Addr → Prop) → (Addr → Prop) → (Nat → Prop) → Heap → Array GenState → Prop) (xs : List α) (R W : Addr → Prop) (GF : Nat → Prop) (B : Heap) (m : Str → Option Value) (J : List α → List Value → (Addr → Prop) → Heap → Prop)
      (q0 : Itr w A I val St)
      (q1 : St xs R W GF s.heap s.gens)
      (q2 : Fm B L s.heap m)
      (q3 : ¬ W L)
      (q4 : (∀ v s (Q : Unit → Shared → Prop), Q () s → (∃ x xs R W GF, val x v R ∧ St xs R W GF s.heap s.gens) → wpAny (model pr w) A (letOwnedTupleGo target I v) Q (fun _ _ => False) s))
      (q5 : (∀ xs ys Ft B B', J xs ys Ft B → (∀ b o, Ft b → B.get? b = some o → B'.get? b = some o) → J xs ys Ft B'))
      (q6 : (∀ xs ys Ft B, J xs ys Ft B → ys.length ≤ sizeLine))
      (q7 : (∀ B₁, J xs [] none1 B₁))
      (q8 : (∀ C x xs ys v R' Ft B₁ h g d t m₁, J (x :: xs) ys Ft B₁ → Fm B₁ C h m₁ → Kp W B B₁ → val x v R' →
        wpAny (model pr w) A (assign target (cenv C) v) (fun _ s₁ => wpAny (model pr w) A (forIn ifs true fun c r => if r = true then do let ok ← isTrue c (cenv C) (eval c (cenv C)); pure (ForInStep.yield ok) else pure (ForInStep.yield r))
          (fun ok s₂ => if ok = true then wpAny (model pr w) A (eval elt (cenv C)) (fun y s₃ => CEnd B₁ C g s.os Ft (J xs (ys ++ [y])) s₃) (fun _ _ => False) s₂ else CEnd B₁ C g s.os Ft (J xs ys) s₂) (fun _ _ => False) s₁) (fun _ _ => False) ⟨h, g, d, t, s.os⟩))
      (q9 : (∀ ys Ft B₁ D h g d t, J [] ys Ft B₁ → Fm B₁ L h m → Kp W B B₁ → ListAt B₁ D ys → s.heap.get? D = none → s.heap.objs.size ≤ D → KpG GF s.gens g → Q (.ref D) ⟨h, g, d, t, s.os⟩)) : LcAtZ w A elt target iter ifs cenv L Q I s

theorem lcRuleZ {elt target iter : Expr} {ifs : List Expr} {scope : Scope} {pos : Pos} {env : Env} {cl : List (Str × Addr)} {L : Addr} {Q : Value → Shared → Prop} {s : Shared}
    (hclos : closureFor scope env = pure cl) (hcell : (scope.names.all fun x => x.2 != .cell) = true) (hkind : scope.kind = .function)
    (hnames : (scope.names.all fun x => x.2 != .local || scope.names.lookup x.1 == some .local) = true) (hs : ∀ x, foldedSetIterable iter env x = pure x)
    (H : wpAny (model pr w) A (eval iter env) (fun x s₁ => wpAny (model pr w) A (pyIter x) (fun I s₂ => LcAtZ w A elt target iter ifs (fun C => compEnvC scope cl C env) L Q I s₂) E s₁) E s) :
    wpAny (model pr w) A (eval (.ListComp elt [⟨target, iter, ifs, 0⟩] scope pos) env) Q E s := by
  rw [eval_ListComp]
  refine wpAny_comprehension_free (use := none) rfl hs hclos hkind (fun x hx hl => ?_) (wpAny_mono H (fun x s₁ h₁ => wpAny_mono h₁ (fun I s₂ h₂ => ?_) fun _ _ e => e) fun _ _ e => e)
  · have := List.all_eq_true.mp hnames x hx
    simpa [hl] using this
  obtain ⟨α, val, St, xs, R, W, GF, B, m, J, it, st, F, hWL, hlet, hJ, hJn, J₀, turn, done⟩ := h₂
  obtain ⟨h, g, d, t, o⟩ := s₂
  dsimp only at st F turn done
  obtain ⟨oL, esL, epL, hL, rL⟩ := id F.ns
  have hnone : h.get? h.objs.size = none := get_new
  refine wpAny_newObj_type ?_ (by size_fits)
  refine wpAny_newFunctionEnv (fun x hx => ?_) (fun _ hx => nomatch hx) (fun h₄ hn₄ hs₄ => ?_) hkind
  · have := List.all_eq_true.mp hcell x hx
    simpa using this
  dsimp only at hn₄ hs₄ ⊢
  generalize hC : (h.push { cls := .type "list", data := .seq ([] : List Value).toArray }).objs.size = C at hn₄ hs₄ ⊢
  generalize hD : h.objs.size = D at hnone ⊢
  have hCD : C = D + 1 := by rw [← hC, Heap.size_push, hD]
  have hDL : D ≠ C := by rw [hCD]; exact Nat.ne_of_lt (Nat.lt_succ_self _)
  have gD : h₄.get? D = some { cls := .type "list", data := .seq ([] : List Value).toArray } := by
    refine (hs₄.2 D hDL).trans (Heap.get?_push_of_some _ ?_)
    rw [← hD]; exact Heap.get?_push_size _ rfl
  have hh4 : ∀ b o', h.get? b = some o' → h₄.get? b = some o' := fun b o' e => by
    have hlt : b < D := hD ▸ Heap.lt_size e
    have : b ≠ C := by rw [hCD]; exact Nat.ne_of_lt (Nat.lt_succ_of_lt hlt)
    exact (hs₄.2 b this).trans (Heap.get?_push_of_some _ (Heap.get?_push_of_some _ e))
  have hCn : h.get? C = none := by
    cases q : h.get? C with
    | none => rfl
    | some o' =>
      have hlt : C < D := hD ▸ Heap.lt_size q
      exact absurd hlt (by rw [hCD]; exact Nat.not_lt.mpr (Nat.le_succ _))
  have Fc : Fm (h₄.hide C) C h₄ (fun _ => none) := ⟨hn₄, fun b o e => Heap.of_hide e, Heap.hide_self _ _⟩
  have upc : ∀ b o', h.get? b = some o' → (h₄.hide C).get? b = some o' := fun b o' e => by
    have : b ≠ C := fun q => by rw [q, hCn] at e; cases e
    exact (Heap.hide_ne _ this).trans (hh4 b o' e)
  have lD : ListAt (h₄.hide C) D [] := ⟨0, (Heap.hide_ne _ hDL).trans gD⟩
  refine compStart_go (fun Q' q => it.self xs R W GF _ _ _ (it.frame xs R W GF _ _ _ _ st (fun b o' _ e => hh4 b o' e) (fun _ _ _ e => e)) q) ?_
  have hRn : ∀ b, h.get? b = none → ¬ R b := fun b e q => by obtain ⟨o', e'⟩ := it.rd _ _ _ _ _ _ st b q; rw [e] at e'; cases e'
  have hWn : ∀ b, h.get? b = none → ¬ W b := fun b e q => by obtain ⟨o', e'⟩ := it.own _ _ _ _ _ _ st b q; rw [e] at e'; cases e'
  refine codeAny_mono (codeAny_compItr (D := D) (L := C) it g GF (fun xs ys Ft Bx => ∃ Ft₁, J xs ys Ft₁ Bx ∧ (∀ b, Ft b ↔ Ft₁ b ∨ ((∃ o', B.get? b = some o') ∧ ¬ W b) ∨ b = L) ∧ Bx.get? L = some oL ∧ ¬ Ft₁ L ∧ Kp W B Bx)
    ?hJ ?hJn hDL hlet (K := fun s' => ∃ ys Ft₁ Bx h' g' d' t' mC, s' = ⟨h', g', d', t', o⟩ ∧ J [] ys Ft₁ Bx ∧ Bx.get? L = some oL ∧ ¬ Ft₁ L ∧ Kp W B Bx ∧ Fm Bx C h' mC ∧ ListAt Bx D ys ∧ KpG GF g g') ?turn ?done
    xs [] (fun b => none1 b ∨ ((∃ o', B.get? b = some o') ∧ ¬ W b) ∨ b = L) (h₄.hide C) h₄ g d _ _ ⟨none1, J₀ _, fun b => Iff.rfl, upc L oL hL, id, fun b o' n e => upc b o' (F.keep b o' e)⟩ Fc lD ⟨⟨R, W, GF, it.frame xs R W GF _ _ _ _ st (fun b o' _ e => hh4 b o' e) (fun _ _ _ e => e), ?_, ?_, ?_, fun i q => .inl q⟩, ?_, ?_, .refl _ _⟩ ?_) ?post
  case hJ =>
    rintro xs ys Ft Bx Bx' ⟨Ft₁, j, hf, eL, nL, k⟩ kk
    exact ⟨Ft₁, hJ _ _ _ _ _ j fun b o' hb e => kk b o' ((hf b).mpr (.inl hb)) e, hf, kk L oL ((hf L).mpr (.inr (.inr rfl))) eL, nL, fun b o' n e => kk b o' ((hf b).mpr (.inr (.inl ⟨⟨o', e⟩, n⟩))) (k b o' n e)⟩
  case hJn =>
    rintro xs ys Ft Bx ⟨Ft₁, j, _⟩
    exact hJn _ _ _ _ j
  case turn =>
    rintro x xs ys v R' Ft Bx h g₁ d t m₁ ⟨Ft₁, j, hf, eL, nL, k⟩ Fx hv kg there thereD
    refine wpAny_mono (turn C x xs ys v R' Ft₁ Bx h g₁ d t m₁ j Fx k hv) (fun _ s₁ q₁ => wpAny_mono q₁ (fun ok s₂ q₂ => ?_) fun _ _ x => x) fun _ _ x => x
    have conv : ∀ ys' s, CEnd Bx C g₁ o Ft₁ (J xs ys') s → CEnd Bx C g₁ o Ft (fun Ft Bx => ∃ Ft₁, J xs ys' Ft₁ Bx ∧ (∀ b, Ft b ↔ Ft₁ b ∨ ((∃ o', B.get? b = some o') ∧ ¬ W b) ∨ b = L) ∧ Bx.get? L = some oL ∧ ¬ Ft₁ L ∧ Kp W B Bx) s := by
      rintro ys' s ⟨Ft', B', h', g', d', t', m', rfl, F', k', kg', j', ft'⟩
      refine ⟨fun b => Ft' b ∨ ((∃ o', B.get? b = some o') ∧ ¬ W b) ∨ b = L, B', h', g', d', t', m', rfl, F', k', kg', ⟨Ft', j', fun b => Iff.rfl, k' L oL id eL, fun q => (ft' L q).2.elim nL (fun z => by rw [eL] at z; cases z), fun b o' n e => k' b o' id (k b o' n e)⟩, ?_⟩
      rintro b (hb | ⟨⟨o', e⟩, n⟩ | rfl)
      · exact ⟨(ft' b hb).1, (ft' b hb).2.imp (fun q => (hf b).mpr (.inl q)) id⟩
      · exact ⟨⟨o', k' b o' id (k b o' n e)⟩, .inl ((hf b).mpr (.inr (.inl ⟨⟨o', e⟩, n⟩)))⟩
      · exact ⟨⟨oL, k' b oL id eL⟩, .inl ((hf b).mpr (.inr (.inr rfl)))⟩
    cases ok with
    | true =>
      rw [if_pos rfl] at q₂ ⊢
      exact wpAny_mono q₂ (fun y s₃ q₃ => conv _ _ q₃) fun _ _ x => x
    | false =>
      rw [if_neg Bool.false_ne_true] at q₂ ⊢
      exact conv _ _ q₂
  case done =>
    rintro ys Ft Bx h g₁ d t m₁ ⟨Ft₁, j, hf, eL, nL, k⟩ Fx lx kg
    exact ⟨ys, Ft₁, Bx, h, g₁, d, t, m₁, rfl, j, eL, nL, k, Fx, lx, kg⟩
  case post =>
    rintro r s' q
    cases r with
    | error _ => exact q.elim
    | ok f =>
      obtain ⟨ys, Ft₁, Bx, h', g', d', t', mC, rfl, j, eL, nL, k, Fx, lx, kg⟩ := q
      refine ⟨mC, Fx.ns, fun h₅ hs₅ => ?_⟩
      have hLC : L ≠ C := fun q => by rw [q, hCn] at hL; cases hL
      have gL : h₅.get? L = some oL := (hs₅.2 L hLC).trans (Fx.keep L oL eL)
      have F₅ : Fm (Bx.hide L) L h₅ m := ⟨⟨oL, esL, epL, gL, rL⟩, fun b o' e => by
        have e' := Heap.of_hide e
        have : b ≠ C := fun q => by rw [q, Fx.off] at e'; cases e'
        exact (hs₅.2 b this).trans (Fx.keep b o' e'), Heap.hide_self _ _⟩
      obtain ⟨n, e⟩ := lx
      have hDL' : D ≠ L := fun q => by rw [q] at hnone; rw [hnone] at hL; cases hL
      refine done ys Ft₁ (Bx.hide L) D h₅ g' d' t' ?_ F₅ (fun b o' n e => ?_) ⟨n, (Heap.hide_ne _ hDL').trans e⟩ hnone (Nat.le_of_eq hD) kg
      · exact hJ _ _ _ _ _ j fun b o' hb e => (Heap.hide_ne _ (fun q : b = L => nL (by rw [← q]; exact hb))).trans e
      · have : b ≠ L := fun q => by rw [q, F.off] at e; cases e
        exact (Heap.hide_ne _ this).trans (k b o' n e)
  · rintro b (hb | ⟨⟨o', e⟩, n⟩ | rfl)
    · exact hb.elim
    · exact n
    · exact hWL
  · rintro b (rfl | rfl)
    · exact hWn _ hCn
    · exact hWn _ hnone
  · rintro b (rfl | rfl)
    · exact hRn _ hCn
    · exact hRn _ hnone
  · rintro b (rfl | rfl)
    · exact Fc.there
    · exact ⟨_, gD⟩
  · rintro b (hb | ⟨⟨o', e⟩, n⟩ | rfl)
    · exact hb.elim
    · exact ⟨o', hh4 b o' (F.keep b o' e)⟩
    · exact ⟨oL, hh4 _ _ hL⟩
  · rintro (hb | ⟨⟨o', e⟩, n⟩ | rfl)
    · exact hb
    · rw [F.keep D o' e] at hnone; cases hnone
    · rw [hL] at hnone; cases hnone

/-- what a comprehension of one clause wants where its iterator has been made -/
inductive LcAt (w : World) (A : Around) (elt target iter : Expr) (ifs : List Expr) (cenv : Addr → Env) (L : Addr) (Q : Value → Shared → Prop) (I : Value) (s : Shared) : Prop
  | mk (α : Type) (val : α → Value → (Addr → Prop) → Prop) (St : List α → (Addr → Prop) → (Addr → Prop) → (Nat → Prop) → Heap → Array GenState → Prop) (xs : List α) (R W : Addr → Prop) (GF : Nat → Prop) (B : Heap) (m : Str → Option Value) (J : List α → List Value → (Addr → Prop) → Heap → Prop)
      (q0 : Itr w A I val St)
      (q1 : St xs R W GF s.heap s.gens)
      (q2 : Fm B L s.heap m)
      (q3 : ¬ W L)
      (q4 : (∀ v s (Q : Unit → Shared → Prop), Q () s → (∃ x xs R W GF, val x v R ∧ St xs R W GF s.heap s.gens) → wpAny (model pr w) A (letOwnedTupleGo target I v) Q (fun _ _ => False) s))
      (q5 : (∀ xs ys Ft B B', J xs ys Ft B → (∀ b o, Ft b → B.get? b = some o → B'.get? b = some o) → J xs ys Ft B'))
      (q6 : (∀ xs ys Ft B, J xs ys Ft B → ys.length ≤ sizeLine))
      (q7 : (∀ B₁, J xs [] none1 B₁))
      (q8 : (∀ C x xs ys v R' Ft B₁ h g d t m₁, J (x :: xs) ys Ft B₁ → Fm B₁ C h m₁ → Kp W B B₁ → val x v R' →
        wpAny (model pr w) A (assign target (cenv C) v) (fun _ s₁ => wpAny (model pr w) A (forIn ifs true fun c r => if r = true then do let ok ← isTrue c (cenv C) (eval c (cenv C)); pure (ForInStep.yield ok) else pure (ForInStep.yield r))
          (fun ok s₂ => if ok = true then wpAny (model pr w) A (eval elt (cenv C)) (fun y s₃ => CEnd B₁ C g s.os Ft (J xs (ys ++ [y])) s₃) (fun _ _ => False) s₂ else CEnd B₁ C g s.os Ft (J xs ys) s₂) (fun _ _ => False) s₁) (fun _ _ => False) ⟨h, g, d, t, s.os⟩))
      (q9 : (∀ ys Ft B₁ D h g d t, J [] ys Ft B₁ → Fm B₁ L h m → Kp W B B₁ → ListAt B₁ D ys → s.heap.get? D = none → KpG GF s.gens g → Q (.ref D) ⟨h, g, d, t, s.os⟩)) : LcAt w A elt target iter ifs cenv L Q I s

theorem lcRule {elt target iter : Expr} {ifs : List Expr} {scope : Scope} {pos : Pos} {env : Env} {cl : List (Str × Addr)} {L : Addr} {Q : Value → Shared → Prop} {s : Shared}
    (hclos : closureFor scope env = pure cl) (hcell : (scope.names.all fun x => x.2 != .cell) = true) (hkind : scope.kind = .function)
    (hnames : (scope.names.all fun x => x.2 != .local || scope.names.lookup x.1 == some .local) = true) (hs : ∀ x, foldedSetIterable iter env x = pure x)
    (H : wpAny (model pr w) A (eval iter env) (fun x s₁ => wpAny (model pr w) A (pyIter x) (fun I s₂ => LcAt w A elt target iter ifs (fun C => compEnvC scope cl C env) L Q I s₂) E s₁) E s) :
    wpAny (model pr w) A (eval (.ListComp elt [⟨target, iter, ifs, 0⟩] scope pos) env) Q E s := by
  refine lcRuleZ (L := L) hclos hcell hkind hnames hs (wpAny_mono H (fun x s₁ h₁ => wpAny_mono h₁ (fun I s₂ h₂ => ?_) fun _ _ e => e) fun _ _ e => e)
  obtain ⟨α, val, St, xs, R, W, GF, B, m, J, it, st, F, hWL, hlet, hJ, hJn, J₀, turn, done⟩ := h₂
  exact ⟨α, val, St, xs, R, W, GF, B, m, J, it, st, F, hWL, hlet, hJ, hJn, J₀, turn, fun ys Ft B₁ D h g d t j F₁ k l n _ kg => done ys Ft B₁ D h g d t j F₁ k l n kg⟩
end
end Mine
end

section
open PySem PySem.W PyProof.Rows PySem.Calls
set_option maxRecDepth 100000
set_option maxHeartbeats 4000000
set_option linter.unusedVariables false
namespace Mine
/-- an object of class C at x, its dict at d -/
structure Inst (h : Heap) (x C d : Addr) (es : List DictEntry) (n : Nat) : Prop where
  ob : h.get? x = some (instObj C d)
  dt : h.get? d = some (dictOf es n)
theorem Inst.le {h h' : Heap} {x C d : Addr} {es : List DictEntry} {n : Nat} (i : Inst h x C d es n) (l : Le h h') : Inst h' x C d es n := ⟨l _ _ i.ob, l _ _ i.dt⟩
theorem Inst.kp {h h' : Heap} {x C d : Addr} {es : List DictEntry} {n : Nat} {W : Addr → Prop} (i : Inst h x C d es n) (k : Kp W h h') (nx : ¬ W x) (nd : ¬ W d) : Inst h' x C d es n := ⟨k _ _ nx i.ob, k _ _ nd i.dt⟩
theorem Inst.at {h : Heap} {x C d : Addr} {es : List DictEntry} {n : Nat} (i : Inst h x C d es n) : PySem.W.InstAt h x (instObj C d) C (some (dictOf es n)) := ⟨i.ob, rfl, rfl, i.dt⟩

theorem isStr_ne {k : Value} {a b : Str} (h : k.isStr a = true) (hab : a ≠ b) : k.isStr b = false := by
  cases k <;> simp_all [Value.isStr]
theorem getL_putL_same (name : Str) (hs : Int) (t : Tok) (v : Value) : ∀ es : List DictEntry, getL name (putL name hs (.str name t) v es) = some (some v)
  | [] => by simp [putL, getL, Value.isStr]
  | e :: r => by
    unfold putL
    split
    · rename_i q; simp [getL, q]
    · rename_i q
      have ih := getL_putL_same name hs t v r
      unfold getL at ih ⊢
      rw [List.find?_cons, show e.key.isStr name = false by simpa using q]
      cases hf : List.find? (fun x => x.key.isStr name) (putL name hs (.str name t) v r) with
      | some e' => rw [hf] at ih; exact ih
      | none => rw [hf] at ih; dsimp only at ih; split at ih <;> simp at ih
theorem find_putL_other {name y : Str} (hy : y ≠ name) (hs : Int) (t : Tok) (v : Value) : ∀ es : List DictEntry, ((putL name hs (.str name t) v es).find? (fun x => x.key.isStr y)).map (·.val) = (es.find? (fun x => x.key.isStr y)).map (·.val)
  | [] => by simp [putL, isStr_ne (k := .str name t) (a := name) (b := y) (by simp [Value.isStr]) hy.symm]
  | e :: r => by
    unfold putL
    split
    · rename_i q
      have := isStr_ne q hy.symm
      simp [this]
    · rw [List.find?_cons, List.find?_cons]
      cases e.key.isStr y <;> first | rfl | exact find_putL_other hy hs t v r
theorem any_putL (name : Str) (hs : Int) (t : Tok) (v : Value) : ∀ es : List DictEntry, (putL name hs (.str name t) v es).any (·.refKey) = es.any (·.refKey)
  | [] => rfl
  | e :: r => by
    unfold putL
    split
    · simp [DictEntry.refKey]
    · simp only [List.any_cons]; rw [any_putL name hs t v r]
theorem getL_putL_other {name y : Str} (hy : y ≠ name) (hs : Int) (t : Tok) (v : Value) (es : List DictEntry) : getL y (putL name hs (.str name t) v es) = getL y es := by
  have e1 := find_putL_other hy hs t v es
  have e2 := any_putL name hs t v es
  unfold getL
  rw [e2]
  cases h1 : List.find? (fun x => x.key.isStr y) (putL name hs (.str name t) v es) <;> cases h2 : List.find? (fun x => x.key.isStr y) es <;> rw [h1, h2] at e1 <;> simp_all
theorem length_putL (name : Str) (hs : Int) (k v : Value) : ∀ es : List DictEntry, (putL name hs k v es).length ≤ es.length + 1
  | [] => Nat.le_refl _
  | e :: r => by
    unfold putL
    split
    · simp
    · have := length_putL name hs k v r
      simp only [List.length_cons]; omega

section
variable {w : World} {z : Nat} {A : Around} {E : Value → Shared → Prop} {B : Heap} {L : Addr} {m : Str → Option Value}
  {h : Heap} {g : Array GenState} {dr : Drawn} {t : Nat} {o : OsState}

theorem getA {x C d : Addr} {es : List DictEntry} {n : Nat} {name : Str} {expr : Bool} {attr : Option Value} {v : Value} {Q : Value → Shared → Prop} (G : Grd w z B) (F : Fm B L h m) (i : Inst B x C d es n)
    (k1 : plainGet (KK w) C name = true) (k2 : hasDictIn (KK w) C = true) (k3 : findIn (KK w) (.ref C) name = some attr) (k4 : noGet (KK w) attr = true) (hl : getL name es = some (some v)) (hv : handedIn v = true)
    (H : ∀ t', Q v ⟨h, g, dr, t', o⟩) : wpAny (model pr w) A (getAttr (.ref x) name expr) Q E ⟨h, g, dr, t, o⟩ :=
  get_value (G.le F.keep).k (i.le F.keep).at (plainGet_of k1).1 (findObj_own k2 k3 k4 (by rw [lookIn_dict]; exact hl)) hv (H _)

theorem methA {x C d f : Addr} {es : List DictEntry} {n : Nat} {name : Str} {pl : Sem Bool} {Q : Value × List Value → Shared → Prop} (G : Grd w z B) (F : Fm B L h m) (i : Inst B x C d es n)
    (k1 : plainGet (KK w) C name = true) (k2 : findIn (KK w) (.ref C) name = some (some (.ref f))) (k3 : isFn (KK w) (.ref f) = true) (hl : getL name es = some none)
    (H : Q (.ref f, [.ref x]) ⟨h, g, dr, t, o⟩) : wpAny (model pr w) A (getMethod (.ref x) name pl) Q E ⟨h, g, dr, t, o⟩ :=
  method_fn (G.le F.keep).k (i.le F.keep).at (plainGet_of k1).1 (plainGet_of k1).2 k2 (beq_iff_eq.mp k3) (by show (lookIn name (dictOf es n)).map _ = _; rw [lookIn_dict, hl]; rfl) H

/-- all of the heap, but L and what the base has, around one place -/
theorem listing {B₀ h : Heap} {L dx : Addr} {od : Obj} (e : h.get? dx = some od) (hdL : dx ≠ L) (hd0 : B₀.get? dx = none) :
    ∃ pre post : List (Addr × Obj), (∀ p ∈ pre, p.1 ≠ dx) ∧ (∀ p ∈ post, p.1 ≠ dx) ∧ News B₀ L h (pre ++ (dx, od) :: post) ∧ (∀ b o, b ≠ dx → b ≠ L → B₀.get? b = none → h.get? b = some o → (b, o) ∈ pre ++ (dx, od) :: post) := by
  let f : Addr → Option (Addr × Obj) := fun b => if b = L then none else if (B₀.get? b).isSome then none else (h.get? b).map fun o => (b, o)
  have hf : ∀ b p, f b = some p → p.1 = b ∧ h.get? p.1 = some p.2 ∧ p.1 ≠ L ∧ B₀.get? p.1 = none := by
    intro b p q
    simp only [f] at q
    split at q
    · cases q
    · split at q
      · cases q
      · rename_i h1 h2
        obtain ⟨o, e1, e2⟩ := Option.map_eq_some_iff.mp q
        subst e2
        exact ⟨rfl, e1, h1, by simpa using h2⟩
  have hf' : ∀ b o, b ≠ L → B₀.get? b = none → h.get? b = some o → f b = some (b, o) := by
    intro b o h1 h2 h3
    simp only [f, if_neg h1, h2, h3]
    rfl
  refine ⟨(List.range dx).filterMap f, (List.range' (dx + 1) (h.objs.size - dx)).filterMap f, fun p hp => ?_, fun p hp => ?_, fun p hp => ?_, fun b o h1 h2 h3 h4 => ?_⟩
  · obtain ⟨b, hb, q⟩ := List.mem_filterMap.mp hp
    rw [(hf b p q).1]; exact Nat.ne_of_lt (List.mem_range.mp hb)
  · obtain ⟨b, hb, q⟩ := List.mem_filterMap.mp hp
    rw [(hf b p q).1]; exact Nat.ne_of_gt (List.mem_range'_1.mp hb).1
  · rcases List.mem_append.mp hp with hp | hp
    · obtain ⟨b, hb, q⟩ := List.mem_filterMap.mp hp
      exact (hf b p q).2
    · rcases List.mem_cons.mp hp with rfl | hp
      · exact ⟨e, hdL, hd0⟩
      · obtain ⟨b, hb, q⟩ := List.mem_filterMap.mp hp
        exact (hf b p q).2
  · have q := hf' b o h2 h3 h4
    rcases Nat.lt_or_gt_of_ne h1 with c | c
    · exact List.mem_append_left _ (List.mem_filterMap.mpr ⟨b, List.mem_range.mpr c, q⟩)
    · refine List.mem_append_right _ (.tail _ (List.mem_filterMap.mpr ⟨b, List.mem_range'_1.mpr ⟨c, ?_⟩, q⟩))
      exact (show ∀ b d n : Nat, b < n → b < d + 1 + (n - d) from fun _ _ _ _ => by omega) _ _ _ (Heap.lt_size h4)

theorem setA {x C d : Addr} {es : List DictEntry} {n : Nat} {name : Str} {v : Value} {Q : Unit → Shared → Prop} (G : Grd w z B) (F : Fm B L h m) (hzL : z ≤ L) (i : Inst B x C d es n) (hzd : z ≤ d)
    (k1 : findIn (KK w) (.ref C) "__setattr__" = some (some (.builtin "object.__setattr__"))) (k2 : plainOver (KK w) C = true) (k3 : takerIn (KK w) C name = some none) (k4 : hasDictIn (KK w) C = true)
    (hl : (getL name es).isSome = true) (hz : es.length ≤ 900)
    (H : ∀ h' B' t' es' n', Fm B' L h' m → Kp (fun b => b = d) B B' → Inst B' x C d es' n' → getL name es' = some (some v) → (∀ y, y ≠ name → getL y es' = getL y es) → es'.length ≤ es.length + 1 → Q () ⟨h', g, dr, t', o⟩) :
    wpAny (model pr w) A (setAttr (.ref x) name v) Q E ⟨h, g, dr, t, o⟩ := by
  obtain ⟨B₀, mg, mb, X, T, l, hsz, _⟩ := G
  have none0 : ∀ b, z ≤ b → B₀.get? b = none := fun b hb => by
    cases q : B₀.get? b with
    | none => rfl
    | some o => exact absurd (Heap.lt_size q) (by rw [hsz]; exact Nat.not_lt.mpr hb)
  have Fr0 : Fr B₀ L h m := ⟨F.ns, l.trans F.keep, by rw [hsz]; exact hzL⟩
  have i' := i.le F.keep
  obtain ⟨pre, post, p1, p2, N, all⟩ := listing (B₀ := B₀) i'.dt (F.off_ne i.dt) (none0 d hzd)
  have hU : Upd d (dictOf es n) (dictOf (putL name (PyData.keyHash w.params name) (.str name (t + 1)) v es) (putN name es n)) (pre ++ (d, dictOf es n) :: post) (pre ++ (d, dictOf (putL name (PyData.keyHash w.params name) (.str name (t + 1)) v es) (putN name es n)) :: post) := by
    clear N all
    induction pre with
    | nil => exact .head p2
    | cons a r ih => exact .tail (p1 a (.head _)) (ih fun p hp => p1 p (.tail _ hp))
  refine set_dict (s := ⟨h, g, dr, t, o⟩) Fr0 X N i'.at rfl k1 k2 k3 k4 hl rfl hU (Nat.le_trans (length_putL ..) (by omega)) fun h' F' N' => ?_
  have hsb := Heap.SameBut.update B d fun _ => dictOf (putL name (PyData.keyHash w.params name) (.str name (t + 1)) v es) (putN name es n)
  have hg : (B.update d fun _ => dictOf (putL name (PyData.keyHash w.params name) (.str name (t + 1)) v es) (putN name es n)).get? d = some (dictOf (putL name (PyData.keyHash w.params name) (.str name (t + 1)) v es) (putN name es n)) := Heap.get?_update_self _ i.dt rfl
  have hxd : x ≠ d := fun q => by have := i.ob; rw [q, i.dt] at this; cases this
  refine H h' _ _ _ _ ⟨F'.ns, fun b ob e => ?_, ?_⟩ (.of_same hsb) ⟨(hsb.2 x hxd).trans i.ob, hg⟩ (getL_putL_same ..) (fun y hy => getL_putL_other hy ..) (length_putL ..)
  · by_cases hb : b = d
    · subst hb
      rw [hg] at e; cases e
      exact (N' _ (List.mem_append_right _ (.head _))).1
    · rw [hsb.2 b hb] at e
      have hbL : b ≠ L := F.off_ne e
      cases q : B₀.get? b with
      | some o' =>
        have e1 := F'.keep b o' q
        have e2 := l b o' q
        rw [e] at e2; cases e2; exact e1
      | none =>
        have mem := all b ob hb hbL q (F.keep b ob e)
        rcases List.mem_append.mp mem with mem | mem
        · exact (N' _ (List.mem_append_left _ mem)).1
        · rcases List.mem_cons.mp mem with mem | mem
          · exact absurd (congrArg Prod.fst mem) hb
          · exact (N' _ (List.mem_append_right _ (.tail _ mem))).1
  · rw [hsb.2 L (fun q => F.off_ne i.dt q.symm)]; exact F.off
end
end Mine
end

section
open PySem PySem.W PyProof.Rows PySem.Calls
set_option maxRecDepth 100000
set_option maxHeartbeats 4000000
set_option linter.unusedVariables false
namespace Mine
section
variable {w : World} {z : Nat} {A : Around} {E : Value → Shared → Prop} {B : Heap} {L : Addr} {m : Str → Option Value}
  {h : Heap} {g : Array GenState} {dr : Drawn} {t : Nat} {o : OsState}

theorem Rm.make {k : Nat} {C : Addr} {vals : List Value} (r : Rm A (k + 1)) : Rm (A.under (.builtin "type.__call__" ⟨.ref C :: vals, []⟩)) k :=
  ⟨r.hh, by rw [depth_under_make]; have := r.dp; omega, by
    have e : (A.under (.builtin "type.__call__" ⟨.ref C :: vals, []⟩)).units = A.units + 1 := rfl
    rw [e]; have := r.un; omega⟩

theorem mkA {C fI : Addr} {pos : List Value} {Q : Value → Shared → Prop} (G : Grd w z h) (k1 : makesIn (KK w) C = true) (k2 : findIn (KK w) (.ref C) "__init__" = some (some (.ref fI))) (k3 : typeIn (KK w) (.ref fI) = some (.type "function"))
    (H : ∀ x d h', Le h h' → Inst h' x C d [] 0 → h.get? x = none → h.get? d = none → z ≤ x → z ≤ d → x ≠ d →
      codeAny (model pr w) (A.under (.builtin "type.__call__" ⟨.ref C :: pos, []⟩)) (.call (.ref fI) ⟨.ref x :: pos, []⟩) (fun r s' => ∃ v, r = .ok (.ret v) ∧ v = .none ∧ Q (.ref x) s') ⟨h', g, dr, t, o⟩) :
    wpAny (model pr w) A (call (.ref C) pos) Q E ⟨h, g, dr, t, o⟩ := by
  have X := G.k
  refine wpAny_call (make_core (makes_of X k1) (looks_findIn X k2) (fun self => bind_fn X self k3) (.inl rfl) ?_)
  have e1 : ((h.push emptyDict).push (instObj C h.objs.size)).get? (h.objs.size + 1) = some (instObj C h.objs.size) := by
    have := Heap.get?_push_size (h.push emptyDict) (o := instObj C h.objs.size) rfl
    rwa [Heap.size_push] at this
  have e2 : ((h.push emptyDict).push (instObj C h.objs.size)).get? h.objs.size = some (dictOf [] 0) := Heap.get?_push_of_some _ (Heap.get?_push_size _ rfl)
  have zs := G.size
  refine codeAny_mono (H (h.objs.size + 1) h.objs.size _ (fun b ob e => Heap.get?_push_of_some _ (Heap.get?_push_of_some _ e)) ⟨e1, e2⟩ ?_ get_new (Nat.le_succ_of_le zs) zs (Nat.succ_ne_self _)) fun r s' q => ?_
  · cases q : h.get? (h.objs.size + 1) with
    | none => rfl
    | some ob => exact absurd (Heap.lt_size q) (Nat.not_lt.mpr (Nat.le_succ _))
  · obtain ⟨v, rfl, rfl, q⟩ := q
    exact ⟨rfl, q⟩
end

/-- a node's labels and places -/
structure NLab where
  a : Addr
  d : Addr
  c : Addr
  hs : Addr
  r : Addr
  rc : Addr
  ts : Addr
  nm : Str
  ql : Str
  S : Str → Bool
  sn : Nat
/-- a forest: the first tree (its node, the forest below it), the others -/
inductive Fo where
  | nil
  | cons (x : NLab) (ks : Fo) (rest : Fo)
noncomputable def Fo.refs : Fo → List Value
  | .nil => []
  | .cons x _ r => .ref x.a :: r.refs
noncomputable def Fo.rrefs : Fo → List Value
  | .nil => []
  | .cons x _ r => .ref x.r :: r.rrefs
noncomputable def Fo.size : Fo → Nat
  | .nil => 0
  | .cons _ k r => k.size + r.size + 1
noncomputable def Fo.nadr : Fo → List Addr
  | .nil => []
  | .cons x k r => x.a :: x.d :: x.c :: x.hs :: (k.nadr ++ r.nadr)
noncomputable def Fo.radr : Fo → List Addr
  | .nil => []
  | .cons x k r => x.r :: x.rc :: x.ts :: (k.radr ++ r.radr)
end Mine
end

section
open PySem PySem.W PyProof.Rows PySem.Calls PySem.W.X
set_option maxRecDepth 100000
set_option maxHeartbeats 4000000
set_option linter.unusedVariables false
namespace Mine

/-- the ground, and R holds all of it -/
def GrdR (w : World) (z : Nat) (R : Addr → Prop) (h : Heap) : Prop := ∃ B₀ mg mb, (KK w).In B₀ ∧ TopRead vw lo mg mb B₀ ∧ Le B₀ h ∧ B₀.objs.size = z ∧ (∃ y o, y + 1 = z ∧ B₀.get? y = some o) ∧ ∀ b o, B₀.get? b = some o → R b
theorem GrdR.grd {w z R h} (x : GrdR w z R h) : Grd w z h := let ⟨B, a, b, c, d, e, f, g, _⟩ := x; ⟨B, a, b, c, d, e, f, g⟩
theorem Grd.r {w z h} (x : Grd w z h) {R : Addr → Prop} (k : ∀ b o, b < z → h.get? b = some o → R b) : GrdR w z R h :=
  let ⟨B, a, b, c, d, e, f, g⟩ := x; ⟨B, a, b, c, d, e, f, g, fun b o q => k b o (f ▸ Heap.lt_size q) (e b o q)⟩
theorem GrdR.to {w z R R' h h'} (x : GrdR w z R h) (k : ∀ b o, R b → h.get? b = some o → h'.get? b = some o) (kr : ∀ b, b < z → R b → R' b) : GrdR w z R' h' :=
  let ⟨B, a, b, c, d, e, f, g, i⟩ := x; ⟨B, a, b, c, d, fun b o q => k b o (i b o q) (e b o q), f, g, fun b o q => kr b (f ▸ Heap.lt_size q) (i b o q)⟩
def Agr (R W : Addr → Prop) (GF : Nat → Prop) (h₀ : Heap) (g₀ : Array GenState) (h : Heap) (g : Array GenState) : Prop :=
  (∀ b o, (R b ∨ W b) → h₀.get? b = some o → h.get? b = some o) ∧ (∀ i x, GF i → g₀[i]? = some x → g[i]? = some x)
theorem Agr.trans {R W GF h₀ g₀ h₁ g₁ h₂ g₂} (x : Agr R W GF h₀ g₀ h₁ g₁) (y : Agr R W GF h₁ g₁ h₂ g₂) : Agr R W GF h₀ g₀ h₂ g₂ :=
  ⟨fun b o r e => y.1 b o r (x.1 b o r e), fun i a r e => y.2 i a r (x.2 i a r e)⟩
theorem Agr.refl {R W GF h g} : Agr R W GF h g h g := ⟨fun _ _ _ e => e, fun _ _ _ e => e⟩
/-- a footprint -/
structure Fp (w : World) (z : Nat) (R W : Addr → Prop) (GF : Nat → Prop) (h : Heap) (g : Array GenState) : Prop where
  G : GrdR w z R h
  rp : ∀ b, R b → ∃ o, h.get? b = some o
  wp : ∀ b, W b → ∃ o, h.get? b = some o
  gp : ∀ i, GF i → ∃ x, g[i]? = some x
/-- grown from base: what is in the new footprint was in the old one, or is new -/
structure Grown (R W R' W' : Addr → Prop) (GF GF' : Nat → Prop) (h h' : Heap) (g g' : Array GenState) : Prop where
  k : Kp W h h'
  kg : KpG GF g g'
  r : ∀ b, R' b → R b ∨ W b ∨ h.get? b = none
  w : ∀ b, W' b → W b ∨ h.get? b = none
  g : ∀ i, GF' i → GF i ∨ g[i]? = none
theorem KpG.back {GF GF' : Nat → Prop} {g g₁ g' : Array GenState} (x : KpG GF g g₁) (y : KpG GF' g₁ g') (h : ∀ i, GF' i → GF i ∨ g[i]? = none) : KpG GF g g' := x.step y h
theorem Kp.back {W W' : Addr → Prop} {h h₁ h' : Heap} (x : Kp W h h₁) (y : Kp W' h₁ h') (k : ∀ b, W' b → W b ∨ h.get? b = none) : Kp W h h' :=
  fun b o n e => y b o (fun q => (k b q).elim n fun z => by rw [e] at z; cases z) (x b o n e)
theorem Grown.trans {R W R₁ W₁ R' W' GF GF₁ GF' h h₁ h' g g₁ g'} (x : Grown R W R₁ W₁ GF GF₁ h h₁ g g₁) (y : Grown R₁ W₁ R' W' GF₁ GF' h₁ h' g₁ g') : Grown R W R' W' GF GF' h h' g g' := by
  have nn : ∀ b, h₁.get? b = none → W b ∨ h.get? b = none := fun b e => by
    by_cases hb : W b
    · exact .inl hb
    · cases q : h.get? b with
      | none => exact .inr rfl
      | some o => have := x.k b o hb q; rw [e] at this; cases this
  have ng : ∀ i, g₁[i]? = none → GF i ∨ g[i]? = none := fun i e => by
    by_cases hb : GF i
    · exact .inl hb
    · cases q : g[i]? with
      | none => exact .inr rfl
      | some o => have := x.kg.1 i o hb q; rw [e] at this; cases this
  refine ⟨x.k.back y.k x.w, x.kg.back y.kg x.g, fun b q => (y.r b q).elim (x.r b) fun e => .inr (e.elim (x.w b) (nn b)), fun b q => (y.w b q).elim (x.w b) (nn b), fun i q => (y.g i q).elim (x.g i) (ng i)⟩

section
variable (w : World) (z k : Nat) {α : Type} (val : α → Value → (Addr → Prop) → Prop)
inductive GDone (W : Addr → Prop) (GF : Nat → Prop) (h : Heap) (g : Array GenState) (o : OsState) (e : End) (s' : Shared) : Prop
  | mk (h' : Heap) (g' : Array GenState) (d' : Drawn) (t' : Nat) (e1 : e = .ret (.ok (.ret .none))) (e2 : s' = ⟨h', g', d', t', o⟩) (k : Kp W h h') (kg : KpG GF g g') : GDone W GF h g o e s'
inductive GStep (x : α) (next : (Addr → Prop) → (Addr → Prop) → (Nat → Prop) → Heap → Array GenState → Code → Sem Fin → List Frame → Prop) (R W : Addr → Prop) (GF : Nat → Prop) (h : Heap) (g : Array GenState) (o : OsState) (e : End) (s' : Shared) : Prop
  | mk (v : Value) (l : List Value) (kk : Resume → Sem Fin) (c : Code) (p : Pos) (fs : List Frame) (R' W' : Addr → Prop) (GF' : Nat → Prop) (h' : Heap) (g' : Array GenState) (d' : Drawn) (t' : Nat)
    (e1 : e = .susp v false l kk c p fs) (e2 : fs.any Frame.guarded = false) (e3 : s' = ⟨h', g', d', t', o⟩) (e4 : val x v R') (e5 : Grown R W R' W' GF GF' h h' g g') (e6 : Fp w z R' W' GF' h' g') (e7 : next R' W' GF' h' g' c (kk (.send .none)) fs) : GStep x next R W GF h g o e s'
/-- what is left of a generator tells xs -/
def GS : List α → (Addr → Prop) → (Addr → Prop) → (Nat → Prop) → Heap → Array GenState → Code → Sem Fin → List Frame → Prop
  | [], R, W, GF, h₀, g₀, c, tr, fs => ∀ A h g d t o, Rm A k → Agr R W GF h₀ g₀ h g → SegX (model pr w) A c tr fs ⟨h, g, d, t, o⟩ (GDone W GF h g o)
  | x :: xs, R, W, GF, h₀, g₀, c, tr, fs => ∀ A h g d t o, Rm A k → Agr R W GF h₀ g₀ h g → SegX (model pr w) A c tr fs ⟨h, g, d, t, o⟩ (GStep w z val x (GS xs) R W GF h g o)
def GPost : List α → (Addr → Prop) → (Addr → Prop) → (Nat → Prop) → Heap → Array GenState → OsState → End → Shared → Prop
  | [], R, W, GF, h, g, o => GDone W GF h g o
  | x :: xs, R, W, GF, h, g, o => GStep w z val x (GS w z k val xs) R W GF h g o
variable {w z k val}
theorem GS_iff {xs : List α} {R W GF h₀ g₀ c tr fs} : GS w z k val xs R W GF h₀ g₀ c tr fs ↔
    ∀ A h g d t o, Rm A k → Agr R W GF h₀ g₀ h g → SegX (model pr w) A c tr fs ⟨h, g, d, t, o⟩ (GPost w z k val xs R W GF h g o) := by
  cases xs <;> rfl
theorem GS.agr {xs : List α} {R W GF h₀ g₀ h₁ g₁ c tr fs} (x : GS w z k val xs R W GF h₀ g₀ c tr fs) (a : Agr R W GF h₀ g₀ h₁ g₁) : GS w z k val xs R W GF h₁ g₁ c tr fs :=
  GS_iff.mpr fun A h g d t o r b => GS_iff.mp x A h g d t o r (a.trans b)
theorem GPost.back {xs : List α} {R W GF h g R₁ W₁ GF₁ h₁ g₁ o e s'} (x : Grown R W R₁ W₁ GF GF₁ h h₁ g g₁) (y : GPost w z k val xs R₁ W₁ GF₁ h₁ g₁ o e s') : GPost w z k val xs R W GF h g o e s' := by
  cases xs with
  | nil =>
    obtain ⟨h', g', d', t', rfl, rfl, a, b⟩ := y
    exact ⟨h', g', d', t', rfl, rfl, x.k.back a x.w, x.kg.back b x.g⟩
  | cons x₀ xs =>
    obtain ⟨v, l, kk, c, p, fs, R', W', GF', h', g', d', t', rfl, e2, rfl, e4, e5, e6, e7⟩ := y
    exact ⟨v, l, kk, c, p, fs, R', W', GF', h', g', d', t', rfl, e2, rfl, e4, x.trans e5, e6, e7⟩

/-- where a generator is -/
def GsIs (gs : GenState) (c : Code) (tr : Sem Fin) (fs : List Frame) : Prop := (gs = .fresh c ∧ tr = denote table c ∧ fs = []) ∨ (∃ k₀ l₀ p₀ cl, gs = .suspended k₀ l₀ c p₀ fs cl ∧ tr = k₀ (.send .none))
/-- a generator that stands -/
inductive GSt (w : World) (z k : Nat) (val : α → Value → (Addr → Prop) → Prop) (ga gi : Nat) (xs : List α) (R W : Addr → Prop) (GF : Nat → Prop) (h : Heap) (g : Array GenState) : Prop
  | mk (R₀ : Addr → Prop) (GF₀ : Nat → Prop) (gs : GenState) (c : Code) (tr : Sem Fin) (fs : List Frame) (e1 : h.IsGen ga gi) (e2 : g[gi]? = some gs) (e3 : gs.bare = true) (e4 : ¬ GF₀ gi) (e5 : ¬ W ga)
    (e6 : GsIs gs c tr fs) (e7 : GS w z k val xs R₀ W GF₀ h g c tr fs) (e8 : Fp w z R₀ W GF₀ h g) (e9 : ∀ b, R b ↔ R₀ b ∨ b = ga) (e10 : ∀ i, GF i ↔ GF₀ i ∨ i = gi) (e11 : ∀ x ∈ xs, ∀ v R', val x v R' → val x v (fun b => R' b ∨ b = ga)) : GSt w z k val ga gi xs R W GF h g

theorem wpAny_resumeX {α : Type} {A : Around} {Q : α → Shared → Prop} {E : Value → Shared → Prop} {s : Shared} {gi : Nat} {gs : GenState} {l : List Value} {kk : GenResult → Sem α} {c : Code} {tr : Sem Fin} {fs : List Frame} (hg : s.gens[gi]? = some gs)
    (hgs : GsIs gs c tr fs)
    (x : SegX (model pr w) A c tr fs (s.setGen gi .running) (fun e s₁ => wpAny (model pr w) A (kk e.result) Q E (s₁.setGen gi e.genState))) :
    wpAny (model pr w) A (.resume gi (.send .none) l kk) Q E s :=
  fun Γ p hΓ => wake_any α pr w hg (hgs.imp (fun ⟨a, b, c⟩ => ⟨a, rfl, b, c⟩) fun ⟨a, b, c, d, e, f⟩ => ⟨a, b, c, d, e, f⟩) (fun Γ => Γ.In A) (fun _ h => h) (x.mono fun _ _ h Γ p hC => h Γ p hC) Γ p hΓ

theorem get_set_ne {g : Array GenState} {gi i : Nat} {x y : GenState} (h : g[i]? = some y) (n : i ≠ gi) : (g.setIfInBounds gi x)[i]? = some y := by
  rw [Array.getElem?_setIfInBounds_ne (Ne.symm n)]; exact h
theorem allBare_set {g : Array GenState} {gi : Nat} {x : GenState} (h : AllBare g) (hx : x.bare = true) : AllBare (g.setIfInBounds gi x) := by
  intro y hy
  rw [Array.mem_iff_getElem?] at hy
  obtain ⟨i, hi⟩ := hy
  by_cases e : i = gi
  · subst e
    by_cases q : i < g.size
    · rw [Array.getElem?_setIfInBounds_self_of_lt q] at hi
      cases hi; exact hx
    · rw [Array.getElem?_eq_none (by rw [Array.size_setIfInBounds]; omega)] at hi
      cases hi
  · rw [Array.getElem?_setIfInBounds_ne (Ne.symm e)] at hi
    exact h y (Array.mem_iff_getElem?.mpr ⟨i, hi⟩)
theorem KpG.set {g : Array GenState} {gi : Nat} {x : GenState} (hx : x.bare = true) : KpG (fun i => i = gi) g (g.setIfInBounds gi x) :=
  ⟨fun i y n e => get_set_ne e n, fun h => allBare_set h hx⟩

theorem itr_gen {A : Around} (r : Rm A (k + 1)) (ga gi : Nat) : Itr w A (.ref ga) val (GSt w z k val ga gi) where
  item := by
    rintro x xs R W GF h g d t o Q E ⟨R₀, GF₀, gs, c, tr, fs, hga, hgs, hb, nG, nW, hst, S, P, hR, hG, hv⟩ H
    unfold pyNext
    refine wpAny_bind (wpAny_attempt (wpAny_callSpecial?_slot (name := Str.ofString "__next__") hga.typeIs slot_gen_next
      (wpAny_call_entry slot_gen_next hga.typeIs entry_gen_next ?_ (args_gen_next _))))
    show wpAny _ A.in1 (Builtin.Generator.genWake (.ref ga) (.send .none)) _ _ _
    unfold Builtin.Generator.genWake
    refine wpAny_bind (wpAny_holding (wpAny_genNumber hga (wpAny_bind (wpAny_genState hgs ?_))))
    have hl := P.G.grd.nolimit
    have hd : A.depth < recursionLimit := by have := r.dp; omega
    have ne : ∀ i, GF₀ i → i ≠ gi := fun i q e => nG (e ▸ q)
    cases gs with
    | running => rcases hst with ⟨q, _⟩ | ⟨_, _, _, _, q, _⟩ <;> cases q
    | finished => rcases hst with ⟨q, _⟩ | ⟨_, _, _, _, q, _⟩ <;> cases q
    | _ =>
      refine wpAny_bind (wpAny_roomToWake hl hd ?_)
      show wpAny _ A.in1 (.resume gi (.send .none) [] _) _ _ _
      refine wpAny_resumeX hgs hst ((GS_iff.mp S A.in1 h _ d t o r.in1 ⟨fun b o q e => e, fun i x q e => get_set_ne e (ne i q)⟩).mono fun e s' q => ?_)
      obtain ⟨v, l, kk, c', p, fs', R', W', GF', h', g', d', t', rfl, e2, rfl, e4, e5, e6, e7⟩ := q
      have gsz : gi < g.size := (Array.getElem?_eq_some_iff.mp hgs).1
      have hgi : g'[gi]? = some .running := e5.kg.1 gi _ nG (Array.getElem?_setIfInBounds_self_of_lt gsz)
      have gsz' : gi < g'.size := (Array.getElem?_eq_some_iff.mp hgi).1
      have nG' : ¬ GF' gi := fun q => (e5.g gi q).elim nG fun e => by rw [Array.getElem?_setIfInBounds_self_of_lt gsz] at e; cases e
      have ne' : ∀ i, GF' i → i ≠ gi := fun i q e => nG' (e ▸ q)
      obtain ⟨og, nm, qn, hg1, hg2⟩ := hga
      have nW' : ¬ W' ga := fun q => (e5.w ga q).elim nW fun e => by rw [hg1] at e; cases e
      have bb : (GenState.suspended kk l c' p fs' (false || fs'.any Frame.guarded)).bare = true := by rw [e2]; rfl
      refine wpAny_pure ⟨v, rfl, wpAny_pure (H v (fun b => R' b ∨ b = ga) W' (fun i => GF' i ∨ i = gi) h' _ d' t' (hv x (.head _) _ _ e4) ?_ e5.k ?_ e5.w ?_ ?_)⟩
      · refine ⟨R', GF', .suspended kk l c' p fs' (false || fs'.any Frame.guarded), c', kk (.send .none), fs', ⟨og, nm, qn, e5.k ga og nW hg1, hg2⟩, Array.getElem?_setIfInBounds_self_of_lt gsz', bb, nG', nW',
          .inr ⟨kk, l, p, _, rfl, rfl⟩, GS.agr e7 ⟨fun _ _ _ e => e, fun i x q e => get_set_ne e (ne' i q)⟩, ⟨e6.G, e6.rp, e6.wp, fun i q => let ⟨y, e⟩ := e6.gp i q; ⟨y, get_set_ne e (ne' i q)⟩⟩, fun _ => Iff.rfl, fun _ => Iff.rfl, fun x hx => hv x (.tail _ hx)⟩
      · refine ⟨fun i y n e => ?_, fun q => allBare_set (e5.kg.2 (allBare_set q rfl)) bb⟩
        have n1 : i ≠ gi := fun q => n ((hG i).mpr (.inr q))
        exact get_set_ne (e5.kg.1 i y (fun q => n ((hG i).mpr (.inl q))) (get_set_ne e n1)) n1
      · exact fun b q => q.elim (fun q => (e5.r b q).imp (fun q => (hR b).mpr (.inl q)) id) fun q => .inl ((hR b).mpr (.inr q))
      · refine fun i q => q.elim (fun q => (e5.g i q).imp (fun q => (hG i).mpr (.inl q)) fun e => ?_) fun q => .inl ((hG i).mpr (.inr q))
        rw [Array.getElem?_setIfInBounds_ne (Ne.symm (ne' i q))] at e; exact e
  done := by
    rintro R W GF h g d t o Q E ⟨R₀, GF₀, gs, c, tr, fs, hga, hgs, hb, nG, nW, hst, S, P, hR, hG, hv⟩ H
    unfold pyNext
    refine wpAny_bind (wpAny_attempt (wpAny_callSpecial?_slot (name := Str.ofString "__next__") hga.typeIs slot_gen_next
      (wpAny_call_entry slot_gen_next hga.typeIs entry_gen_next ?_ (args_gen_next _))))
    show wpAny _ A.in1 (Builtin.Generator.genWake (.ref ga) (.send .none)) _ _ _
    unfold Builtin.Generator.genWake
    refine wpAny_bind (wpAny_holding (wpAny_genNumber hga (wpAny_bind (wpAny_genState hgs ?_))))
    have hl := P.G.grd.nolimit
    have hd : A.depth < recursionLimit := by have := r.dp; omega
    have ne : ∀ i, GF₀ i → i ≠ gi := fun i q e => nG (e ▸ q)
    cases gs with
    | running => rcases hst with ⟨q, _⟩ | ⟨_, _, _, _, q, _⟩ <;> cases q
    | finished => rcases hst with ⟨q, _⟩ | ⟨_, _, _, _, q, _⟩ <;> cases q
    | _ =>
      refine wpAny_bind (wpAny_roomToWake hl hd ?_)
      show wpAny _ A.in1 (.resume gi (.send .none) [] _) _ _ _
      refine wpAny_resumeX hgs hst ((GS_iff.mp S A.in1 h _ d t o r.in1 ⟨fun b o q e => e, fun i x q e => get_set_ne e (ne i q)⟩).mono fun e s' q => ?_)
      obtain ⟨h', g', d', t', rfl, rfl, e5, e6⟩ := q
      show wpAny _ _ (newExc (.type "StopIteration") [] >>= _) _ _ _
      refine wpAny_bind ?_
      simp only [newExc, newTuple]
      refine wpAny_bind (wpAny_newObj_type ?_ (by size_fits))
      refine wpAny_bind (m := firstArgMember _ _) (wpAny_of_eq (a := Value.none) (by first | rfl | (simp only [firstArgMember]; rfl)) ?_)
      refine wpAny_newObj_type ?_ (by size_fits)
      simp only [raiseNew]
      refine wpAny_bind (wpAny_bind (wpAny_handled ?_))
      rw [show A.in1.handled = none from r.hh]
      refine wpAny_throw ?_
      refine wpAny_bind (wpAny_isInstance (T := "StopIteration") (b := true) ⟨_, Heap.get?_push_size _ rfl, rfl⟩ isSubtype_stop ?_)
      refine wpAny_pure (H _ _ _ _ (fun b o n e => Heap.get?_push_of_some _ (Heap.get?_push_of_some _ (e5 b o n e))) ⟨fun i y n e => ?_, fun q => allBare_set (e6.2 (allBare_set q rfl)) rfl⟩)
      have n1 : i ≠ gi := fun q => n ((hG i).mpr (.inr q))
      exact get_set_ne (e6.1 i y (fun q => n ((hG i).mpr (.inl q))) (get_set_ne e n1)) n1
  self := by
    rintro xs R W GF s Q E ⟨R₀, GF₀, gs, c, tr, fs, hga, hgs, hb, nG, nW, hst, S, P, hR, hG, hv⟩ hQ
    exact wpAny_pyIter_gen hga hQ
  own := by
    rintro xs R W GF h g ⟨R₀, GF₀, gs, c, tr, fs, hga, hgs, hb, nG, nW, hst, S, P, hR, hG, hv⟩ b hb
    exact P.wp b hb
  gown := by
    rintro xs R W GF h g ⟨R₀, GF₀, gs, c, tr, fs, hga, hgs, hb, nG, nW, hst, S, P, hR, hG, hv⟩ i hi
    rcases (hG i).mp hi with q | rfl
    · exact P.gp i q
    · exact ⟨gs, hgs⟩
  rd := by
    rintro xs R W GF h g ⟨R₀, GF₀, gs, c, tr, fs, hga, hgs, hb, nG, nW, hst, S, P, hR, hG, hv⟩ b hb
    rcases (hR b).mp hb with q | rfl
    · exact P.rp b q
    · exact let ⟨o, _, _, e, _⟩ := hga; ⟨o, e⟩
  frame := by
    rintro xs R W GF h h' g g' ⟨R₀, GF₀, gs, c, tr, fs, hga, hgs, hb, nG, nW, hst, S, P, hR, hG, hv⟩ kh kg
    have a : Agr R₀ W GF₀ h g h' g' := ⟨fun b o q e => kh b o (q.imp (fun q => (hR b).mpr (.inl q)) id) e, fun i x q e => kg i x ((hG i).mpr (.inl q)) e⟩
    obtain ⟨o, nm, qn, e1, e2⟩ := hga
    refine ⟨R₀, GF₀, gs, c, tr, fs, ⟨o, nm, qn, kh ga o (.inl ((hR ga).mpr (.inr rfl))) e1, e2⟩, kg gi gs ((hG gi).mpr (.inr rfl)) hgs, hb, nG, nW, hst, S.agr a, ?_, hR, hG, hv⟩
    refine ⟨P.G.to (fun b o q e => a.1 b o (.inl q) e) (fun _ _ q => q), fun b q => ?_, fun b q => ?_, fun i q => ?_⟩
    · exact let ⟨o, e⟩ := P.rp b q; ⟨o, a.1 b o (.inl q) e⟩
    · exact let ⟨o, e⟩ := P.wp b q; ⟨o, a.1 b o (.inr q) e⟩
    · exact let ⟨o, e⟩ := P.gp i q; ⟨o, a.2 i o q e⟩
end
end Mine
end

section
open PySem PySem.W PyProof.Rows PySem.Calls PySem.W.X
set_option maxRecDepth 100000
set_option maxHeartbeats 4000000
set_option linter.unusedVariables false
namespace Mine
section
variable {w : World} {A : Around} {c : Code} {fs : List Frame} {P : End → Shared → Prop} {env : Env} {s : Shared} {K : Flow → Sem Fin} {H : Value → Sem Fin} {gd : Bool → Bool} {lv : List Value → List Value}

theorem sx_wrap {α : Type} {m : Sem α} {K : α → Sem Fin} {H : Value → Sem Fin} {gd lv} (h : wpAny (model pr w) (A.over c fs) m (fun a s' => SegX (model pr w) A c (K a) fs s' P) (fun _ _ => False) s) :
    SegX (model pr w) A c (m.wrap K H gd lv) fs s P := by
  rintro Γ p rfl hΓ
  obtain ⟨e, s', hr, hq⟩ := runs_wrap_of_wp (Φ := fun e s' => e.quiet = true ∧ P e s') K H gd lv m (h (Γ.over fs) p (hΓ.over fs)) (fun a p' s' h' => h' Γ p' rfl hΓ) (fun x p' s' h' => h'.elim)
  exact ⟨e, s', hr, hq⟩
theorem sx_bind {α β : Type} {m : Sem α} {f : α → Sem β} {K : β → Sem Fin} {H : Value → Sem Fin} {gd lv} (h : SegX (model pr w) A c (m.wrap (fun a => (f a).wrap K H gd lv) H gd lv) fs s P) :
    SegX (model pr w) A c ((m >>= f).wrap K H gd lv) fs s P := by
  rw [Sem.bind_eq_wrap', Sem.wrap_wrap]; exact h
theorem sx_at {p' : Pos} {k : Unit → Sem Fin} (h : SegX (model pr w) A c (k ()) fs s P) : SegX (model pr w) A c (.at p' k) fs s P :=
  sx_wrap (m := standAt p') (K := k) (H := .raise) (gd := id) (lv := id) (wpAny_standAt h)
theorem sx_point {l : List Value} {k : Unit → Sem Fin} (h : SegX (model pr w) A c (k ()) fs s P) : SegX (model pr w) A c (.point l k) fs s P :=
  sx_wrap (m := point) (K := k) (H := .raise) (gd := id) (lv := fun _ => l) (wpAny_point h)
theorem sx_std {β : Type} {p' : Pos} {f : Unit → Sem β} {K : β → Sem Fin} {H : Value → Sem Fin} {gd lv} (h : SegX (model pr w) A c ((f ()).wrap K H gd lv) fs s P) : SegX (model pr w) A c ((standAt p' >>= f).wrap K H gd lv) fs s P :=
  sx_bind (sx_wrap (wpAny_standAt h))
theorem sx_nil (h : SegX (model pr w) A c (K .next) fs s P) : SegX (model pr w) A c ((execs [] env).wrap K H gd lv) fs s P := h
theorem sx_cons {st : Stmt} {rest : List Stmt}
    (h : SegX (model pr w) A c ((exec st env).wrap (fun f => match f with | .next => (execs rest env).wrap K H gd lv | f => K f) H gd lv) fs s P) :
    SegX (model pr w) A c ((execs (st :: rest) env).wrap K H gd lv) fs s P := by rw [execs_cons_wrap]; exact h
theorem sx_yield {e : Expr} {ypos pos : Pos} (hgd : gd false = false) (hfs : splitAtGen fs = none) (hfg : fs.any Frame.guarded = false) (hco : env.scope.isCoroutine = false) (hi : interactive env = false)
    (h : ∀ A', A' = A.over c fs → wpAny (model pr w) A' (eval e env) (fun v s' => ∀ l kk p, kk (.send .none) = K .next → P (.susp v false l kk c p fs) s') (fun _ _ => False) s) :
    SegX (model pr w) A c ((exec (.Expr (.Yield (some e) ypos) pos) env).wrap K H gd lv) fs s P := by
  rw [exec_Expr env _ pos hi rfl]
  show SegX _ A c (.at pos fun _ => ((eval e env >>= fun v => (standAt ypos >>= fun _ => yieldOut env v)) >>= fun x =>
    dropValue (.Yield (some e) ypos) pos x).wrap K H gd lv) fs s P
  have hy : ∀ v, yieldOut env v = yieldValue v := fun v => by simp only [yieldOut, hco, Bool.false_eq_true, if_false]
  simp only [hy]
  refine sx_at ?_
  rw [Sem.bind_eq_wrap', Sem.bind_eq_wrap', Sem.wrap_wrap, Sem.wrap_wrap]
  refine sx_wrap (wpAny_mono (h _ rfl) (fun v s' h' => ?_) fun _ _ x => x)
  refine sx_at ?_
  show SegX _ A c (.yield v (gd false) _ _) fs s' P
  rw [hgd]
  exact s_yield pr w A c fs P s' v _ _ hfs hfg fun p => h' _ _ p rfl
theorem sx_If {test : Expr} {body orelse : List Stmt} {pos : Pos}
    (h : ∀ A', A' = A.over c fs → wpAny (model pr w) A' (isTrue test env (eval test env)) (fun b s' => SegX (model pr w) A c ((if b = true then execs body env else execs orelse env).wrap K H gd lv) fs s' P) (fun _ _ => False) s) :
    SegX (model pr w) A c ((exec (.If test body orelse pos) env).wrap K H gd lv) fs s P := by
  refine sx_std ?_
  exact sx_bind (sx_wrap (h _ rfl))
theorem sx_For {target iter : Expr} {body : List Stmt} {pos : Pos} (hs : ∀ x, foldedSetIterable iter env x = pure x)
    (h : ∀ A', A' = A.over c fs → wpAny (model pr w) A' (eval iter env) (fun x s₁ => wpAny (model pr w) A' (pyIter x) (fun I s₂ => ∀ k p, (∀ f, k (.ok f) = K f) →
      SegX (model pr w) A (.forLoop target I body [] env) (denote table (.forLoop target I body [] env)) (.ret k none (gd false) (lv []) c p [] :: fs) s₂ P) (fun _ _ => False) s₁) (fun _ _ => False) s) :
    SegX (model pr w) A c ((exec (.For target iter body [] pos) env).wrap K H gd lv) fs s P := by
  rw [exec_For]
  refine sx_std ?_
  refine sx_bind (sx_wrap (wpAny_mono (h _ rfl) (fun x s₁ h₁ => ?_) fun _ _ x => x))
  simp only [hs]
  refine sx_bind (sx_wrap (wpAny_pure ?_))
  refine sx_std ?_
  refine sx_bind (sx_wrap (wpAny_holding (wpAny_mono h₁ (fun I s₂ h₂ => ?_) fun _ _ x => x)))
  exact s_call pr w A c fs P s₂ _ none (gd false) (lv []) _ fun p => h₂ _ p fun f => rfl

theorem sx_forLoop {target : Expr} {I : Value} {body : List Stmt}
    (h : wpAny (model pr w) (A.over (.forLoop target I body [] env) fs) (pyNext I) (fun r s₁ => match r with
      | none => SegX (model pr w) A (.block [] env) (.pure (.done .next)) fs s₁ P
      | some v => wpAny (model pr w) (A.over (.forLoop target I body [] env) fs) (letOwnedTupleGo target I v) (fun _ s₂ => wpAny (model pr w) (A.over (.forLoop target I body [] env) fs) (assign target env v) (fun _ s₃ =>
          ∀ H, SegX (model pr w) A (.forLoop target I body [] env) ((execs body env).wrap (fun f => match f with
            | .next | .cont => .pure (.again (.forLoop target I body [] env))
            | .brk => .pure (.done .next)
            | .ret v => .pure (.done (.ret v))) H id id) fs s₃ P) (fun _ _ => False) s₂) (fun _ _ => False) s₁) (fun _ _ => False) s) :
    SegX (model pr w) A (.forLoop target I body [] env) (denote table (.forLoop target I body [] env)) fs s P := by
  show SegX _ A _ ((forTurn target I body [] env).onRaise (fun x => do noteFrame x env; theTreesLotGoes x)) fs s P
  rw [Sem.onRaise_eq_wrap]
  unfold forTurn
  refine sx_std ?_
  refine sx_bind (sx_wrap (wpAny_onRaise (wpAny_mono h (fun r s₁ h₁ => ?_) fun _ _ x => x.elim)))
  cases r with
  | none => exact s_again pr w A _ fs P s₁ _ rfl h₁
  | some v =>
    refine sx_bind (sx_wrap (wpAny_mono h₁ (fun _ s₂ h₂ => ?_) fun _ _ x => x))
    refine sx_bind (sx_wrap (wpAny_mono h₂ (fun _ s₃ h₃ => ?_) fun _ _ x => x))
    refine sx_bind ?_
    rw [Sem.wrap_congr (execs body env) _ _ (K' := fun f => match f with
            | .next | .cont => .pure (.again (.forLoop target I body [] env))
            | .brk => .pure (.done .next)
            | .ret v => .pure (.done (.ret v))) (H' := fun e => (do noteFrame e env; theTreesLotGoes e : Sem Unit).bind fun _ => .raise e) (fun f => by cases f <;> rfl) (fun _ => rfl)]
    exact h₃ _
end
end Mine
end

section
open PySem PySem.W PyProof.Rows PySem.Calls PySem.W.X
set_option maxRecDepth 100000
set_option maxHeartbeats 4000000
set_option linter.unusedVariables false
namespace Mine
structure FsOk (c : Code) (fs : List Frame) : Prop where
  m : (marksOver fs (none, none)).1 = none
  f : frameCount (fs.map Frame.where_) + c.weight ≤ 1
  u : unitsOf (fs.map Frame.where_) + c.cUnits ≤ 8
  s : splitAtGen fs = none
  g : fs.any Frame.guarded = false
theorem Rm.over {A : Around} {k : Nat} {c : Code} {fs : List Frame} (r : Rm A (k + 1)) (x : FsOk c fs) : Rm (A.over c fs) k := by
  refine ⟨?_, ?_, ?_⟩
  · show (marksOver fs (A.handled, A.handled)).1 = none
    rw [r.hh]; exact x.m
  · have := r.dp; have := x.f
    show A.depth + frameCount (fs.map Frame.where_) + c.weight + k < _
    omega
  · have := r.un; have := x.u
    show A.units + unitsOf (fs.map Frame.where_) + c.cUnits + 8 * k < _
    omega
theorem Fm.hide {h : Heap} {L : Addr} {m : Str → Option Value} (n : h.Ns L m) : Fm (h.hide L) L h m := ⟨n, fun b o e => Heap.of_hide e, Heap.hide_self _ _⟩
theorem FsOk.func {body : List Stmt} {env : Env} : FsOk (.func body env) [] := ⟨rfl, by show 0 + 1 ≤ 1; omega, by show 0 + 3 ≤ 8; omega, rfl, rfl⟩
theorem FsOk.for1 {target : Expr} {I : Value} {body b2 : List Stmt} {env : Env} {k : Result → Sem Fin} {l : List Value} {p : Pos} : FsOk (.forLoop target I body [] env) [.ret k none false l (.func b2 env) p []] :=
  ⟨rfl, by show 1 + 0 + 0 ≤ 1; omega, by show 3 + 0 + 0 ≤ 8; omega, rfl, rfl⟩
theorem FsOk.for2 {t1 t2 : Expr} {I I' : Value} {body b1 b2 : List Stmt} {env : Env} {k k' : Result → Sem Fin} {l l' : List Value} {p p' : Pos} : FsOk (.forLoop t1 I body [] env) [.ret k none false l (.forLoop t2 I' b1 [] env) p [], .ret k' none false l' (.func b2 env) p' []] :=
  ⟨rfl, by show 0 + (1 + 0) + 0 ≤ 1; omega, by show 0 + (3 + 0) + 0 ≤ 8; omega, rfl, rfl⟩

section
variable {w : World} {z k : Nat} {α : Type} {val : α → Value → (Addr → Prop) → Prop}
/-- for y in I: yield y -/
theorem loop_yield {I : Value} {St} (it : ∀ A, Rm A k → Itr w A I val St) {L : Addr} {y : Str} {p1 p2 p3 p4 : Pos} {env : Env} {fs : List Frame}
    (hL : env.locals = L) (hk : env.scope.kind = .function) (hl : env.kindOf y = some .local) (hd : (y == ("__debug__" : Str)) = false) (hco : env.scope.isCoroutine = false) (hi : interactive env = false)
    (hfs : FsOk (.forLoop (.Name y p1) I [.Expr (.Yield (some (.Name y p2)) p3) p4] [] env) fs) {h₀ : Heap} {g₀ : Array GenState} {m₀ : Str → Option Value} {Rc Wc : Addr → Prop} {GFc : Nat → Prop} {ys : List α}
    (P₀ : Fp w z Rc Wc GFc h₀ g₀) (hWL : Wc L) (hRL : ¬ Rc L)
    (cont : ∀ A h₁ g₁ d t o m₁, Rm A (k + 1) → h₁.Ns L m₁ → (∀ b o, (Rc b ∨ Wc b) → b ≠ L → h₀.get? b = some o → h₁.get? b = some o) → (∀ i x, GFc i → g₀[i]? = some x → g₁[i]? = some x) → (∀ x, x ≠ y → m₁ x = m₀ x) →
      SegX (model pr w) A (.block [] env) (.pure (.done .next)) fs ⟨h₁, g₁, d, t, o⟩ (GPost w z (k + 1) val ys Rc Wc GFc h₁ g₁ o)) :
    ∀ (xs : List α) (R W : Addr → Prop) (GF : Nat → Prop) (A : Around) (h : Heap) (g : Array GenState) (d : Drawn) (t : Nat) (o : OsState) (m : Str → Option Value),
      (∀ x ∈ xs, ∀ v R', val x v R' → val x v (fun b => R' b ∨ Rc b)) → Rm A (k + 1) → h.Ns L m → (∀ b o, (Rc b ∨ Wc b) → b ≠ L → h₀.get? b = some o → h.get? b = some o) → (∀ i x, GFc i → g₀[i]? = some x → g[i]? = some x) → (∀ x, x ≠ y → m x = m₀ x) →
      St xs R W GF h g → (∀ b, W b → ¬ Rc b ∧ ¬ Wc b) → ¬ R L → (∀ i, GF i → ¬ GFc i) →
      SegX (model pr w) A (.forLoop (.Name y p1) I [.Expr (.Yield (some (.Name y p2)) p3) p4] [] env) (denote table (.forLoop (.Name y p1) I [.Expr (.Yield (some (.Name y p2)) p3) p4] [] env)) fs ⟨h, g, d, t, o⟩
        (GPost w z (k + 1) val (xs ++ ys) (fun b => R b ∨ Rc b) (fun b => W b ∨ Wc b) (fun i => GF i ∨ GFc i) h g o) := by
  intro xs
  induction xs with
  | nil =>
    intro R W GF A h g d t o m hv r ns ag agg hm st hW hR hG
    refine sx_forLoop ((it _ (r.over hfs)).done R W GF h g d t o _ _ st fun h' g' d' t' kW kG => ?_)
    obtain ⟨oL, esL, epL, e1, e2⟩ := ns
    have nWL : ¬ W L := fun q => (hW L q).2 hWL
    have kb : ∀ b o, (Rc b ∨ Wc b) → b ≠ L → h₀.get? b = some o → h'.get? b = some o := fun b ob q n e => kW b ob (fun x => q.elim (hW b x).1 (hW b x).2) (ag b ob q n e)
    refine (cont A h' g' d' t' o m r ⟨oL, esL, epL, kW L oL nWL e1, e2⟩ kb (fun i x q e => kG.1 i x (fun q' => hG i q' q) (agg i x q e)) hm).mono fun e s' q => q.back ⟨kW.wide fun p q => .inl q, ⟨fun i x n e => kG.1 i x (fun q => n (.inl q)) e, kG.2⟩, fun b q => .inl (.inr q), fun b q => .inl (.inr q), fun b q => .inl (.inr q)⟩
  | cons x xs ih =>
    intro R W GF A h g d t o m hv r ns ag agg hm st hW hR hG
    refine sx_forLoop ((it _ (r.over hfs)).item x xs R W GF h g d t o _ _ st fun v R' W' GF' h₁ g₁ d₁ t₁ hval st₁ kW kG gW gR gG => ?_)
    obtain ⟨oL, esL, epL, e1, e2⟩ := id ns
    have nWL : ¬ W L := fun q => (hW L q).2 hWL
    have ns₁ : h₁.Ns L m := ⟨oL, esL, epL, kW L oL nWL e1, e2⟩
    have pL : h.get? L = some oL := e1
    have pres : ∀ b, (Rc b ∨ Wc b) → ∃ o, h.get? b = some o := fun b q => by
      by_cases hb : b = L
      · exact ⟨oL, hb ▸ pL⟩
      · obtain ⟨ob, e⟩ := q.elim (P₀.rp b) (P₀.wp b)
        exact ⟨ob, ag b ob q hb e⟩
    have hW₁ : ∀ b, W' b → ¬ Rc b ∧ ¬ Wc b := fun b q => (gW b q).elim (hW b) fun e => ⟨fun q => absurd (pres b (.inl q)) (by rw [e]; rintro ⟨_, e'⟩; cases e'), fun q => absurd (pres b (.inr q)) (by rw [e]; rintro ⟨_, e'⟩; cases e')⟩
    have hR₁ : ¬ R' L := fun q => (gR L q).elim hR fun q => q.elim nWL fun e => by rw [e] at pL; cases pL
    have nWL₁ : ¬ W' L := fun q => (hW₁ L q).2 hWL
    have own₁ := (it _ (r.over hfs)).own _ _ _ _ _ _ st₁
    have gown₁ := (it _ (r.over hfs)).gown _ _ _ _ _ _ st₁
    have pg : ∀ i, GFc i → ∃ x, g[i]? = some x := fun i q => let ⟨x, e⟩ := P₀.gp i q; ⟨x, agg i x q e⟩
    have hG₁ : ∀ i, GF' i → ¬ GFc i := fun i q => (gG i q).elim (hG i) fun e q' => let ⟨x, e'⟩ := pg i q'; by rw [e] at e'; cases e'
    have rd₁ := (it _ (r.over hfs)).rd _ _ _ _ _ _ st₁
    refine wpAny_pure ?_
    refine wpAny_assign_Name (kStore (Fm.hide ns₁) hL hk hl fun h₂ t₂ F₂ H => ?_)
    have k12 : ∀ b ob, b ≠ L → h₁.get? b = some ob → h₂.get? b = some ob := fun b ob n e => F₂.keep b ob ((Heap.hide_ne _ n).trans e)
    refine sx_cons (sx_yield rfl hfs.s hfs.g hco hi fun _ _ => (eLocal F₂ (by rw [if_pos rfl]) hL hk hl hd ?_))
    intro l kk p hkk
    refine ⟨v, l, kk, _, p, fs, fun b => R' b ∨ Rc b, fun b => W' b ∨ Wc b, fun i => GF' i ∨ GFc i, h₂, g₁, d₁, t₂, rfl, hfs.g, rfl, hv x (.head _) v R' hval, ?_, ?_, ?_⟩
    · refine ⟨fun b ob n e => k12 b ob (fun q => n (.inr (q ▸ hWL))) (kW b ob (fun q => n (.inl q)) e), ⟨fun i x n e => kG.1 i x (fun q => n (.inl q)) e, kG.2⟩, fun b q => q.elim (fun q => (gR b q).elim (fun q => .inl (.inl q)) fun q => .inr (q.imp .inl id)) fun q => .inl (.inr q),
        fun b q => q.elim (fun q => (gW b q).imp .inl id) fun q => .inl (.inr q), fun b q => q.elim (fun q => (gG b q).imp .inl id) fun q => .inl (.inr q)⟩
    · have kc : ∀ b o, (Rc b ∨ Wc b) → b ≠ L → h₀.get? b = some o → h₂.get? b = some o := fun b ob q n e => k12 b ob n (kW b ob (fun x => q.elim (hW b x).1 (hW b x).2) (ag b ob q n e))
      refine ⟨P₀.G.to (fun b ob q e => kc b ob (.inl q) (fun e' => hRL (e' ▸ q)) e) fun b _ q => .inr q, fun b q => ?_, fun b q => ?_, fun i q => ?_⟩
      · rcases q with q | q
        · obtain ⟨ob, e⟩ := rd₁ b q; exact ⟨ob, k12 b ob (fun e' => hR₁ (e' ▸ q)) e⟩
        · obtain ⟨ob, e⟩ := P₀.rp b q; exact ⟨ob, kc b ob (.inl q) (fun e' => hRL (e' ▸ q)) e⟩
      · by_cases hb : b = L
        · obtain ⟨ob, e⟩ := F₂.there; exact ⟨ob, hb ▸ e⟩
        rcases q with q | q
        · obtain ⟨ob, e⟩ := own₁ b q; exact ⟨ob, k12 b ob hb e⟩
        · obtain ⟨ob, e⟩ := P₀.wp b q; exact ⟨ob, kc b ob (.inr q) hb e⟩
      · rcases q with q | q
        · exact gown₁ i q
        · obtain ⟨x, e⟩ := pg i q; exact ⟨x, kG.1 i x (fun q' => hG i q' q) e⟩
    · refine GS_iff.mpr fun A' h₃ g₃ d₃ t₃ o₃ r₃ ag₃ => ?_
      rw [hkk]
      refine s_again pr w A' _ fs _ _ _ rfl ?_
      obtain ⟨oL₂, esL₂, epL₂, f1, f2⟩ := F₂.ns
      have st₂ : St xs R' W' GF' h₂ g₁ := (it _ (r.over hfs)).frame _ _ _ _ _ _ _ _ st₁ (fun b ob q e => k12 b ob (fun e' => q.elim (fun q => hR₁ (e' ▸ q)) fun q => nWL₁ (e' ▸ q)) e) fun _ _ _ e => e
      refine ih R' W' GF' A' h₃ g₃ d₃ t₃ o₃ _ (fun x hx => hv x (.tail _ hx)) r₃ ⟨oL₂, esL₂, epL₂, ag₃.1 L oL₂ (.inr (.inr hWL)) f1, f2⟩
        (fun b ob q n e => ag₃.1 b ob (q.elim (fun q => .inl (.inr q)) fun q => .inr (.inr q)) (k12 b ob n (kW b ob (fun x => q.elim (hW b x).1 (hW b x).2) (ag b ob q n e))))
        (fun i x q e => ag₃.2 i x (.inr q) (kG.1 i x (fun q' => hG i q' q) (agg i x q e))) (fun x hx => by rw [if_neg hx]; exact hm x hx)
        ((it _ (r.over hfs)).frame _ _ _ _ _ _ _ _ st₂ (fun b ob q e => ag₃.1 b ob (q.imp .inl .inl) e) fun i x q e => ag₃.2 i x (.inl q) e) hW₁ hR₁ hG₁

theorem sx_yieldOne {c : Code} {L : Addr} {nm : Str} {p1 p2 p3 : Pos} {env : Env} {fs : List Frame} {K : Flow → Sem Fin} {H : Value → Sem Fin} {gd : Bool → Bool} {lv : List Value → List Value} (hgd : gd false = false)
    (hL : env.locals = L) (hk : env.scope.kind = .function) (hl : env.kindOf nm = some .local) (hd : (nm == ("__debug__" : Str)) = false) (hco : env.scope.isCoroutine = false) (hi : interactive env = false) (hfs : FsOk c fs)
    {h : Heap} {g : Array GenState} {d : Drawn} {t : Nat} {o : OsState} {m : Str → Option Value} {v : Value} {x : α} {ys : List α} {R W R' W' : Addr → Prop} {GF GF' : Nat → Prop} {A : Around} (ns : h.Ns L m) (hm : m nm = some v) (hval : val x v R')
    (fp : Fp w z R' W' GF' h g) (gr : Grown R W R' W' GF GF' h h g g)
    (next : ∀ A' h' g' d t o, Rm A' k → Agr R' W' GF' h g h' g' → SegX (model pr w) A' c (K .next) fs ⟨h', g', d, t, o⟩ (GPost w z k val ys R' W' GF' h' g' o)) :
    SegX (model pr w) A c ((execs [.Expr (.Yield (some (.Name nm p1)) p2) p3] env).wrap K H gd lv) fs ⟨h, g, d, t, o⟩ (GPost w z k val (x :: ys) R W GF h g o) := by
  refine sx_cons (sx_yield hgd hfs.s hfs.g hco hi fun _ _ => eLocal (Fm.hide ns) hm hL hk hl hd ?_)
  intro l kk p hkk
  refine ⟨v, l, kk, c, p, fs, R', W', GF', h, g, d, t, rfl, hfs.g, rfl, hval, gr, fp, GS_iff.mpr fun A' h' g' d' t' o' r a => ?_⟩
  rw [hkk]
  exact next A' h' g' d' t' o' r a
end
end Mine
end

section
open PySem PySem.W PyProof.Rows PySem.Calls PySem.W.X
set_option maxRecDepth 100000
set_option maxHeartbeats 4000000
set_option linter.unusedVariables false
namespace Mine
section
variable {w : World} {z : Nat} {A : Around} {E : Value → Shared → Prop} {h : Heap} {g : Array GenState} {d : Drawn} {t : Nat} {o : OsState}
theorem callG {f : Addr} {ob : Obj} {fd : FuncData} {body : List Stmt} {pos : List Value} {binds : List (Str × Value)} {Q : Value → Shared → Prop}
    (G : Grd w z h) (ho : (KK w).lookup f = some ob) (hd : ob.data = .func fd) (hc : codeIn (KK w) fd.code fd.qualname = true) (hb : fd.body = .stmts body)
    (hroom : A.depth < recursionLimit) (bt : bindArgs fd ⟨pos, []⟩ = pure binds)
    (hcell : (fd.scope.names.all fun x => x.2 != .cell) = true) (hloc : (binds.all fun x => decide (fd.scope.names.lookup x.1 = some .local)) = true)
    (hco : fd.scope.isCoroutine = false) (hgen : fd.scope.isGenerator = true) (hk : fd.scope.kind = .function)
    (H : ∀ L ga h' t', Le h h' → h.get? L = none → h.get? ga = none → ga ≠ L → h'.Ns L (fun x => binds.reverse.lookup x) → h'.IsGen ga g.size →
      let env := callEnv fd L f
      Q (.ref ga) ⟨h', g.push (.fresh (.func body env)), d, t', o⟩) :
    wpAny (model pr w) A (call (.ref f) pos) Q E ⟨h, g, d, t, o⟩ := by
  refine wpAny_call (codeAny_call_generator hroom (G.k _ _ ho) hd hco hgen hb (codeRec_of G.k hc) (BindsTo.of_eq bt _ _ _ _ ?_))
  refine wpAny_newFunctionEnv (fun x hx => ?_) (locs hloc) (fun h₀ hns₀ hsb₀ => ⟨G.nolimit.fresh _ hsb₀, ?_⟩) hk
  · have := List.all_eq_true.mp hcell x hx
    simpa using this
  dsimp only at hns₀ hsb₀ ⊢
  have hlt := hns₀.lt
  have hLn : h.get? h.objs.size = none := get_new
  have up : ∀ b ob, h.get? b = some ob → h₀.get? b = some ob := fun b ob e => hsb₀.extBut b ob (Nat.ne_of_lt (Heap.lt_size e)) (Heap.get?_push_of_some _ e)
  have hgn : h₀.get? h₀.objs.size = none := get_new
  refine H h.objs.size h₀.objs.size _ _ (fun b ob e => Heap.get?_push_of_some _ (up b ob e)) hLn ?_ (Nat.ne_of_gt hlt) ?_ ⟨_, _, _, Heap.get?_push_size _ rfl, rfl, rfl, rfl⟩
  · cases q : h.get? h₀.objs.size with
    | none => rfl
    | some ob => rw [up _ _ q] at hgn; cases hgn
  · exact hns₀.push _
end
end Mine
end

section
open PySem PySem.W PyProof.Rows PySem.Calls PySem.W.X
set_option maxRecDepth 100000
set_option maxHeartbeats 4000000
set_option linter.unusedVariables false
namespace Mine
section
variable {w : World} {z : Nat} {A : Around} {E : Value → Shared → Prop} {B h : Heap} {L : Addr} {m : Str → Option Value} {g : Array GenState} {d : Drawn} {t : Nat} {o : OsState}
theorem kListNew {a : Addr} {xs : List Value} {Q : Value → Shared → Prop} (F : Fm B L h m) (hl : ListAt B a xs) (hz : xs.length ≤ sizeLine)
    (H : ∀ D h' B', Fm B' L h' m → Le B B' → ListAt B' D xs → B.get? D = none → h.get? D = none → Q (.ref D) ⟨h', g, d, t, o⟩) :
    wpAny (model pr w) A (call (.type "list") [.ref a]) Q E ⟨h, g, d, t, o⟩ := by
  obtain ⟨n, e⟩ := hl.le F.keep
  refine call_list_seq a (.inl rfl) e rfl rfl (fun h' c' k hn => ?_) (by rw [List.size_toArray]; exact hz)
  obtain ⟨B', F', kB, up⟩ := F.after (Le.kp k none1) id
  dsimp only at hn
  have hL : h.get? h.objs.size = none := get_new
  have hne : h.objs.size ≠ L := fun q => by obtain ⟨ob, e⟩ := F.there; rw [← q, hL] at e; cases e
  refine H h.objs.size h' B' F' kB.le ⟨c', up _ _ hne hn⟩ ?_ hL
  cases q : B.get? h.objs.size with
  | none => rfl
  | some ob => rw [F.keep _ _ q] at hL; cases hL

theorem kPush {ob : Obj} (F : Fm B L h m) (hf : ob.isFreed = false) : ∃ B', Fm B' L (h.push ob) m ∧ Le B B' ∧ B'.get? h.objs.size = some ob ∧ B.get? h.objs.size = none ∧ h.get? h.objs.size = none := by
  have k : Le h (h.push ob) := fun b o e => Heap.get?_push_of_some _ e
  obtain ⟨B', F', kB, up⟩ := F.after (Le.kp k none1) id
  have hL : h.get? h.objs.size = none := get_new
  have hne : h.objs.size ≠ L := fun q => by obtain ⟨ob, e⟩ := F.there; rw [← q, hL] at e; cases e
  refine ⟨B', F', kB.le, up _ _ hne (Heap.get?_push_size _ hf), ?_, hL⟩
  cases q : B.get? h.objs.size with
  | none => rfl
  | some ob => rw [F.keep _ _ q] at hL; cases hL
theorem kNewList {xs : List Value} {Q : Value → Shared → Prop} (F : Fm B L h m) (hz : xs.length ≤ sizeLine)
    (H : ∀ D h' B', Fm B' L h' m → Le B B' → ListAt B' D xs → B.get? D = none → h.get? D = none → h.objs.size ≤ D → Q (.ref D) ⟨h', g, d, t, o⟩) :
    wpAny (model pr w) A (newList xs) Q E ⟨h, g, d, t, o⟩ := by
  obtain ⟨B', F', l, e, n1, n2⟩ := kPush (ob := { cls := .type "list", data := .seq xs.toArray }) F rfl
  exact wpAny_newList (H _ _ B' F' l ⟨0, e⟩ n1 n2 (Nat.le_refl _))
/-- a tuple that stands at a -/
def TupAt (h : Heap) (a : Addr) (xs : List Value) : Prop := ∃ n, h.get? a = some { cls := .type "tuple", data := .seq xs.toArray n }
theorem TupAt.mv {h h' : Heap} {a : Addr} {xs : List Value} (l : TupAt h a xs) (k : ∀ o, h.get? a = some o → h'.get? a = some o) : TupAt h' a xs := let ⟨n, e⟩ := l; ⟨n, k _ e⟩
theorem TupAt.kp {h h' : Heap} {a : Addr} {xs : List Value} {W : Addr → Prop} (l : TupAt h a xs) (k : Kp W h h') (hw : ¬ W a) : TupAt h' a xs := let ⟨n, e⟩ := l; ⟨n, k _ _ hw e⟩
theorem kNewTup {xs : List Value} {Q : Value → Shared → Prop} (F : Fm B L h m) (hz : xs.length ≤ sizeLine)
    (H : ∀ D h' B', Fm B' L h' m → Le B B' → TupAt B' D xs → B.get? D = none → h.get? D = none → h.objs.size ≤ D → Q (.ref D) ⟨h', g, d, t, o⟩) :
    wpAny (model pr w) A (newTuple xs) Q E ⟨h, g, d, t, o⟩ := by
  obtain ⟨B', F', l, e, n1, n2⟩ := kPush (ob := { cls := .type "tuple", data := .seq xs.toArray }) F rfl
  exact wpAny_newTuple (H _ _ B' F' l ⟨0, e⟩ n1 n2 (Nat.le_refl _))
theorem kIterL {a : Addr} {xs : List Value} {Q : Value → Shared → Prop} (F : Fm B L h m) (hl : ListAt B a xs)
    (H : ∀ it h' B', Fm B' L h' m → Le B B' → Le h h' → h.get? it = none → a ≠ it → LIt it a xs (fun b => b = a) (fun b => b = it) noneG h' g → Q (.ref it) ⟨h', g, d, t, o⟩) :
    wpAny (model pr w) A (pyIter (.ref a)) Q E ⟨h, g, d, t, o⟩ := by
  obtain ⟨n, e⟩ := hl.le F.keep
  refine wpAny_pyIter_list (hl.le F.keep).isList ?_
  have k : Le h (h.push { cls := .type "list_iterator", data := .fields #[.ref a, .int 0 0] }) := fun b o e => Heap.get?_push_of_some _ e
  obtain ⟨B', F', kB, up⟩ := F.after (Le.kp k none1) id
  have hL : h.get? h.objs.size = none := get_new
  refine H h.objs.size _ B' F' kB.le k hL (fun q => by rw [q, hL] at e; cases e) ⟨fun _ => Iff.rfl, fun _ => Iff.rfl, fun _ => id, 0, xs.toArray, ⟨_, Heap.get?_push_size _ rfl, rfl, rfl⟩, ((hl.le F.keep).le k).isList, by simp⟩

theorem mCall {s : Shared} {ob : Expr} {es : List Expr} {name : Str} {apos pos : Pos} {env : Env} {Q : Value → Shared → Prop}
    (hbase : attributeBase ob name env (eval ob env) = eval ob env) (hline : (apos.endLine == pos.line) = true)
    (hfew : ((backTo pos (starEach es env)).all (fun x => !x.1) && (backToKw pos (keywordEach [] env)).all (fun x => x.1.isSome)
      && decide (es.length + ([] : List Keyword).length + (if ([] : List Keyword).isEmpty then 0 else 1) < 30)) = true)
    (H : wpAny (model pr w) A (eval ob env) (fun ov s₁ => ∀ pl, wpAny (model pr w) A (getMethod ov name pl) (fun f s₂ => wpAny (model pr w) A (callWith pos f.1 f.2 (backTo pos (starEach es env)) []) Q E s₂) E s₁) E s) :
    wpAny (model pr w) A (eval (.Call (.Attribute ob name apos) es [] pos) env) Q E s := by
  rw [arm_eval_Call, hbase]
  refine wpAny_bind (wpAny_mono H (fun ov s₁ h₁ => ?_) fun _ _ e => e)
  refine wpAny_bind (wpAny_standAt ?_)
  have hform : methodCallForm (es.length + ([] : List Keyword).length) (backTo pos (starEach es env)) (backToKw pos (keywordEach [] env)) = true := hfew
  have hpos : methodCallPos true ob env apos pos = pure pos := by unfold methodCallPos; simp [hline]
  unfold methodCall
  rw [hform]
  unfold calleeOf
  simp only [if_true]
  refine wpAny_bind (wpAny_holding (wpAny_mono (h₁ _) (fun f s₂ h₂ => ?_) fun _ _ e => e))
  exact wpAny_bind (wpAny_of_eq hpos h₂)

/-- a function of the top called by name or by method: its arguments, then the call -/
theorem cwK {s : Shared} {f : Value} {first : List Value} {es : List Expr} {pos : Pos} {env : Env} {Q : Value → Shared → Prop} (hk : keepIn (KK w) f = true)
    (hplain : ((backTo pos (starEach es env)).any (·.1) || false) = false)
    (H : wpAny (model pr w) A (evalArgs f true (backTo pos (starEach es env)) []) (fun a s₁ => (KK w).In s₁.heap ∧ wpAny (model pr w) A (call f (first ++ a.pos) a.kw) Q E s₁) E s) :
    wpAny (model pr w) A (callWith pos f first (backTo pos (starEach es env)) []) Q E s :=
  callWith_of hplain (keeps_K hk) H
/-- the top stands, then P -/
def KC (w : World) (h : Heap) (P : Prop) : Prop := (KK w).In h ∧ P
theorem kc {z : Nat} {P : Prop} (G : Grd w z B) (F : Fm B L h m) (H : P) : KC w h P := ⟨(G.le F.keep).k, H⟩
theorem cwK1 {s : Shared} {f : Value} {first : List Value} {e : Expr} {pos : Pos} {env : Env} {Q : Value → Shared → Prop} (hk : keepIn (KK w) f = true) (htrees : backTo pos (starEach [e] env) = [(false, eval e env)])
    (H : wpAny (model pr w) A (eval e env) (fun v s₁ => KC w s₁.heap (wpAny (model pr w) A (call f (first ++ [v])) Q E s₁)) E s) :
    wpAny (model pr w) A (callWith pos f first (backTo pos (starEach [e] env)) []) Q E s := by
  refine cwK hk (by rw [htrees]; rfl) ?_
  rw [htrees]
  exact evalArgs_plain (spliced_cons (wpAny_mono H (fun v s₁ h₁ => spliced_nil h₁) fun _ _ x => x))
theorem cwK2 {s : Shared} {f : Value} {first : List Value} {e e' : Expr} {pos : Pos} {env : Env} {Q : Value → Shared → Prop} (hk : keepIn (KK w) f = true) (htrees : backTo pos (starEach [e, e'] env) = [(false, eval e env), (false, eval e' env)])
    (H : wpAny (model pr w) A (eval e env) (fun v s₁ => wpAny (model pr w) A (eval e' env) (fun v' s₂ => KC w s₂.heap (wpAny (model pr w) A (call f (first ++ [v, v'])) Q E s₂)) E s₁) E s) :
    wpAny (model pr w) A (callWith pos f first (backTo pos (starEach [e, e'] env)) []) Q E s := by
  refine cwK hk (by rw [htrees]; rfl) ?_
  rw [htrees]
  exact evalArgs_plain (spliced_cons (wpAny_mono H (fun v s₁ h₁ => spliced_cons (wpAny_mono h₁ (fun v' s₂ h₂ => spliced_nil h₂) fun _ _ x => x)) fun _ _ x => x))
theorem cwK3 {s : Shared} {f : Value} {first : List Value} {e e' e'' : Expr} {pos : Pos} {env : Env} {Q : Value → Shared → Prop} (hk : keepIn (KK w) f = true) (htrees : backTo pos (starEach [e, e', e''] env) = [(false, eval e env), (false, eval e' env), (false, eval e'' env)])
    (H : wpAny (model pr w) A (eval e env) (fun v s₁ => wpAny (model pr w) A (eval e' env) (fun v' s₂ => wpAny (model pr w) A (eval e'' env) (fun v'' s₃ => KC w s₃.heap (wpAny (model pr w) A (call f (first ++ [v, v', v''])) Q E s₃)) E s₂) E s₁) E s) :
    wpAny (model pr w) A (callWith pos f first (backTo pos (starEach [e, e', e''] env)) []) Q E s := by
  refine cwK hk (by rw [htrees]; rfl) ?_
  rw [htrees]
  exact evalArgs_plain (spliced_cons (wpAny_mono H (fun v s₁ h₁ => spliced_cons (wpAny_mono h₁ (fun v' s₂ h₂ => spliced_cons (wpAny_mono h₂ (fun v'' s₃ h₃ => spliced_nil h₃) fun _ _ x => x)) fun _ _ x => x)) fun _ _ x => x))
theorem cwK4 {s : Shared} {f : Value} {first : List Value} {e e' e'' e₃ : Expr} {pos : Pos} {env : Env} {Q : Value → Shared → Prop} (hk : keepIn (KK w) f = true) (htrees : backTo pos (starEach [e, e', e'', e₃] env) = [(false, eval e env), (false, eval e' env), (false, eval e'' env), (false, eval e₃ env)])
    (H : wpAny (model pr w) A (eval e env) (fun v s₁ => wpAny (model pr w) A (eval e' env) (fun v' s₂ => wpAny (model pr w) A (eval e'' env) (fun v'' s₃ => wpAny (model pr w) A (eval e₃ env) (fun v₃ s₄ => KC w s₄.heap (wpAny (model pr w) A (call f (first ++ [v, v', v'', v₃])) Q E s₄)) E s₃) E s₂) E s₁) E s) :
    wpAny (model pr w) A (callWith pos f first (backTo pos (starEach [e, e', e'', e₃] env)) []) Q E s := by
  refine cwK hk (by rw [htrees]; rfl) ?_
  rw [htrees]
  exact evalArgs_plain (spliced_cons (wpAny_mono H (fun v s₁ h₁ => spliced_cons (wpAny_mono h₁ (fun v' s₂ h₂ => spliced_cons (wpAny_mono h₂ (fun v'' s₃ h₃ => spliced_cons (wpAny_mono h₃ (fun v₃ s₄ h₄ => spliced_nil h₄) fun _ _ x => x)) fun _ _ x => x)) fun _ _ x => x)) fun _ _ x => x))
end
section
variable {w : World} {z : Nat} {A : Around} {E : Value → Shared → Prop} {B h : Heap} {L : Addr} {m : Str → Option Value} {g : Array GenState} {d : Drawn} {t : Nat} {o : OsState}
/-- a node (or the root): its class C, its dict d, its children c -/
structure Nd (h : Heap) (C a d c : Addr) : Prop where
  ex : ∃ es n, Inst h a C d es n ∧ getL "children" es = some (some (.ref c)) ∧ getL "at_depth" es = some none ∧ getL "walk_up" es = some none ∧ getL "add_child" es = some none ∧ getL "remove_child" es = some none ∧ es.length ≤ 10
theorem Nd.mv {h h' : Heap} {C a d c : Addr} (x : Nd h C a d c) (k : ∀ b o, (b = a ∨ b = d) → h.get? b = some o → h'.get? b = some o) : Nd h' C a d c :=
  let ⟨es, n, i, r⟩ := x.ex; ⟨es, n, ⟨k _ _ (.inl rfl) i.ob, k _ _ (.inr rfl) i.dt⟩, r⟩
def Cls (C : Addr) : Prop := C = 59 ∨ C = 80
theorem Nd.kids {C a dd c : Addr} {expr : Bool} {Q : Value → Shared → Prop} (hC : Cls C) (G : Grd w z B) (F : Fm B L h m) (x : Nd B C a dd c) (H : ∀ t', Q (.ref c) ⟨h, g, d, t', o⟩) :
    wpAny (model pr w) A (getAttr (.ref a) "children" expr) Q E ⟨h, g, d, t, o⟩ := by
  obtain ⟨es, n, i, e, _⟩ := x.ex
  rcases hC with rfl | rfl
  · exact getA G F i rfl rfl rfl rfl e rfl H
  · exact getA G F i rfl rfl rfl rfl e rfl H
theorem Nd.atDepth {C a dd c : Addr} {pl : Sem Bool} {Q : Value × List Value → Shared → Prop} (hC : Cls C) (G : Grd w z B) (F : Fm B L h m) (x : Nd B C a dd c) (H : Q (.ref 49, [.ref a]) ⟨h, g, d, t, o⟩) :
    wpAny (model pr w) A (getMethod (.ref a) "at_depth" pl) Q E ⟨h, g, d, t, o⟩ := by
  obtain ⟨es, n, i, _, e, _⟩ := x.ex
  rcases hC with rfl | rfl
  · exact methA G F i rfl rfl rfl e H
  · exact methA G F i rfl rfl rfl e H
theorem Nd.walkUp {C a dd c : Addr} {pl : Sem Bool} {Q : Value × List Value → Shared → Prop} (hC : Cls C) (G : Grd w z B) (F : Fm B L h m) (x : Nd B C a dd c) (H : Q (.ref 56, [.ref a]) ⟨h, g, d, t, o⟩) :
    wpAny (model pr w) A (getMethod (.ref a) "walk_up" pl) Q E ⟨h, g, d, t, o⟩ := by
  obtain ⟨es, n, i, _, _, e, _⟩ := x.ex
  rcases hC with rfl | rfl
  · exact methA G F i rfl rfl rfl e H
  · exact methA G F i rfl rfl rfl e H

theorem Nd.addM {C a dd c : Addr} {pl : Sem Bool} {Q : Value × List Value → Shared → Prop} (hC : Cls C) (G : Grd w z B) (F : Fm B L h m) (x : Nd B C a dd c) (H : Q (.ref 35, [.ref a]) ⟨h, g, d, t, o⟩) :
    wpAny (model pr w) A (getMethod (.ref a) "add_child" pl) Q E ⟨h, g, d, t, o⟩ := by
  obtain ⟨es, n, i, _, _, _, e, _⟩ := x.ex
  rcases hC with rfl | rfl
  · exact methA G F i rfl rfl rfl e H
  · exact methA G F i rfl rfl rfl e H
theorem Nd.removeM {C a dd c : Addr} {pl : Sem Bool} {Q : Value × List Value → Shared → Prop} (hC : Cls C) (G : Grd w z B) (F : Fm B L h m) (x : Nd B C a dd c) (H : Q (.ref 42, [.ref a]) ⟨h, g, d, t, o⟩) :
    wpAny (model pr w) A (getMethod (.ref a) "remove_child" pl) Q E ⟨h, g, d, t, o⟩ := by
  obtain ⟨es, n, i, _, _, _, _, e, _⟩ := x.ex
  rcases hC with rfl | rfl
  · exact methA G F i rfl rfl rfl e H
  · exact methA G F i rfl rfl rfl e H
/-- the methods of a node -/
inductive Mth : Str → Addr → Prop
  | m1 : Mth (Str.ofString "add_child") 35
  | m2 : Mth (Str.ofString "remove_child") 42
  | m3 : Mth (Str.ofString "at_depth") 49
  | m4 : Mth (Str.ofString "walk_up") 56
theorem Nd.meth {C a dd c f : Addr} {n : Str} {pl : Sem Bool} {Q : Value × List Value → Shared → Prop} (hm : Mth n f) (hC : Cls C) (G : Grd w z B) (F : Fm B L h m) (x : Nd B C a dd c) (H : Q (.ref f, [.ref a]) ⟨h, g, d, t, o⟩) :
    wpAny (model pr w) A (getMethod (.ref a) n pl) Q E ⟨h, g, d, t, o⟩ := by
  cases hm with
  | m1 => exact Nd.addM hC G F x H
  | m2 => exact Nd.removeM hC G F x H
  | m3 => exact Nd.atDepth hC G F x H
  | m4 => exact Nd.walkUp hC G F x H
theorem mCallM {f : Addr} {s : Shared} {ob : Expr} {es : List Expr} {name : Str} {apos pos : Pos} {env : Env} {Q : Value → Shared → Prop} (hm : Mth name f)
    (hbase : attributeBase ob name env (eval ob env) = eval ob env) (hline : (apos.endLine == pos.line) = true)
    (hfew : ((backTo pos (starEach es env)).all (fun x => !x.1) && (backToKw pos (keywordEach [] env)).all (fun x => x.1.isSome)
      && decide (es.length + ([] : List Keyword).length + (if ([] : List Keyword).isEmpty then 0 else 1) < 30)) = true)
    (H : wpAny (model pr w) A (eval ob env) (fun ov s₁ => ∀ pl, wpAny (model pr w) A (getMethod ov name pl) (fun f s₂ => wpAny (model pr w) A (callWith pos f.1 f.2 (backTo pos (starEach es env)) []) Q E s₂) E s₁) E s) :
    wpAny (model pr w) A (eval (.Call (.Attribute ob name apos) es [] pos) env) Q E s := mCall hbase hline hfew H
/-- the built-ins that the text names -/
inductive Blt : Str → Value → Prop
  | b1 : Blt (Str.ofString "abs") (.builtin "abs")
  | b2 : Blt (Str.ofString "min") (.builtin "min")
  | b3 : Blt (Str.ofString "len") (.builtin "len")
  | b4 : Blt (Str.ofString "str") (.type "str")
  | b5 : Blt (Str.ofString "tuple") (.type "tuple")
  | b6 : Blt (Str.ofString "range") (.type "range")
  | b7 : Blt (Str.ofString "set") (.type "set")
  | b8 : Blt (Str.ofString "list") (.type "list")
theorem Blt.boot {x : Str} {v : Value} (b : Blt x v) : bootBuiltins x = some v := by cases b <;> with_unfolding_all rfl
theorem Blt.none {x : Str} {v : Value} (b : Blt x v) : nsIn (KK w) mainGlobals x = some none := by cases b <;> with_unfolding_all rfl
theorem Blt.nn {x : Str} {v : Value} (b : Blt x v) : x ≠ "__name__" := by cases b <;> decide
theorem Blt.nd {x : Str} {v : Value} (b : Blt x v) : (x == ("__debug__" : Str)) = false := by cases b <;> decide
theorem eBuilt4 {x : Str} {pos : Pos} {v : Value} {env : Env} {Q : Value → Shared → Prop} (u : Blt x v) (hx : env.kindOf x = some .globalImplicit) (F : Fm B L h m) (G : Grd w z B) (hk : env.scope.kind = .function) (hg : env.globals = mainGlobals)
    (hb : env.builtins = builtinsNs) (H : Q v ⟨h, g, d, t, o⟩) :
    wpAny (model pr w) A (eval (.Name x pos) env) Q E ⟨h, g, d, t, o⟩ := eBuilt G F u.none u.boot u.nn hg hb hk hx u.nd H
theorem Nd.kp {h h' : Heap} {C a d c : Addr} {W : Addr → Prop} (x : Nd h C a d c) (k : Kp W h h') (na : ¬ W a) (nd : ¬ W d) : Nd h' C a d c :=
  x.mv fun b o q e => k b o (by rcases q with rfl | rfl <;> assumption) e
end
end Mine
end

section
set_option compiler.extract_closed false
open PySem.W.X
open PySem PySem.W PyProof.Rows PySem.Calls
set_option maxRecDepth 100000
set_option maxHeartbeats 1000000
set_option linter.unusedVariables false
namespace Mine
local macro_rules | `(tactic| ktr_units) => `(tactic| first | assumption | exact Kp.refl _ _ | (refine' Kp.step ?a9 ?k9 ?w9; (case k9 => assumption); (case a9 => ktr_units); (case w9 => (intro p9 h9; first | exact h9 | exact Or.inl h9 | exact Or.inr h9 | (simp only at h9 ⊢; omega) | exact h9.elim))))
local macro_rules | `(tactic| ktr_room) => `(tactic| first | assumption | (intro e9; first | omega | (subst e9; first | contradiction | omega)))
local macro_rules | `(tactic| ktr_rel) => `(tactic| first | assumption | (refine' ListAt.kp ?l9 ?k9 ?n9; (case k9 => assumption); (case l9 => ktr_rel); (case n9 => ktr_room)))
local macro_rules | `(tactic| walk_at "eval Name") => `(tactic| first
  | (refine eLocal (by assumption) (by rfl) (by rfl) (by rfl) (by rfl) (by decide) ?_)
  | (refine' eGlob ?G ?F ?e ?a ?b ?c ?d ?_; (case F => assumption); (case G => ktr_rel); (case e => rfl); (case a => rfl); (case b => rfl); (case c => rfl); (case d => decide); (try dsimp only)))
local macro_rules | `(tactic| walk_at "eval Constant int") => `(tactic| (refine kInt ?_; intro tk' t'))
local macro_rules | `(tactic| walk_at "eval Constant str") => `(tactic| (refine kStr ?_; intro tk' t'))
local macro_rules | `(tactic| walk_at "storeName") => `(tactic| (refine kStore (by assumption) (by rfl) (by rfl) (by rfl) ?_; intro h' t' F'))
local macro_rules | `(tactic| walk_at "truthy ref") => `(tactic| ((refine' kTruthyL ?F ?l ?n ?_); (case F => assumption); (case l => ktr_rel); (case n => first | (simp only [List.length_cons, List.length_nil] at *; omega) | omega); intro t'; (try simp only [List.isEmpty_nil, List.isEmpty_cons, Bool.not_true, Bool.not_false])))
local macro_rules | `(tactic| walk_at "subscriptTail") => `(tactic| ((with_reducible show wpAny _ _ (subscriptTail _ _ (Value.ref _) (Value.int _ _)) _ _ _); (refine' eItem ?F ?l ?a ?b ?c ?d ?_); (case F => assumption); (case l => ktr_rel); (case a => first | decide | omega); (case b => first | decide | omega); (case c => first | rfl | assumption); (case d => with_unfolding_all rfl)))
local macro_rules | `(tactic| walk_at "setItem") => `(tactic| ((with_reducible show wpAny _ _ (setItem (Value.ref _) (Value.int _ _) _) _ _ _); (refine' kSetItem ?F ?l ?a ?b ?c ?_); (case F => assumption); (case l => ktr_rel); (case a => first | decide | omega); (case b => first | decide | omega); (case c => first | (simp only [List.length_cons, List.length_nil]; omega) | assumption); intro h' B' F' K' l'; (try simp only [Int.reduceToNat, List.set_cons_zero, List.set_cons_succ] at l')))
local macro_rules | `(tactic| walk_at "binaryOp Add int int") => `(tactic| (refine kAdd ?_; intro tk' t'))
local macro_rules | `(tactic| walk_at "binaryOp Sub int int") => `(tactic| (refine kSub ?_; intro tk' t'))
local macro_rules | `(tactic| walk_at "binaryOp Mult int int") => `(tactic| (refine kMul (by mul_fits) ?_; intro tk' t'))
local macro_rules | `(tactic| walk_at "binaryOp Mod int int") => `(tactic| (refine kMod (by omega) (by omega) ?_; intro tk' t'))
local macro_rules | `(tactic| walk_at "binaryOp FloorDiv int int") => `(tactic| (refine kDiv (by omega) (by omega) (PyProof.noPylong_small (by omega)) ?_; intro tk' t'))
local macro_rules | `(tactic| walk_at "eval Call Attribute") => `(tactic| ((with_reducible show wpAny _ _ (eval (Expr.Call (Expr.Attribute _ _ _) [_] [] _) _) _ _ _); first
  | (refine' lCall1 (id := "list.pop") ?a ?b ?c PySem.F.slot_list_pop PySem.F.type_list_pop ?_; (case a => rfl); (case b => rfl); (case c => rfl))
  | (refine' lCall1 (id := "list.append") ?a ?b ?c slot_list_append type_list_append ?_; (case a => rfl); (case b => rfl); (case c => rfl))
  | (refine' lCall1 (id := "list.extend") ?a ?b ?c PySem.F.slot_list_extend PySem.F.type_list_extend ?_; (case a => rfl); (case b => rfl); (case c => rfl))
  | (refine' lCall1 (id := "list.remove") ?a ?b ?c PySem.F.slot_list_remove PySem.F.type_list_remove ?_; (case a => rfl); (case b => rfl); (case c => rfl))))
local macro_rules | `(tactic| walk_at "LOn") => `(tactic| (refine' lOn ?F ?l ?_; (case F => assumption); (case l => ktr_rel)))
local macro_rules | `(tactic| walk_at "call builtin:list.append") => `(tactic| ((refine' lAppend ?F ?l ?z ?_); (case F => assumption); (case l => ktr_rel); (case z => (simp only [sizeLine_eq, List.length_cons, List.length_nil, List.length_append] at *; omega)); intro h' B' F' K' l'))
local macro_rules | `(tactic| walk_at "call builtin:list.pop") => `(tactic| ((refine' lPop ?F ?l ?z ?a ?x ?_); (case F => assumption); (case l => ktr_rel); (case z => (simp only [sizeLine_eq, List.length_cons, List.length_nil, List.length_append] at *; omega)); (case a => first | decide | omega); (case x => first | rfl | assumption); intro h' B' F' K' l'; (try simp only [Int.reduceToNat, List.eraseIdx_zero, List.tail_cons] at l')))
def IntIn (lo hi : Int) (v : Value) : Prop := ∃ i t, v = .int i t ∧ lo ≤ i ∧ i < hi
abbrev big : Int := 2147483648
/-- the law's state: where its lists lie -/
structure StAt (z : Nat) (h : Heap) (a q : Addr) : Prop where
  st : ∃ c t1 sd t2, ListAt h a [.ref q, .int c t1, .int sd t2] ∧ 0 ≤ c ∧ c < big ∧ 0 ≤ sd ∧ sd < big
  qs : ∃ vs, ListAt h q vs ∧ (∀ v ∈ vs, IntIn 0 big v) ∧ vs.length ≤ 100
  za : z ≤ a
  zq : z ≤ q
  ne : a ≠ q
section
variable {w : World} {z : Nat} {A : Around} {E : Value → Shared → Prop} {s : Shared}
theorem take_spec {a q : Addr} {many : Int} {tm : Tok} {Q : Value → Shared → Prop} (G : Grd w z s.heap) (hroom : A.depth + 10 < recursionLimit) (S : StAt z s.heap a q) (hm : 1 ≤ many) (hm2 : many < 1000)
    (h : ∀ r tr h' tk, 0 ≤ r → r < many → Kp (fun b => b = a ∨ b = q) s.heap h' → StAt z h' a q → Q (.int r tr) { s with heap := h', toks := tk }) :
    wpAny (model pr w) A (call (.ref 94) [.ref a, .int many tm]) Q E s := by
  obtain ⟨⟨c, t1, sd, t2, hl, c0, c1, d0, d1⟩, ⟨vs, hq, hi, hn⟩, za, zq, ne⟩ := S
  refine callF (binds := [(Str.ofString "state", .ref a), (Str.ofString "many", .int many tm)]) G rfl rfl rfl rfl (by omega) rfl rfl rfl rfl rfl rfl ?_
  intro h₁ F env A'
  have fin : ∀ h' B' t' (c' sd' r : Int) u1 u2 u3 vs' m, Fm B' s.heap.objs.size h' m → Kp (fun b => b = a ∨ b = q) s.heap B' → ListAt B' a [.ref q, .int c' u1, .int sd' u2] → ListAt B' q vs' →
      (∀ v ∈ vs', IntIn 0 big v) → vs'.length ≤ 100 → 0 ≤ c' → c' < big → 0 ≤ sd' → sd' < big → 0 ≤ r → r < many → Q (.int r u3) ⟨h', s.gens, s.drawn, t', s.os⟩ := by
    intro h' B' t' c' sd' r u1 u2 u3 vs' m F K l1 l2 e1 e2 e3 e4 e5 e6 e7 e8
    refine h r u3 h' t' e7 e8 ((K.trans F.out).wide fun p hp => hp.elim id False.elim) ⟨⟨c', u1, sd', u2, l1.le F.keep, e3, e4, e5, e6⟩, ⟨vs', l2.le F.keep, e1, e2⟩, za, zq, ne⟩
  have kk : ∀ x y : Int, 0 ≤ x → 0 < y → 0 ≤ x % y ∧ x % y < y ∧ 0 ≤ x / y ∧ x / y ≤ x := fun x y hx hy =>
    ⟨Int.emod_nonneg _ (by omega), Int.emod_lt_of_pos _ hy, Int.ediv_nonneg hx (by omega), Int.ediv_le_self _ hx⟩
  have ne' : ¬ q = a := fun e => ne e.symm
  rcases vs with _ | ⟨v, vs⟩
  · have q1 := kk c many c0 (by omega)
    have q0 := kk (sd * 48271 + 11) 2147483647 (by omega) (by omega)
    have q2 := kk ((sd * 48271 + 11) % 2147483647) many (by omega) (by omega)
    have q3 : (sd * 48271 + 11) % 2147483647 < big := Int.lt_of_lt_of_le q0.2.1 (by decide)
    have q4 := Int.lt_of_le_of_lt q2.2.2.2 q3
    repeat' walk1
    all_goals (refine fin _ _ _ _ _ _ _ _ _ _ _ (by assumption) ?_ (by ktr_rel) (by ktr_rel) ?_ ?_ ?_ ?_ ?_ ?_ ?_ ?_)
    all_goals first | ktr_units | assumption | omega | (intro v9 h9; exact hi v9 (by first | exact h9 | exact .tail _ h9)) | (simp only [List.length_cons] at *; omega) | skip
  · obtain ⟨v0, vt, rfl, v1, v2⟩ := hi v (.head _)
    have q1 := kk c many c0 (by omega)
    have q2 := kk v0 many v1 (by omega)
    repeat' walk1
    all_goals (refine fin _ _ _ _ _ _ _ _ _ _ _ (by assumption) ?_ (by ktr_rel) (by ktr_rel) ?_ ?_ ?_ ?_ ?_ ?_ ?_ ?_)
    all_goals first | ktr_units | assumption | omega | (intro v9 h9; exact hi v9 (by first | exact h9 | exact .tail _ h9)) | (simp only [List.length_cons] at *; omega) | skip
end
local macro_rules | `(tactic| walk_at "eval Name") => `(tactic| (refine eBuilt4 (by with_reducible constructor) (by with_unfolding_all rfl) (by assumption) (by ktr_rel) (by with_unfolding_all rfl) (by with_unfolding_all rfl) (by with_unfolding_all rfl) ?_))
local macro_rules | `(tactic| walk_at "call type:list") => `(tactic| (refine' kListNew ?F ?l ?z ?_; (case F => assumption); (case l => ktr_rel); (case z => first | assumption | (simp only [sizeLine_eq] at *; omega)); intro D' h' B' F' K' l' n' nh'; (have K' := Le.kp K' none1)))
local macro_rules | `(tactic| ktr_rel) => `(tactic| (refine' Nd.kp ?l9 ?k9 ?n9 ?m9; (case k9 => assumption); (case l9 => ktr_rel); (case n9 => ktr_room); (case m9 => ktr_room)))
local macro_rules | `(tactic| walk_at "getAttr ref") => `(tactic| ((with_reducible show wpAny _ _ (getAttr _ (PySem.Str.ofString "children") _) _ _ _); refine' Nd.kids ?C ?G ?F ?x ?_; (case F => assumption); (case x => ktr_rel); (case C => first | assumption | exact .inr rfl | exact .inl rfl); (case G => ktr_rel); intro t'))
local macro_rules | `(tactic| walk_at "pyIter ref") => `(tactic| (refine' kIterL ?F ?l ?_; (case F => assumption); (case l => ktr_rel); intro it' h' B' F' K' k' n' e' I'; (have K' := Le.kp K' none1)))
local macro_rules | `(tactic| walk_at "eval Name") => `(tactic| (refine eLocal (by assumption) (by first | (rw [if_pos rfl]) | (rw [if_neg (by decide)]; assumption)) (by rfl) (by rfl) (by rfl) (by decide) ?_))
local macro_rules | `(tactic| walk_at "exec Assign") => `(tactic| ((with_reducible show wpAny _ _ (exec (Stmt.Assign [Expr.Attribute _ _ _] _ _) _) _ _ _); refine plainObj_wpAny_Assign_Attribute ?_))
local macro_rules | `(tactic| walk_at "newList") => `(tactic| (refine' kNewList ?F ?z ?_; (case F => assumption); (case z => first | decide | (simp only [sizeLine_eq, List.length_cons, List.length_nil] at *; omega)); intro D' h' B' F' K' l' n' nh' zz'; (have K' := Le.kp K' none1)))
local macro_rules | `(tactic| walk_at "newTuple") => `(tactic| (refine' kNewTup ?F ?z ?_; (case F => assumption); (case z => first | decide | (simp only [sizeLine_eq, List.length_cons, List.length_nil] at *; omega)); intro D' h' B' F' K' l' n' nh' zz'; (have K' := Le.kp K' none1)))
local macro_rules | `(tactic| ktr_rel) => `(tactic| (refine' TupAt.kp ?l9 ?k9 ?n9; (case k9 => assumption); (case l9 => ktr_rel); (case n9 => ktr_room)))
local macro_rules | `(tactic| ktr_rel) => `(tactic| (refine' Grd.kp ?l9 ?k9 ?n9; (case k9 => assumption); (case l9 => ktr_rel); (case n9 => (intro b9 e9; first | exact e9.elim | (subst e9; assumption) | omega))))
local macro_rules | `(tactic| ktr_rel) => `(tactic| assumption)
local macro_rules | `(tactic| walk_at "callWith ref") => `(tactic| first | (refine cwK1 rfl rfl ?_) | (refine cwK2 rfl rfl ?_) | (refine cwK3 rfl rfl ?_) | (refine cwK4 rfl rfl ?_))
local macro_rules | `(tactic| walk_at "KC") => `(tactic| (refine' kc ?G ?F ?_; (case F => assumption); (case G => ktr_rel)))
local macro_rules | `(tactic| walk_at "eval Call Attribute") => `(tactic| (refine' mCallM ?m ?a ?b ?c ?_; (case m => with_reducible constructor); (case a => rfl); (case b => rfl); (case c => rfl)))
local macro_rules | `(tactic| walk_at "getMethod ref") => `(tactic| (refine' Nd.meth ?m ?C ?G ?F ?x ?_; (case m => with_reducible constructor); (case F => assumption); (case x => ktr_rel); (case C => first | assumption | exact .inr rfl | exact .inl rfl); (case G => ktr_rel); (try dsimp only)))

/-- the nodes of a depth, each with its parent's list -/
noncomputable def lv : Nat → Fo → Addr → List (NLab × Addr)
  | _, .nil, _ => []
  | 0, .cons x _ r, pc => (x, pc) :: lv 0 r pc
  | k + 1, .cons x ks r, pc => lv k ks x.c ++ lv (k + 1) r pc
/-- the nodes down to a depth, each behind its children -/
noncomputable def wk : Nat → Fo → Addr → List (NLab × Addr)
  | _, .nil, _ => []
  | 0, .cons x _ r, pc => (x, pc) :: wk 0 r pc
  | k + 1, .cons x ks r, pc => wk k ks x.c ++ (x, pc) :: wk (k + 1) r pc
/-- what at_depth reads of the nodes -/
noncomputable def Rd : Nat → Fo → List Addr
  | _, .nil => []
  | 0, .cons _ _ _ => []
  | k + 1, .cons x ks r => x.a :: x.d :: x.c :: (Rd k ks ++ Rd (k + 1) r)
def NdS (h : Heap) : Nat → Fo → Prop
  | _, .nil => True
  | 0, .cons _ _ _ => True
  | k + 1, .cons x ks r => Nd h 80 x.a x.d x.c ∧ ListAt h x.c ks.refs ∧ NdS h k ks ∧ NdS h (k + 1) r
def vl (x : NLab × Addr) (v : Value) (R : Addr → Prop) : Prop := v = .ref x.1.a ∧ ¬ R x.2

theorem refs_le : ∀ f : Fo, f.refs.length ≤ f.size
  | .nil => Nat.le_refl _
  | .cons x k r => by have := refs_le r; simp only [Fo.refs, Fo.size, List.length_cons]; omega
theorem NdS.mv {h h' : Heap} : ∀ (k : Nat) (f : Fo), NdS h k f → (∀ b o, b ∈ Rd k f → h.get? b = some o → h'.get? b = some o) → NdS h' k f
  | _, .nil, _, _ => by simp [NdS]
  | 0, .cons .., _, _ => by simp [NdS]
  | k + 1, .cons x ks r, q, kp => by
    simp only [NdS] at q ⊢
    simp only [Rd, List.mem_cons, List.mem_append] at kp
    obtain ⟨q1, ⟨n, q2⟩, q3, q4⟩ := q
    exact ⟨q1.mv fun b o e => kp b o (by rcases e with rfl | rfl <;> simp), ⟨n, kp _ _ (.inr (.inr (.inl rfl))) q2⟩, NdS.mv k ks q3 fun b o e => kp b o (by simp [e]), NdS.mv (k + 1) r q4 fun b o e => kp b o (by simp [e])⟩
theorem NdS.there {h : Heap} : ∀ (k : Nat) (f : Fo), NdS h k f → ∀ b ∈ Rd k f, ∃ o, h.get? b = some o
  | _, .nil, _, b, hb => by simp [Rd] at hb
  | 0, .cons .., _, b, hb => by simp [Rd] at hb
  | k + 1, .cons x ks r, q, b, hb => by
    simp only [NdS] at q
    simp only [Rd, List.mem_cons, List.mem_append] at hb
    obtain ⟨⟨es, n', i, _⟩, ⟨n, q2⟩, q3, q4⟩ := q
    rcases hb with rfl | rfl | rfl | hb | hb
    · exact ⟨_, i.ob⟩
    · exact ⟨_, i.dt⟩
    · exact ⟨_, q2⟩
    · exact NdS.there k ks q3 b hb
    · exact NdS.there (k + 1) r q4 b hb
theorem rd0 : ∀ f : Fo, Rd 0 f = []
  | .nil => rfl
  | .cons .. => rfl
theorem nds0 (h : Heap) : ∀ f : Fo, NdS h 0 f
  | .nil => by simp [NdS]
  | .cons .. => by simp [NdS]
theorem rd_split {k : Nat} {x : NLab} {ks r : Fo} {c : Addr} (n : (c :: Rd (k + 1) (.cons x ks r)).Nodup) : (x.c :: x.a :: x.d :: Rd k ks).Nodup ∧ (c :: Rd (k + 1) r).Nodup ∧ ∀ b, b = x.c ∨ b ∈ Rd k ks → b ∉ Rd (k + 1) r := by
  simp only [Rd, List.nodup_cons, List.mem_cons, List.mem_append, List.nodup_append, not_or] at n ⊢
  obtain ⟨⟨a1, a2, a3, a4, a5⟩, ⟨b1, b2, b3, b4⟩, ⟨c1, c2, c3⟩, ⟨d1, d2⟩, e1, e2, e3⟩ := n
  refine ⟨⟨⟨fun q => b2 q.symm, fun q => c1 q.symm, d1⟩, ⟨b1, b3⟩, c2, e1⟩, ⟨a5, e2⟩, fun b q q' => ?_⟩
  rcases q with rfl | q
  · exact d2 q'
  · exact e3 b q b q' rfl
theorem lv_mem : ∀ (k : Nat) (f : Fo) (pc : Addr), ∀ y ∈ lv k f pc, y.2 = pc ∨ y.2 ∈ Rd k f
  | _, .nil, _, y, hy => by simp [lv] at hy
  | 0, .cons x ks r, pc, y, hy => by
    simp only [lv, List.mem_cons] at hy
    rcases hy with rfl | hy
    · exact .inl rfl
    · have := lv_mem 0 r pc y hy
      cases r <;> simp [Rd] at this <;> exact .inl this
  | k + 1, .cons x ks r, pc, y, hy => by
    simp only [lv, List.mem_append] at hy
    simp only [Rd, List.mem_cons, List.mem_append]
    rcases hy with hy | hy
    · rcases lv_mem k ks x.c y hy with e | e
      · exact .inr (.inr (.inr (.inl e)))
      · exact .inr (.inr (.inr (.inr (.inl e))))
    · rcases lv_mem (k + 1) r pc y hy with e | e
      · exact .inl e
      · exact .inr (.inr (.inr (.inr (.inr e))))
theorem wk_mem : ∀ (k : Nat) (f : Fo) (pc : Addr), ∀ y ∈ wk k f pc, y.2 = pc ∨ y.2 ∈ Rd k f
  | _, .nil, _, y, hy => by simp [wk] at hy
  | 0, .cons x ks r, pc, y, hy => by
    simp only [wk, List.mem_cons] at hy
    rcases hy with rfl | hy
    · exact .inl rfl
    · have := wk_mem 0 r pc y hy
      cases r <;> simp [Rd] at this <;> exact .inl this
  | k + 1, .cons x ks r, pc, y, hy => by
    simp only [wk, List.mem_append, List.mem_cons] at hy
    simp only [Rd, List.mem_cons, List.mem_append]
    rcases hy with hy | rfl | hy
    · rcases wk_mem k ks x.c y hy with e | e
      · exact .inr (.inr (.inr (.inl e)))
      · exact .inr (.inr (.inr (.inr (.inl e))))
    · exact .inl rfl
    · rcases wk_mem (k + 1) r pc y hy with e | e
      · exact .inl e
      · exact .inr (.inr (.inr (.inr (.inr e))))
section
variable {w : World} {z : Nat} {A : Around} {c : Code} {fs : List Frame} {P : End → Shared → Prop} {env : Env} {s : Shared}
theorem sx_func {body : List Stmt} (h : ∀ H, SegX (model pr w) A (.func body env) ((execs body env).wrap (fun f => .pure (.done (.ret (match f with | .ret v => v | _ => .none)))) H id id) fs s P) :
    SegX (model pr w) A (.func body env) (denote table (.func body env)) fs s P := by
  show SegX _ A _ (.point [] fun _ => ((execs body env).onRaise (leaving env)) >>= _) fs s P
  refine sx_point ?_
  rw [Sem.onRaise_eq_wrap, Sem.bind_eq_wrap', Sem.wrap_wrap]
  rw [Sem.wrap_congr (execs body env) _ _ (K' := fun f => .pure (.done (.ret (match f with | .ret v => v | _ => .none))))
    (H' := fun e => (leaving env e).wrap (fun _ => .raise e) .raise id id) (fun f => by cases f <;> rfl)
    (fun e => by rw [Sem.bind_eq_wrap, Sem.wrap_wrap]; rfl)]
  exact h _
end

/-- what a call of at_depth (walk_up) at P gives -/
def GenSpec (w : World) (z : Nat) (f : Addr) (ls : Nat → Fo → Addr → List (NLab × Addr)) (k : Nat) : Prop :=
  ∀ (ks : Fo) (P C dd c : Addr) (tk : Tok) (A : Around) (h : Heap) (g : Array GenState) (d : Drawn) (t : Nat) (o : OsState) (Q : Value → Shared → Prop) (E : Value → Shared → Prop) (Rg : Addr → Prop),
    Cls C → Rm A 1 → GrdR w z Rg h → (∀ b, Rg b → b < z ∧ ∃ o, h.get? b = some o) → Nd h C P dd c → ListAt h c ks.refs → ks.size ≤ 900 → NdS h k ks → (c :: P :: dd :: Rd k ks).Nodup → (∀ b ∈ c :: Rd k ks, z ≤ b) →
    (∀ ga h' t' R W GF g', GSt w z (2 * k + 2) vl ga g.size (ls k ks c) R W GF h' g' → Le h h' → (∃ x, g' = g.push x ∧ x.bare = true) → (∀ b, W b → h.get? b = none) →
      (∀ b, R b → Rg b ∨ b = P ∨ b = dd ∨ b ∈ c :: Rd k ks ∨ h.get? b = none) → (∀ i, GF i → i = g.size) → Q (.ref ga) ⟨h', g', d, t', o⟩) → wpAny (model pr w) A (call (.ref f) [.ref P, .int k tk]) Q E ⟨h, g, d, t, o⟩

section
variable {w : World} {z : Nat}
theorem push_get {g : Array GenState} {x : GenState} : (g.push x)[g.size]? = some x := by simp

theorem at_succ {k : Nat} (ih : GenSpec w z 49 lv k) : GenSpec w z 49 lv (k + 1) := by
  intro ks P C dd c tk A h g d t o Q E Rg hC r G hg nd hl hln ns nod hz H
  refine callG (binds := [(Str.ofString "self", .ref P), (Str.ofString "depth", .int ((k + 1 : Nat) : Int) tk)]) G.grd rfl rfl rfl rfl (by have := r.dp; omega) rfl rfl rfl rfl rfl rfl ?_
  intro L ga h₁ t₁ le nL nga ne hns ig env
  have nin : ∀ b ob, h.get? b = some ob → b ≠ L := fun b ob e q => by rw [q, nL] at e; cases e
  refine H ga h₁ t₁ (fun b => (Rg b ∨ b = P ∨ b = dd ∨ b ∈ c :: Rd (k + 1) ks) ∨ b = ga) (fun b => b = L) (fun i => i = g.size) _ ⟨fun b => Rg b ∨ b = P ∨ b = dd ∨ b ∈ c :: Rd (k + 1) ks, noneG, _, _, _, _, ig, push_get, rfl, id, ne, .inl ⟨rfl, rfl, rfl⟩, ?gs, ?fp, fun _ => Iff.rfl, fun i => ⟨.inr, fun q => q.elim False.elim id⟩, ?hv⟩ le ⟨_, rfl, rfl⟩ (fun b q => q ▸ nL) ?rr fun i q => q
  case hv =>
    intro x hx v R' q
    refine ⟨q.1, fun e => e.elim q.2 fun e => ?_⟩
    have hp : ∃ o, h.get? x.2 = some o := by
      rcases lv_mem _ _ _ x hx with q | q
      · obtain ⟨n, hl⟩ := hl; exact ⟨_, q ▸ hl⟩
      · exact ns.there _ _ _ q
    obtain ⟨o', e'⟩ := hp
    rw [e, nga] at e'; cases e'
  case fp =>
    refine ⟨G.to (fun b ob _ e => le b ob e) fun b _ q => .inl q, fun b q => ?_, fun b q => (let ⟨oL, _, _, e, _⟩ := hns; ⟨oL, q ▸ e⟩), fun i q => q.elim⟩
    obtain ⟨es, n, i, _⟩ := nd.ex
    rcases q with q | rfl | rfl | q
    · obtain ⟨ob, e⟩ := (hg b q).2; exact ⟨ob, le b ob e⟩
    · exact ⟨_, le _ _ i.ob⟩
    · exact ⟨_, le _ _ i.dt⟩
    · rcases List.mem_cons.mp q with rfl | q
      · obtain ⟨n, hl⟩ := hl; exact ⟨_, le _ _ hl⟩
      · obtain ⟨ob, e⟩ := ns.there _ _ b q; exact ⟨ob, le _ _ e⟩
  case rr =>
    intro b q
    rcases q with (q | q | q | q) | rfl
    · exact .inl q
    · exact .inr (.inl q)
    · exact .inr (.inr (.inl q))
    · exact .inr (.inr (.inr (.inl q)))
    · exact .inr (.inr (.inr (.inr nga)))
  case gs =>
    clear H ig ne nga
    refine GS_iff.mpr fun A h₂ g₂ d₂ t₂ o₂ r₂ a₂ => sx_func fun H => sx_cons (sx_For (fun _ => rfl) fun A' hA => ?_)
    have a0 : ∀ b ob, (Rg b ∨ b = P ∨ b = dd ∨ b ∈ c :: Rd (k + 1) ks) → h.get? b = some ob → h₂.get? b = some ob := fun b ob q e => a₂.1 b ob (.inl q) (le b ob e)
    have G₂ : GrdR w z Rg (h₂.hide L) := G.to (fun b ob q e => (Heap.hide_ne _ (nin b ob e)).trans (a0 b ob (.inl q) e)) fun _ _ q => q
    have G₂' := G₂.grd
    have nd₂ : Nd (h₂.hide L) C P dd c := nd.mv fun b ob q e => (Heap.hide_ne _ (nin b ob e)).trans (a0 b ob (.inr (q.imp id .inl)) e)
    have hl₂ : ListAt (h₂.hide L) c ks.refs := let ⟨n, e⟩ := hl; ⟨n, (Heap.hide_ne _ (nin _ _ e)).trans (a0 _ _ (.inr (.inr (.inr (.head _)))) e)⟩
    obtain ⟨oL, esL, epL, eL1, eL2⟩ := hns
    have hns₂ : h₂.Ns L (fun x => List.lookup x [(Str.ofString "self", Value.ref P), (Str.ofString "depth", Value.int ((k + 1 : Nat) : Int) tk)].reverse) := ⟨oL, esL, epL, a₂.1 L oL (.inr rfl) eL1, eL2⟩
    have F₂ := Fm.hide hns₂
    have hlen : ks.refs.length ≤ 900 := Nat.le_trans (refs_le ks) hln
    repeat' walk1
    rename_i D₃ h₃ B₃ F₃ K₃ l₃ n₃ nh₃ K₃' it h₄ B₄ F₄ K₄ k₄ n₄ e₄ I₄ K₄' k1 p1 hk1
    have up : ∀ b ob, (h₂.hide L).get? b = some ob → h₄.get? b = some ob := fun b ob e => F₄.keep b ob (K₄ b ob (K₃ b ob e))
    have up0 : ∀ b ob, (Rg b ∨ b = P ∨ b = dd ∨ b ∈ c :: Rd (k + 1) ks) → h.get? b = some ob → h₄.get? b = some ob := fun b ob q e => up b ob ((Heap.hide_ne _ (nin b ob e)).trans (a0 b ob q e))
    have nL4 : it ≠ L := fun e => by obtain ⟨ob, q⟩ := F₃.there; rw [← e, n₄] at q; cases q
    have nLD : D₃ ≠ L := fun e => by obtain ⟨ob, q⟩ := F₂.there; rw [← e, nh₃] at q; cases q
    have hnw : ∀ b, (Rg b ∨ b = c ∨ b ∈ Rd (k + 1) ks) → b ≠ L ∧ b ≠ it ∧ b ≠ D₃ := fun b q => by
      have : ∃ ob, h.get? b = some ob := by
        rcases q with q | rfl | q
        · exact (hg b q).2
        · obtain ⟨n, e⟩ := hl; exact ⟨_, e⟩
        · exact ns.there _ _ b q
      obtain ⟨ob, e⟩ := this
      have e2 : (h₂.hide L).get? b = some ob := (Heap.hide_ne _ (nin b ob e)).trans (a0 b ob (q.imp id fun q => .inr (.inr (by rcases q with rfl | q; exact .head _; exact .tail _ q))) e)
      refine ⟨nin b ob e, fun e' => ?_, fun e' => ?_⟩
      · have := F₃.keep _ _ (K₃ _ _ e2); rw [e', n₄] at this; cases this
      · rw [e', n₃] at e2; cases e2
    refine SegX.mono ?_ fun e s' q => GPost.back (R₁ := fun b => Rg b ∨ b = D₃ ∨ b ∈ Rd (k + 1) ks) (W₁ := fun b => b = L ∨ b = it) (GF₁ := noneG) (h₁ := h₄) (g₁ := g₂) ?gr q
    case gr =>
      have kk : ∀ b, h₂.get? b = none ∨ b = L ∨ ∃ ob, (h₂.hide L).get? b = some ob := fun b => by
        cases q : h₂.get? b with
        | none => exact .inl rfl
        | some ob => exact (Decidable.em (b = L)).elim (fun e => .inr (.inl e)) fun e => .inr (.inr ⟨ob, (Heap.hide_ne _ e).trans q⟩)
      refine ⟨fun b ob n e => up b ob ((Heap.hide_ne _ n).trans e), .refl _ _, fun b q => ?_, fun b q => ?_, fun i q => .inl q⟩
      · rcases q with q | rfl | q
        · exact .inl (.inl q)
        · exact .inr (.inr nh₃)
        · exact .inl (.inr (.inr (.inr (.tail _ q))))
      · rcases q with rfl | rfl
        · exact .inl rfl
        · cases q : h₂.get? b with
          | none => exact .inr rfl
          | some ob =>
            have := F₃.keep _ _ (K₃ _ _ ((Heap.hide_ne _ nL4).trans q))
            rw [n₄] at this; cases this
    have GR : GrdR w z Rg h₄ := G.to (fun b ob q e => up0 b ob (.inl q) e) fun _ _ q => q
    have gp : ∀ b, Rg b → b < z ∧ ∃ o, h₄.get? b = some o := fun b q => let ⟨a, ob, e⟩ := hg b q; ⟨a, ob, up0 b ob (.inl q) e⟩
    have ns₄ : NdS h₄ (k + 1) ks := ns.mv _ _ fun b ob q e => up0 b ob (.inr (.inr (.inr (.tail _ q)))) e
    have nod₄ : (c :: Rd (k + 1) ks).Nodup := by
      simp only [List.nodup_cons, List.mem_cons, not_or] at nod ⊢
      exact ⟨nod.1.2.2, nod.2.2.2⟩
    obtain ⟨m, hm, ns5⟩ : ∃ m : Str → Option Value, m (Str.ofString "depth") = some (.int ((k + 1 : Nat) : Int) tk) ∧ h₄.Ns L m := ⟨_, rfl, F₄.ns⟩
    have hsz := hln
    have r5 := r₂
    have I5 := I₄
    clear K₄' k₄ K₄ n₄ F₄ K₃' nh₃ n₃ l₃ K₃ F₃ F₂ hns₂ eL2 eL1 hlen nod ns hl hl₂ nd nd₂ G₂ G₂' up0 up a0 hA a₂ le r₂ I₄ hln G hg nin r
    rename_i t₅
    induction ks generalizing A h₄ g₂ d₂ t₅ o₂ m with
    | nil =>
      have hh := (Rm.over (k := 2 * (k + 1) + 1) r5 (FsOk.for1 (target := .Name (Str.ofString "child") default) (I := .ref it) (body := []) (b2 := []) (env := env) (k := k1) (l := []) (p := p1))).hh
      refine sx_forLoop ((itr_list hh (by assumption)).done _ _ _ h₄ g₂ d₂ _ o₂ _ _ I5 fun h' g' d' t' kW kG => ?_)
      refine s_pop pr w A _ [] _ _ (.ok .next) _ rfl k1 none false _ _ p1 [] ?_
      rw [hk1]
      show SegX _ A _ (.pure (.done (.ret .none))) [] _ _
      refine s_end pr w A _ _ _ (.ok (.ret .none)) _ rfl ?_
      exact ⟨h', g', d', t', rfl, rfl, kW.wide (fun b q => .inr q), kG⟩
    | cons x ks r ihk ihr =>
      clear ihk
      have hh := (Rm.over (k := 2 * (k + 1) + 1) r5 (FsOk.for1 (target := .Name (Str.ofString "child") default) (I := .ref it) (body := []) (b2 := []) (env := env) (k := k1) (l := []) (p := p1))).hh
      have rA := (Rm.over (k := 2 * (k + 1) + 1) r5 (FsOk.for1 (target := .Name (Str.ofString "child") default) (I := .ref it) (body := []) (b2 := []) (env := env) (k := k1) (l := []) (p := p1)))
      refine sx_forLoop ((itr_list hh (by assumption)).item _ _ _ _ _ h₄ g₂ d₂ _ o₂ _ _ I5 fun v R' W' GF' h₅ g₅ d₅ t₆ hv I6 kW kG gW gR gG => ?_)
      obtain ⟨rfl, _⟩ := hv
      obtain ⟨iR, iW, iG, iX⟩ := I6
      refine wpAny_pure ?_
      have ns6 : h₅.Ns L m := by
        obtain ⟨oL, esL, epL, e1, e2⟩ := ns5
        exact ⟨oL, esL, epL, kW L oL (fun e => nL4 e.symm) e1, e2⟩
      have F5 := Fm.hide ns6
      refine wpAny_assign_Name (kStore F5 rfl rfl rfl fun h₆ t₇ F₆ H' => sx_cons (sx_If fun A₁ hA₁ => ?_))
      have r6 : Rm A₁ (2 * (k + 1) + 1) := hA₁ ▸ rA
      have k46 : ∀ b ob, b ≠ L → b ≠ it → h₄.get? b = some ob → (h₅.hide L).get? b = some ob := fun b ob n1 n2 e => (Heap.hide_ne _ n1).trans (kW b ob n2 e)
      repeat' walk1
      rw [if_neg (by rw [beq_iff_eq]; omega)]
      refine sx_cons (sx_For (fun _ => rfl) fun A₂ hA₂ => ?_)
      have r7 : Rm A₂ (2 * (k + 1) + 1) := hA₂ ▸ rA
      have mem : ∀ b, b ∈ Rd (k + 1) (.cons x ks r) ↔ b = x.a ∨ b = x.d ∨ b = x.c ∨ b ∈ Rd k ks ∨ b ∈ Rd (k + 1) r := fun b => by simp only [Rd, List.mem_cons, List.mem_append]
      have k46' : ∀ b ob, (Rg b ∨ b = c ∨ b ∈ Rd (k + 1) (.cons x ks r)) → h₄.get? b = some ob → (h₅.hide L).get? b = some ob := fun b ob q e => k46 b ob (hnw b q).1 (hnw b q).2.1 e
      have G6 : GrdR w z Rg (h₅.hide L) := GR.to (fun b ob q e => k46' b ob (.inl q) e) fun _ _ q => q
      have ns6' : NdS (h₅.hide L) (k + 1) (.cons x ks r) := ns₄.mv _ _ fun b ob q e => k46' b ob (.inr (.inr q)) e
      have G6' := G6.grd
      obtain ⟨nd6, l6, nk6, nr6⟩ := id ns6'
      refine mCall rfl rfl rfl ?_
      refine eLocal F₆ (if_pos rfl) rfl rfl rfl (by decide) ?_
      intro pl
      refine Nd.atDepth (.inr rfl) G6' F₆ nd6 ?_
      refine cwK1 rfl rfl ?_
      repeat' walk1
      have cast : ((k + 1 : Nat) : Int) - 1 = (k : Int) := by omega
      show wpAny (model pr w) A₂ (call (.ref 49) [.ref x.a, .int (((k + 1 : Nat) : Int) - 1) _]) _ _ _
      rw [cast]
      simp only [Fo.size] at hsz
      have pr4 : ∀ b, (Rg b ∨ b = c ∨ b ∈ Rd (k + 1) (.cons x ks r)) → ∀ ob, h₄.get? b = some ob → h₆.get? b = some ob := fun b q ob e => F₆.keep _ _ (k46' b ob q e)
      have pp4 : ∀ b, b ∈ Rd (k + 1) (.cons x ks r) → ∃ ob, h₄.get? b = some ob := fun b q => ns₄.there _ _ b q
      have nodx := rd_split nod₄
      refine ih ks x.a 80 x.d x.c _ A₂ h₆ g₅ d₅ _ o₂ _ _ Rg (.inr rfl) (r7.le (by omega)) ?G ?hg (nd6.mv fun b ob _ e => F₆.keep _ _ e) (l6.le F₆.keep) (by omega) (nk6.mv _ _ fun b ob _ e => F₆.keep _ _ e) nodx.1 ?hz fun ga h₇ t₈ R₇ W₇ GF₇ g₇ S7 le7 gx7 w7 rr7 gf7 => ?_
      case G => exact G6.to (fun b ob _ e => F₆.keep _ _ e) fun _ _ q => q
      case hg => exact fun b q => let ⟨a, ob, e⟩ := gp b q; ⟨a, ob, pr4 b (.inl q) ob e⟩
      case hz => exact fun b q => hz b (.tail _ ((mem b).mpr (by rcases List.mem_cons.mp q with q | q; exact .inr (.inr (.inl q)); exact .inr (.inr (.inr (.inl q))))))
      refine (itr_gen (A := A₂) (k := 2 * k + 2) r7 ga g₅.size).self _ _ _ _ _ _ _ S7 ?_
      intro k2 p2 hk2
      have ab6 : ∀ b, h₆.get? b = none → (b = L ∨ b = it) ∨ h₄.get? b = none := fun b e => by
        cases q : h₄.get? b with
        | none => exact .inr rfl
        | some ob =>
          refine .inl (Decidable.byContradiction fun n => ?_)
          have := F₆.keep _ _ (k46 b ob (fun e => n (.inl e)) (fun e => n (.inr e)) q)
          rw [e] at this; cases this
      have pL6 : ∃ ob, h₆.get? L = some ob := F₆.there
      have pit6 : ∃ ob, h₆.get? it = some ob := by
        obtain ⟨i, items, ⟨oi, e, _⟩, _⟩ := iX
        exact ⟨oi, F₆.keep _ _ ((Heap.hide_ne _ nL4).trans e)⟩
      have pD6 : ∃ ob, h₆.get? D₃ = some ob := by
        obtain ⟨i, items, _, ⟨oi, e, _⟩, _⟩ := iX
        exact ⟨oi, F₆.keep _ _ ((Heap.hide_ne _ nLD).trans e)⟩
      have pr6 : ∀ b, (Rg b ∨ b ∈ Rd (k + 1) r) → ∃ ob, h₆.get? b = some ob := fun b q => by
        rcases q with q | q
        · obtain ⟨_, ob, e⟩ := gp b q; exact ⟨ob, pr4 b (.inl q) ob e⟩
        · obtain ⟨ob, e⟩ := pp4 b ((mem b).mpr (.inr (.inr (.inr (.inr q))))); exact ⟨ob, pr4 b (.inr (.inr ((mem b).mpr (.inr (.inr (.inr (.inr q))))))) ob e⟩
      have mr : ∀ b, b ∈ Rd (k + 1) r → b ∈ Rd (k + 1) (.cons x ks r) := fun b q => (mem b).mpr (.inr (.inr (.inr (.inr q))))
      obtain ⟨gx, rfl, gxb⟩ := gx7
      refine SegX.mono ?yl fun e s' q => GPost.back (R₁ := fun b => R₇ b ∨ Rg b ∨ b = D₃ ∨ b ∈ Rd (k + 1) r) (W₁ := fun b => W₇ b ∨ b = L ∨ b = it) (GF₁ := fun i => GF₇ i ∨ noneG i) (h₁ := h₇) (g₁ := g₅.push gx) ?gr q
      case gr =>
        have pn : ∀ b, R₇ b → (Rg b ∨ b = D₃ ∨ b ∈ Rd (k + 1) (.cons x ks r)) ∨ (b = L ∨ b = it) ∨ h₄.get? b = none := fun b q => by
          rcases rr7 b q with q | rfl | rfl | q | q
          · exact .inl (.inl q)
          · exact .inl (.inr (.inr ((mem _).mpr (.inl rfl))))
          · exact .inl (.inr (.inr ((mem _).mpr (.inr (.inl rfl)))))
          · exact .inl (.inr (.inr ((mem b).mpr (by rcases List.mem_cons.mp q with q | q; exact .inr (.inr (.inl q)); exact .inr (.inr (.inr (.inl q)))))))
          · exact .inr (ab6 b q)
        refine ⟨fun b ob n e => le7 _ _ (F₆.keep _ _ (k46 b ob (fun e => n (.inl e)) (fun e => n (.inr e)) e)), ⟨fun i y _ e => ?_, fun q => ?_⟩, fun b q => ?_, fun b q => ?_, fun i q => ?_⟩
        · have e' := kG.1 i y id e
          rw [Array.getElem?_push, if_neg (fun q => by rw [q] at e'; simp at e')]; exact e'
        · intro y hy
          rcases Array.mem_push.mp hy with hy | rfl
          · exact kG.2 q y hy
          · exact gxb
        · rcases q with q | q | q | q
          · exact pn b q
          · exact .inl (.inl q)
          · exact .inl (.inr (.inl q))
          · exact .inl (.inr (.inr (mr b q)))
        · rcases q with q | q
          · exact ab6 b (w7 b q)
          · exact .inl q
        · refine .inr ?_
          rcases q with q | q
          · rw [gf7 i q]
            cases e : g₂[g₅.size]? with
            | none => rfl
            | some y => have := kG.1 _ _ id e; simp at this
          · exact q.elim
      case yl =>
        refine loop_yield (k := 2 * k + 2 + 1) (St := GSt w z (2 * k + 2) vl ga g₅.size) (fun A rr => itr_gen rr ga g₅.size) rfl rfl rfl (by decide) rfl rfl FsOk.for2 (h₀ := h₇) (g₀ := g₅.push gx) (m₀ := fun y => if y = Str.ofString "child" then some (.ref x.a) else m y) ?P (.inl rfl) ?hR ?cont (lv k ks x.c) R₇ W₇ GF₇ A h₇ (g₅.push gx) d₅ t₈ o₂ _ ?hv r5 ?nsl (fun _ _ _ _ e => e) (fun _ _ _ e => e) (fun _ _ => rfl) S7 ?hW ?hRL fun _ _ => id
        case P => exact ⟨G6.to (fun b ob _ e => le7 _ _ (F₆.keep _ _ e)) fun b _ q => .inl q, fun b q => by
            rcases q with q | rfl | q
            · obtain ⟨ob, e⟩ := pr6 b (.inl q); exact ⟨ob, le7 _ _ e⟩
            · obtain ⟨ob, e⟩ := pD6; exact ⟨ob, le7 _ _ e⟩
            · obtain ⟨ob, e⟩ := pr6 b (.inr q); exact ⟨ob, le7 _ _ e⟩, fun b q => by
            rcases q with rfl | rfl
            · obtain ⟨ob, e⟩ := pL6; exact ⟨ob, le7 _ _ e⟩
            · obtain ⟨ob, e⟩ := pit6; exact ⟨ob, le7 _ _ e⟩, fun i q => q.elim⟩
        case hR =>
          rintro (q | q | q)
          · exact (hnw L (.inl q)).1 rfl
          · exact nLD q.symm
          · exact (hnw L (.inr (.inr (mr L q)))).1 rfl
        case nsl =>
          obtain ⟨oL, esL, epL, e1, e2⟩ := F₆.ns
          exact ⟨oL, esL, epL, le7 _ _ e1, e2⟩
        case hv =>
          intro y hy v R' q
          refine ⟨q.1, fun e => e.elim q.2 fun e => ?_⟩
          have hy2 := lv_mem _ _ _ y hy
          have hym : y.2 ∈ Rd (k + 1) (.cons x ks r) := (mem _).mpr (by rcases hy2 with q | q; exact .inr (.inr (.inl q)); exact .inr (.inr (.inr (.inl q))))
          rcases e with e | e | e
          · exact Nat.lt_irrefl _ (Nat.lt_of_lt_of_le (gp _ e).1 (hz _ (.tail _ hym)))
          · exact (hnw _ (.inr (.inr hym))).2.2 e
          · exact nodx.2.2 _ hy2 e
        case hW =>
          intro b q
          have e := w7 b q
          refine ⟨fun q => ?_, fun q => ?_⟩
          · rcases q with q | rfl | q
            · obtain ⟨ob, e'⟩ := pr6 b (.inl q); rw [e] at e'; cases e'
            · obtain ⟨ob, e'⟩ := pD6; rw [e] at e'; cases e'
            · obtain ⟨ob, e'⟩ := pr6 b (.inr q); rw [e] at e'; cases e'
          · rcases q with rfl | rfl
            · obtain ⟨ob, e'⟩ := pL6; rw [e] at e'; cases e'
            · obtain ⟨ob, e'⟩ := pit6; rw [e] at e'; cases e'
        case hRL =>
          intro q
          rcases rr7 L q with q | q | q | q | q
          · exact (hnw L (.inl q)).1 rfl
          · exact (hnw L (.inr (.inr ((mem _).mpr (.inl q))))).1 rfl
          · exact (hnw L (.inr (.inr ((mem _).mpr (.inr (.inl q)))))).1 rfl
          · exact (hnw L (.inr (.inr ((mem _).mpr (by rcases List.mem_cons.mp q with q | q; exact .inr (.inr (.inl q)); exact .inr (.inr (.inr (.inl q)))))))).1 rfl
          · obtain ⟨ob, e'⟩ := pL6; rw [q] at e'; cases e'
        case cont =>
          intro A₈ h₈ g₈ d₈ t₈ o₈ m₈ r₈ ns₈ k₈ _ hm₈
          refine s_pop pr w A₈ _ _ _ _ (.ok .next) _ rfl k2 none false _ _ p2 [] ?_
          rw [hk2]
          refine s_again pr w A₈ _ _ _ _ _ rfl ?_
          have kR : ∀ b ob, (Rg b ∨ b = D₃ ∨ b ∈ Rd (k + 1) r) → h₇.get? b = some ob → h₈.get? b = some ob := fun b ob q e => k₈ b ob (.inl q) (by
            rcases q with q | q | q
            · exact (hnw b (.inl q)).1
            · exact q ▸ nLD
            · exact (hnw b (.inr (.inr (mr b q)))).1) e
          refine ihr (fun b q => ?_) A₈ g₈ d₈ o₈ t₈ h₈ (fun b q => hnw b (q.imp id fun q => q.imp id (mr b))) ?_ ?_ ?_ nodx.2.1 m₈ ?_ ns₈ (by omega) r₈ ?_
          · rcases List.mem_cons.mp q with q | q
            · exact hz b (q ▸ .head _)
            · exact hz b (.tail _ (mr b q))
          · exact G6.to (fun b ob q e => kR b ob (.inl q) (le7 _ _ (F₆.keep _ _ e))) fun _ _ q => q
          · exact fun b q => ⟨(gp b q).1, let ⟨ob, e⟩ := pr6 b (.inl q); ⟨ob, kR b ob (.inl q) (le7 _ _ e)⟩⟩
          · exact nr6.mv _ _ fun b ob q e => kR b ob (.inr (.inr q)) (le7 _ _ (F₆.keep _ _ e))
          · rw [hm₈ _ (by decide)]
            show (if _ then _ else _) = _
            rw [if_neg (by decide)]; exact hm
          · obtain ⟨i, items, ⟨oi, e1, e2, e3⟩, ⟨ol, f1, f2⟩, e5⟩ := iX
            refine ⟨fun _ => Iff.rfl, fun _ => Iff.rfl, fun _ => id, i, items, ⟨oi, ?_, e2, e3⟩, ⟨ol, ?_, f2⟩, e5⟩
            · exact k₈ it oi (.inr (.inr rfl)) nL4 (le7 _ _ (F₆.keep _ _ ((Heap.hide_ne _ nL4).trans e1)))
            · exact kR D₃ ol (.inr (.inl rfl)) (le7 _ _ (F₆.keep _ _ ((Heap.hide_ne _ nLD).trans f1)))

theorem at_zero : GenSpec w z 49 lv 0 := by
  intro ks P C dd c tk A h g d t o Q E Rg hC r G hg nd hl hln ns nod hz H
  refine callG (binds := [(Str.ofString "self", .ref P), (Str.ofString "depth", .int ((0 : Nat) : Int) tk)]) G.grd rfl rfl rfl rfl (by have := r.dp; omega) rfl rfl rfl rfl rfl rfl ?_
  intro L ga h₁ t₁ le nL nga ne hns ig env
  have nin : ∀ b ob, h.get? b = some ob → b ≠ L := fun b ob e q => by rw [q, nL] at e; cases e
  refine H ga h₁ t₁ (fun b => (Rg b ∨ b = P ∨ b = dd ∨ b ∈ c :: Rd 0 ks) ∨ b = ga) (fun b => b = L) (fun i => i = g.size) _ ⟨fun b => Rg b ∨ b = P ∨ b = dd ∨ b ∈ c :: Rd 0 ks, noneG, _, _, _, _, ig, push_get, rfl, id, ne, .inl ⟨rfl, rfl, rfl⟩, ?gs, ?fp, fun _ => Iff.rfl, fun i => ⟨.inr, fun q => q.elim False.elim id⟩, ?hv⟩ le ⟨_, rfl, rfl⟩ (fun b q => q ▸ nL) ?rr fun i q => q
  case hv =>
    intro x hx v R' q
    refine ⟨q.1, fun e => e.elim q.2 fun e => ?_⟩
    have hp : ∃ o, h.get? x.2 = some o := by
      rcases lv_mem _ _ _ x hx with q | q
      · obtain ⟨n, hl⟩ := hl; exact ⟨_, q ▸ hl⟩
      · exact ns.there _ _ _ q
    obtain ⟨o', e'⟩ := hp
    rw [e, nga] at e'; cases e'
  case fp =>
    refine ⟨G.to (fun b ob _ e => le b ob e) fun b _ q => .inl q, fun b q => ?_, fun b q => (let ⟨oL, _, _, e, _⟩ := hns; ⟨oL, q ▸ e⟩), fun i q => q.elim⟩
    obtain ⟨es, n, i, _⟩ := nd.ex
    rcases q with q | rfl | rfl | q
    · obtain ⟨ob, e⟩ := (hg b q).2; exact ⟨ob, le b ob e⟩
    · exact ⟨_, le _ _ i.ob⟩
    · exact ⟨_, le _ _ i.dt⟩
    · rcases List.mem_cons.mp q with rfl | q
      · obtain ⟨n, hl⟩ := hl; exact ⟨_, le _ _ hl⟩
      · obtain ⟨ob, e⟩ := ns.there _ _ b q; exact ⟨ob, le _ _ e⟩
  case rr =>
    intro b q
    rcases q with (q | q | q | q) | rfl
    · exact .inl q
    · exact .inr (.inl q)
    · exact .inr (.inr (.inl q))
    · exact .inr (.inr (.inr (.inl q)))
    · exact .inr (.inr (.inr (.inr nga)))
  case gs =>
    clear H ig ne nga
    refine GS_iff.mpr fun A h₂ g₂ d₂ t₂ o₂ r₂ a₂ => sx_func fun H => sx_cons (sx_For (fun _ => rfl) fun A' hA => ?_)
    have a0 : ∀ b ob, (Rg b ∨ b = P ∨ b = dd ∨ b ∈ c :: Rd 0 ks) → h.get? b = some ob → h₂.get? b = some ob := fun b ob q e => a₂.1 b ob (.inl q) (le b ob e)
    have G₂ : GrdR w z Rg (h₂.hide L) := G.to (fun b ob q e => (Heap.hide_ne _ (nin b ob e)).trans (a0 b ob (.inl q) e)) fun _ _ q => q
    have G₂' := G₂.grd
    have nd₂ : Nd (h₂.hide L) C P dd c := nd.mv fun b ob q e => (Heap.hide_ne _ (nin b ob e)).trans (a0 b ob (.inr (q.imp id .inl)) e)
    have hl₂ : ListAt (h₂.hide L) c ks.refs := let ⟨n, e⟩ := hl; ⟨n, (Heap.hide_ne _ (nin _ _ e)).trans (a0 _ _ (.inr (.inr (.inr (.head _)))) e)⟩
    obtain ⟨oL, esL, epL, eL1, eL2⟩ := hns
    have hns₂ : h₂.Ns L (fun x => List.lookup x [(Str.ofString "self", Value.ref P), (Str.ofString "depth", Value.int ((0 : Nat) : Int) tk)].reverse) := ⟨oL, esL, epL, a₂.1 L oL (.inr rfl) eL1, eL2⟩
    have F₂ := Fm.hide hns₂
    have hlen : ks.refs.length ≤ 900 := Nat.le_trans (refs_le ks) hln
    repeat' walk1
    rename_i D₃ h₃ B₃ F₃ K₃ l₃ n₃ nh₃ K₃' it h₄ B₄ F₄ K₄ k₄ n₄ e₄ I₄ K₄' k1 p1 hk1
    have up : ∀ b ob, (h₂.hide L).get? b = some ob → h₄.get? b = some ob := fun b ob e => F₄.keep b ob (K₄ b ob (K₃ b ob e))
    have up0 : ∀ b ob, (Rg b ∨ b = P ∨ b = dd ∨ b ∈ c :: Rd 0 ks) → h.get? b = some ob → h₄.get? b = some ob := fun b ob q e => up b ob ((Heap.hide_ne _ (nin b ob e)).trans (a0 b ob q e))
    have nL4 : it ≠ L := fun e => by obtain ⟨ob, q⟩ := F₃.there; rw [← e, n₄] at q; cases q
    have nLD : D₃ ≠ L := fun e => by obtain ⟨ob, q⟩ := F₂.there; rw [← e, nh₃] at q; cases q
    have hnw : ∀ b, (Rg b ∨ b = c ∨ b ∈ Rd 0 ks) → b ≠ L ∧ b ≠ it ∧ b ≠ D₃ := fun b q => by
      have : ∃ ob, h.get? b = some ob := by
        rcases q with q | rfl | q
        · exact (hg b q).2
        · obtain ⟨n, e⟩ := hl; exact ⟨_, e⟩
        · exact ns.there _ _ b q
      obtain ⟨ob, e⟩ := this
      have e2 : (h₂.hide L).get? b = some ob := (Heap.hide_ne _ (nin b ob e)).trans (a0 b ob (q.imp id fun q => .inr (.inr (by rcases q with rfl | q; exact .head _; exact .tail _ q))) e)
      refine ⟨nin b ob e, fun e' => ?_, fun e' => ?_⟩
      · have := F₃.keep _ _ (K₃ _ _ e2); rw [e', n₄] at this; cases this
      · rw [e', n₃] at e2; cases e2
    refine SegX.mono ?_ fun e s' q => GPost.back (R₁ := fun b => Rg b ∨ b = D₃ ∨ b ∈ Rd 0 ks) (W₁ := fun b => b = L ∨ b = it) (GF₁ := noneG) (h₁ := h₄) (g₁ := g₂) ?gr q
    case gr =>
      have kk : ∀ b, h₂.get? b = none ∨ b = L ∨ ∃ ob, (h₂.hide L).get? b = some ob := fun b => by
        cases q : h₂.get? b with
        | none => exact .inl rfl
        | some ob => exact (Decidable.em (b = L)).elim (fun e => .inr (.inl e)) fun e => .inr (.inr ⟨ob, (Heap.hide_ne _ e).trans q⟩)
      refine ⟨fun b ob n e => up b ob ((Heap.hide_ne _ n).trans e), .refl _ _, fun b q => ?_, fun b q => ?_, fun i q => .inl q⟩
      · rcases q with q | rfl | q
        · exact .inl (.inl q)
        · exact .inr (.inr nh₃)
        · exact .inl (.inr (.inr (.inr (.tail _ q))))
      · rcases q with rfl | rfl
        · exact .inl rfl
        · cases q : h₂.get? b with
          | none => exact .inr rfl
          | some ob =>
            have := F₃.keep _ _ (K₃ _ _ ((Heap.hide_ne _ nL4).trans q))
            rw [n₄] at this; cases this
    have GR : GrdR w z Rg h₄ := G.to (fun b ob q e => up0 b ob (.inl q) e) fun _ _ q => q
    have gp : ∀ b, Rg b → b < z ∧ ∃ o, h₄.get? b = some o := fun b q => let ⟨a, ob, e⟩ := hg b q; ⟨a, ob, up0 b ob (.inl q) e⟩
    have ns₄ : NdS h₄ 0 ks := ns.mv _ _ fun b ob q e => up0 b ob (.inr (.inr (.inr (.tail _ q)))) e
    have nod₄ : (c :: Rd 0 ks).Nodup := by
      simp only [List.nodup_cons, List.mem_cons, not_or] at nod ⊢
      exact ⟨nod.1.2.2, nod.2.2.2⟩
    obtain ⟨m, hm, ns5⟩ : ∃ m : Str → Option Value, m (Str.ofString "depth") = some (.int ((0 : Nat) : Int) tk) ∧ h₄.Ns L m := ⟨_, rfl, F₄.ns⟩
    have hsz := hln
    have r5 := r₂
    have I5 := I₄
    clear K₄' k₄ K₄ n₄ F₄ K₃' nh₃ n₃ l₃ K₃ F₃ F₂ hns₂ eL2 eL1 hlen nod ns hl hl₂ nd nd₂ G₂ G₂' up0 up a0 hA a₂ le r₂ I₄ hln G hg nin r
    rename_i t₅
    induction ks generalizing A h₄ g₂ d₂ t₅ o₂ m with
    | nil =>
      have hh := (Rm.over (k := 2 * 0 + 1) r5 (FsOk.for1 (target := .Name (Str.ofString "child") default) (I := .ref it) (body := []) (b2 := []) (env := env) (k := k1) (l := []) (p := p1))).hh
      refine sx_forLoop ((itr_list hh (by assumption)).done _ _ _ h₄ g₂ d₂ _ o₂ _ _ I5 fun h' g' d' t' kW kG => ?_)
      refine s_pop pr w A _ [] _ _ (.ok .next) _ rfl k1 none false _ _ p1 [] ?_
      rw [hk1]
      show SegX _ A _ (.pure (.done (.ret .none))) [] _ _
      refine s_end pr w A _ _ _ (.ok (.ret .none)) _ rfl ?_
      exact ⟨h', g', d', t', rfl, rfl, kW.wide (fun b q => .inr q), kG⟩
    | cons x ks r ihk ihr =>
      clear ihk
      have hh := (Rm.over (k := 2 * 0 + 1) r5 (FsOk.for1 (target := .Name (Str.ofString "child") default) (I := .ref it) (body := []) (b2 := []) (env := env) (k := k1) (l := []) (p := p1))).hh
      refine sx_forLoop ((itr_list hh (by assumption)).item _ _ _ _ _ h₄ g₂ d₂ _ o₂ _ _ I5 fun v R' W' GF' h₅ g₅ d₅ t₆ hv I6 kW kG gW gR gG => ?_)
      obtain ⟨rfl, _⟩ := hv
      obtain ⟨iR, iW, iG, iX⟩ := I6
      refine wpAny_pure ?_
      have ns6 : h₅.Ns L m := by
        obtain ⟨oL, esL, epL, e1, e2⟩ := ns5
        exact ⟨oL, esL, epL, kW L oL (fun e => nL4 e.symm) e1, e2⟩
      have F5 := Fm.hide ns6
      refine wpAny_assign_Name (kStore F5 rfl rfl rfl fun h₆ t₇ F₆ H' => sx_cons (sx_If fun A₁ hA₁ => ?_))
      have k46 : ∀ b ob, b ≠ L → b ≠ it → h₄.get? b = some ob → (h₅.hide L).get? b = some ob := fun b ob n1 n2 e => (Heap.hide_ne _ n1).trans (kW b ob n2 e)
      have pL6 : ∃ ob, h₆.get? L = some ob := F₆.there
      have pit6 : ∃ ob, h₆.get? it = some ob := by
        obtain ⟨i, items, ⟨oi, e, _⟩, _⟩ := iX
        exact ⟨oi, F₆.keep _ _ ((Heap.hide_ne _ nL4).trans e)⟩
      have pD6 : ∃ ob, h₆.get? D₃ = some ob := by
        obtain ⟨i, items, _, ⟨oi, e, _⟩, _⟩ := iX
        exact ⟨oi, F₆.keep _ _ ((Heap.hide_ne _ nLD).trans e)⟩
      have pr6 : ∀ b, Rg b → ∃ ob, h₄.get? b = some ob ∧ h₆.get? b = some ob := fun b q => by
        obtain ⟨_, ob, e⟩ := gp b q
        exact ⟨ob, e, F₆.keep _ _ (k46 b ob (hnw b (.inl q)).1 (hnw b (.inl q)).2.1 e)⟩
      repeat' walk1
      rw [if_pos (by rfl)]
      refine SegX.mono ?yl fun e s' q => GPost.back (R₁ := fun b => Rg b ∨ b = D₃ ∨ b ∈ Rd 0 (.cons x ks r)) (W₁ := fun b => b = L ∨ b = it) (GF₁ := noneG) (h₁ := h₆) (g₁ := g₅) ?gr q
      case gr => exact ⟨fun b ob n e => F₆.keep _ _ (k46 b ob (fun e => n (.inl e)) (fun e => n (.inr e)) e), kG, fun b q => .inl q, fun b q => .inl q, fun i q => .inl q⟩
      refine sx_yieldOne (L := L) (x := (x, c)) rfl rfl rfl rfl (by decide) rfl rfl FsOk.for1 F₆.ns (if_pos rfl) (R' := fun b => Rg b ∨ b = D₃ ∨ b ∈ Rd 0 r) (W' := fun b => b = L ∨ b = it) (GF' := noneG) ⟨rfl, ?v⟩ ?fp ?g2 ?next
      case v =>
        rintro (q | q | q)
        · exact Nat.lt_irrefl _ (Nat.lt_of_lt_of_le (gp _ q).1 (hz _ (.head _)))
        · exact (hnw _ (.inr (.inl rfl))).2.2 q
        · rw [rd0] at q; cases q
      case fp =>
        refine ⟨GR.to (fun b ob q e => F₆.keep _ _ (k46 b ob (hnw b (.inl q)).1 (hnw b (.inl q)).2.1 e)) fun b _ q => .inl q, fun b q => ?_, fun b q => ?_, fun i q => q.elim⟩
        · rcases q with q | rfl | q
          · obtain ⟨ob, _, e⟩ := pr6 b q; exact ⟨ob, e⟩
          · exact pD6
          · rw [rd0] at q; cases q
        · rcases q with rfl | rfl
          · exact pL6
          · exact pit6
      case g2 => exact ⟨.refl _ _, .refl _ _, fun b q => .inl (q.imp id fun q => q.imp id fun q => by rw [rd0] at q; cases q), fun b q => .inl q, fun i q => .inl q⟩
      case next =>
        intro A₈ h₈ g₈ d₈ t₈ o₈ r₈ a₈
        refine s_again pr w A₈ _ _ _ _ _ rfl ?_
        have sub : ∀ b, b ∈ Rd 0 r → b ∈ Rd 0 (.cons x ks r) := fun b q => by rw [rd0] at q; cases q
        obtain ⟨oL, esL, epL, e1, e2⟩ := F₆.ns
        refine ihr (fun b q => ?_) A₈ g₈ d₈ o₈ t₈ h₈ (fun b q => hnw b (q.imp id fun q => q.imp id (sub b))) ?_ ?_ (nds0 _ _) (by rw [rd0]; simp) _ ?_ ⟨oL, esL, epL, a₈.1 L oL (.inr (.inl rfl)) e1, e2⟩ (by simp only [Fo.size] at hsz; omega) r₈ ?_
        · rcases List.mem_cons.mp q with q | q
          · exact hz b (q ▸ .head _)
          · exact hz b (.tail _ (sub b q))
        · exact GR.to (fun b ob q e => a₈.1 b ob (.inl (.inl q)) (F₆.keep _ _ (k46 b ob (hnw b (.inl q)).1 (hnw b (.inl q)).2.1 e))) fun _ _ q => q
        · exact fun b q => ⟨(gp b q).1, let ⟨ob, _, e⟩ := pr6 b q; ⟨ob, a₈.1 b ob (.inl (.inl q)) e⟩⟩
        · show (if _ then _ else _) = _
          rw [if_neg (by decide)]; exact hm
        · obtain ⟨i, items, ⟨oi, e1, e2, e3⟩, ⟨ol, f1, f2⟩, e5⟩ := iX
          refine ⟨fun _ => Iff.rfl, fun _ => Iff.rfl, fun _ => id, i, items, ⟨oi, ?_, e2, e3⟩, ⟨ol, ?_, f2⟩, e5⟩
          · exact a₈.1 it oi (.inr (.inr rfl)) (F₆.keep _ _ ((Heap.hide_ne _ nL4).trans e1))
          · exact a₈.1 D₃ ol (.inl (.inr (.inl rfl))) (F₆.keep _ _ ((Heap.hide_ne _ nLD).trans f1))

theorem wk_zero : GenSpec w z 56 wk 0 := by
  intro ks P C dd c tk A h g d t o Q E Rg hC r G hg nd hl hln ns nod hz H
  refine callG (binds := [(Str.ofString "self", .ref P), (Str.ofString "depth", .int ((0 : Nat) : Int) tk)]) G.grd rfl rfl rfl rfl (by have := r.dp; omega) rfl rfl rfl rfl rfl rfl ?_
  intro L ga h₁ t₁ le nL nga ne hns ig env
  have nin : ∀ b ob, h.get? b = some ob → b ≠ L := fun b ob e q => by rw [q, nL] at e; cases e
  refine H ga h₁ t₁ (fun b => (Rg b ∨ b = P ∨ b = dd ∨ b ∈ c :: Rd 0 ks) ∨ b = ga) (fun b => b = L) (fun i => i = g.size) _ ⟨fun b => Rg b ∨ b = P ∨ b = dd ∨ b ∈ c :: Rd 0 ks, noneG, _, _, _, _, ig, push_get, rfl, id, ne, .inl ⟨rfl, rfl, rfl⟩, ?gs, ?fp, fun _ => Iff.rfl, fun i => ⟨.inr, fun q => q.elim False.elim id⟩, ?hv⟩ le ⟨_, rfl, rfl⟩ (fun b q => q ▸ nL) ?rr fun i q => q
  case hv =>
    intro x hx v R' q
    refine ⟨q.1, fun e => e.elim q.2 fun e => ?_⟩
    have hp : ∃ o, h.get? x.2 = some o := by
      rcases wk_mem _ _ _ x hx with q | q
      · obtain ⟨n, hl⟩ := hl; exact ⟨_, q ▸ hl⟩
      · exact ns.there _ _ _ q
    obtain ⟨o', e'⟩ := hp
    rw [e, nga] at e'; cases e'
  case fp =>
    refine ⟨G.to (fun b ob _ e => le b ob e) fun b _ q => .inl q, fun b q => ?_, fun b q => (let ⟨oL, _, _, e, _⟩ := hns; ⟨oL, q ▸ e⟩), fun i q => q.elim⟩
    obtain ⟨es, n, i, _⟩ := nd.ex
    rcases q with q | rfl | rfl | q
    · obtain ⟨ob, e⟩ := (hg b q).2; exact ⟨ob, le b ob e⟩
    · exact ⟨_, le _ _ i.ob⟩
    · exact ⟨_, le _ _ i.dt⟩
    · rcases List.mem_cons.mp q with rfl | q
      · obtain ⟨n, hl⟩ := hl; exact ⟨_, le _ _ hl⟩
      · obtain ⟨ob, e⟩ := ns.there _ _ b q; exact ⟨ob, le _ _ e⟩
  case rr =>
    intro b q
    rcases q with (q | q | q | q) | rfl
    · exact .inl q
    · exact .inr (.inl q)
    · exact .inr (.inr (.inl q))
    · exact .inr (.inr (.inr (.inl q)))
    · exact .inr (.inr (.inr (.inr nga)))
  case gs =>
    clear H ig ne nga
    refine GS_iff.mpr fun A h₂ g₂ d₂ t₂ o₂ r₂ a₂ => sx_func fun H => sx_cons (sx_For (fun _ => rfl) fun A' hA => ?_)
    have a0 : ∀ b ob, (Rg b ∨ b = P ∨ b = dd ∨ b ∈ c :: Rd 0 ks) → h.get? b = some ob → h₂.get? b = some ob := fun b ob q e => a₂.1 b ob (.inl q) (le b ob e)
    have G₂ : GrdR w z Rg (h₂.hide L) := G.to (fun b ob q e => (Heap.hide_ne _ (nin b ob e)).trans (a0 b ob (.inl q) e)) fun _ _ q => q
    have G₂' := G₂.grd
    have nd₂ : Nd (h₂.hide L) C P dd c := nd.mv fun b ob q e => (Heap.hide_ne _ (nin b ob e)).trans (a0 b ob (.inr (q.imp id .inl)) e)
    have hl₂ : ListAt (h₂.hide L) c ks.refs := let ⟨n, e⟩ := hl; ⟨n, (Heap.hide_ne _ (nin _ _ e)).trans (a0 _ _ (.inr (.inr (.inr (.head _)))) e)⟩
    obtain ⟨oL, esL, epL, eL1, eL2⟩ := hns
    have hns₂ : h₂.Ns L (fun x => List.lookup x [(Str.ofString "self", Value.ref P), (Str.ofString "depth", Value.int ((0 : Nat) : Int) tk)].reverse) := ⟨oL, esL, epL, a₂.1 L oL (.inr rfl) eL1, eL2⟩
    have F₂ := Fm.hide hns₂
    have hlen : ks.refs.length ≤ 900 := Nat.le_trans (refs_le ks) hln
    repeat' walk1
    rename_i D₃ h₃ B₃ F₃ K₃ l₃ n₃ nh₃ K₃' it h₄ B₄ F₄ K₄ k₄ n₄ e₄ I₄ K₄' k1 p1 hk1
    have up : ∀ b ob, (h₂.hide L).get? b = some ob → h₄.get? b = some ob := fun b ob e => F₄.keep b ob (K₄ b ob (K₃ b ob e))
    have up0 : ∀ b ob, (Rg b ∨ b = P ∨ b = dd ∨ b ∈ c :: Rd 0 ks) → h.get? b = some ob → h₄.get? b = some ob := fun b ob q e => up b ob ((Heap.hide_ne _ (nin b ob e)).trans (a0 b ob q e))
    have nL4 : it ≠ L := fun e => by obtain ⟨ob, q⟩ := F₃.there; rw [← e, n₄] at q; cases q
    have nLD : D₃ ≠ L := fun e => by obtain ⟨ob, q⟩ := F₂.there; rw [← e, nh₃] at q; cases q
    have hnw : ∀ b, (Rg b ∨ b = c ∨ b ∈ Rd 0 ks) → b ≠ L ∧ b ≠ it ∧ b ≠ D₃ := fun b q => by
      have : ∃ ob, h.get? b = some ob := by
        rcases q with q | rfl | q
        · exact (hg b q).2
        · obtain ⟨n, e⟩ := hl; exact ⟨_, e⟩
        · exact ns.there _ _ b q
      obtain ⟨ob, e⟩ := this
      have e2 : (h₂.hide L).get? b = some ob := (Heap.hide_ne _ (nin b ob e)).trans (a0 b ob (q.imp id fun q => .inr (.inr (by rcases q with rfl | q; exact .head _; exact .tail _ q))) e)
      refine ⟨nin b ob e, fun e' => ?_, fun e' => ?_⟩
      · have := F₃.keep _ _ (K₃ _ _ e2); rw [e', n₄] at this; cases this
      · rw [e', n₃] at e2; cases e2
    refine SegX.mono ?_ fun e s' q => GPost.back (R₁ := fun b => Rg b ∨ b = D₃ ∨ b ∈ Rd 0 ks) (W₁ := fun b => b = L ∨ b = it) (GF₁ := noneG) (h₁ := h₄) (g₁ := g₂) ?gr q
    case gr =>
      have kk : ∀ b, h₂.get? b = none ∨ b = L ∨ ∃ ob, (h₂.hide L).get? b = some ob := fun b => by
        cases q : h₂.get? b with
        | none => exact .inl rfl
        | some ob => exact (Decidable.em (b = L)).elim (fun e => .inr (.inl e)) fun e => .inr (.inr ⟨ob, (Heap.hide_ne _ e).trans q⟩)
      refine ⟨fun b ob n e => up b ob ((Heap.hide_ne _ n).trans e), .refl _ _, fun b q => ?_, fun b q => ?_, fun i q => .inl q⟩
      · rcases q with q | rfl | q
        · exact .inl (.inl q)
        · exact .inr (.inr nh₃)
        · exact .inl (.inr (.inr (.inr (.tail _ q))))
      · rcases q with rfl | rfl
        · exact .inl rfl
        · cases q : h₂.get? b with
          | none => exact .inr rfl
          | some ob =>
            have := F₃.keep _ _ (K₃ _ _ ((Heap.hide_ne _ nL4).trans q))
            rw [n₄] at this; cases this
    have GR : GrdR w z Rg h₄ := G.to (fun b ob q e => up0 b ob (.inl q) e) fun _ _ q => q
    have gp : ∀ b, Rg b → b < z ∧ ∃ o, h₄.get? b = some o := fun b q => let ⟨a, ob, e⟩ := hg b q; ⟨a, ob, up0 b ob (.inl q) e⟩
    have ns₄ : NdS h₄ 0 ks := ns.mv _ _ fun b ob q e => up0 b ob (.inr (.inr (.inr (.tail _ q)))) e
    have nod₄ : (c :: Rd 0 ks).Nodup := by
      simp only [List.nodup_cons, List.mem_cons, not_or] at nod ⊢
      exact ⟨nod.1.2.2, nod.2.2.2⟩
    obtain ⟨m, hm, ns5⟩ : ∃ m : Str → Option Value, m (Str.ofString "depth") = some (.int ((0 : Nat) : Int) tk) ∧ h₄.Ns L m := ⟨_, rfl, F₄.ns⟩
    have hsz := hln
    have r5 := r₂
    have I5 := I₄
    clear K₄' k₄ K₄ n₄ F₄ K₃' nh₃ n₃ l₃ K₃ F₃ F₂ hns₂ eL2 eL1 hlen nod ns hl hl₂ nd nd₂ G₂ G₂' up0 up a0 hA a₂ le r₂ I₄ hln G hg nin r
    rename_i t₅
    induction ks generalizing A h₄ g₂ d₂ t₅ o₂ m with
    | nil =>
      have hh := (Rm.over (k := 2 * 0 + 1) r5 (FsOk.for1 (target := .Name (Str.ofString "child") default) (I := .ref it) (body := []) (b2 := []) (env := env) (k := k1) (l := []) (p := p1))).hh
      refine sx_forLoop ((itr_list hh (by assumption)).done _ _ _ h₄ g₂ d₂ _ o₂ _ _ I5 fun h' g' d' t' kW kG => ?_)
      refine s_pop pr w A _ [] _ _ (.ok .next) _ rfl k1 none false _ _ p1 [] ?_
      rw [hk1]
      show SegX _ A _ (.pure (.done (.ret .none))) [] _ _
      refine s_end pr w A _ _ _ (.ok (.ret .none)) _ rfl ?_
      exact ⟨h', g', d', t', rfl, rfl, kW.wide (fun b q => .inr q), kG⟩
    | cons x ks r ihk ihr =>
      clear ihk
      have hh := (Rm.over (k := 2 * 0 + 1) r5 (FsOk.for1 (target := .Name (Str.ofString "child") default) (I := .ref it) (body := []) (b2 := []) (env := env) (k := k1) (l := []) (p := p1))).hh
      refine sx_forLoop ((itr_list hh (by assumption)).item _ _ _ _ _ h₄ g₂ d₂ _ o₂ _ _ I5 fun v R' W' GF' h₅ g₅ d₅ t₆ hv I6 kW kG gW gR gG => ?_)
      obtain ⟨rfl, _⟩ := hv
      obtain ⟨iR, iW, iG, iX⟩ := I6
      refine wpAny_pure ?_
      have ns6 : h₅.Ns L m := by
        obtain ⟨oL, esL, epL, e1, e2⟩ := ns5
        exact ⟨oL, esL, epL, kW L oL (fun e => nL4 e.symm) e1, e2⟩
      have F5 := Fm.hide ns6
      refine wpAny_assign_Name (kStore F5 rfl rfl rfl fun h₆ t₇ F₆ H' => sx_cons (sx_If fun A₁ hA₁ => ?_))
      have k46 : ∀ b ob, b ≠ L → b ≠ it → h₄.get? b = some ob → (h₅.hide L).get? b = some ob := fun b ob n1 n2 e => (Heap.hide_ne _ n1).trans (kW b ob n2 e)
      have pL6 : ∃ ob, h₆.get? L = some ob := F₆.there
      have pit6 : ∃ ob, h₆.get? it = some ob := by
        obtain ⟨i, items, ⟨oi, e, _⟩, _⟩ := iX
        exact ⟨oi, F₆.keep _ _ ((Heap.hide_ne _ nL4).trans e)⟩
      have pD6 : ∃ ob, h₆.get? D₃ = some ob := by
        obtain ⟨i, items, _, ⟨oi, e, _⟩, _⟩ := iX
        exact ⟨oi, F₆.keep _ _ ((Heap.hide_ne _ nLD).trans e)⟩
      have pr6 : ∀ b, Rg b → ∃ ob, h₄.get? b = some ob ∧ h₆.get? b = some ob := fun b q => by
        obtain ⟨_, ob, e⟩ := gp b q
        exact ⟨ob, e, F₆.keep _ _ (k46 b ob (hnw b (.inl q)).1 (hnw b (.inl q)).2.1 e)⟩
      repeat' walk1
      rw [if_neg (by decide)]
      refine sx_nil ?_
      refine SegX.mono ?yl fun e s' q => GPost.back (R₁ := fun b => Rg b ∨ b = D₃ ∨ b ∈ Rd 0 (.cons x ks r)) (W₁ := fun b => b = L ∨ b = it) (GF₁ := noneG) (h₁ := h₆) (g₁ := g₅) ?gr q
      case gr => exact ⟨fun b ob n e => F₆.keep _ _ (k46 b ob (fun e => n (.inl e)) (fun e => n (.inr e)) e), kG, fun b q => .inl q, fun b q => .inl q, fun i q => .inl q⟩
      refine sx_yieldOne (L := L) (x := (x, c)) rfl rfl rfl rfl (by decide) rfl rfl FsOk.for1 F₆.ns (if_pos rfl) (R' := fun b => Rg b ∨ b = D₃ ∨ b ∈ Rd 0 r) (W' := fun b => b = L ∨ b = it) (GF' := noneG) ⟨rfl, ?v⟩ ?fp ?g2 ?next
      case v =>
        rintro (q | q | q)
        · exact Nat.lt_irrefl _ (Nat.lt_of_lt_of_le (gp _ q).1 (hz _ (.head _)))
        · exact (hnw _ (.inr (.inl rfl))).2.2 q
        · rw [rd0] at q; cases q
      case fp =>
        refine ⟨GR.to (fun b ob q e => F₆.keep _ _ (k46 b ob (hnw b (.inl q)).1 (hnw b (.inl q)).2.1 e)) fun b _ q => .inl q, fun b q => ?_, fun b q => ?_, fun i q => q.elim⟩
        · rcases q with q | rfl | q
          · obtain ⟨ob, _, e⟩ := pr6 b q; exact ⟨ob, e⟩
          · exact pD6
          · rw [rd0] at q; cases q
        · rcases q with rfl | rfl
          · exact pL6
          · exact pit6
      case g2 => exact ⟨.refl _ _, .refl _ _, fun b q => .inl (q.imp id fun q => q.imp id fun q => by rw [rd0] at q; cases q), fun b q => .inl q, fun i q => .inl q⟩
      case next =>
        intro A₈ h₈ g₈ d₈ t₈ o₈ r₈ a₈
        refine s_again pr w A₈ _ _ _ _ _ rfl ?_
        have sub : ∀ b, b ∈ Rd 0 r → b ∈ Rd 0 (.cons x ks r) := fun b q => by rw [rd0] at q; cases q
        obtain ⟨oL, esL, epL, e1, e2⟩ := F₆.ns
        refine ihr (fun b q => ?_) A₈ g₈ d₈ o₈ t₈ h₈ (fun b q => hnw b (q.imp id fun q => q.imp id (sub b))) ?_ ?_ (nds0 _ _) (by rw [rd0]; simp) _ ?_ ⟨oL, esL, epL, a₈.1 L oL (.inr (.inl rfl)) e1, e2⟩ (by simp only [Fo.size] at hsz; omega) r₈ ?_
        · rcases List.mem_cons.mp q with q | q
          · exact hz b (q ▸ .head _)
          · exact hz b (.tail _ (sub b q))
        · exact GR.to (fun b ob q e => a₈.1 b ob (.inl (.inl q)) (F₆.keep _ _ (k46 b ob (hnw b (.inl q)).1 (hnw b (.inl q)).2.1 e))) fun _ _ q => q
        · exact fun b q => ⟨(gp b q).1, let ⟨ob, _, e⟩ := pr6 b q; ⟨ob, a₈.1 b ob (.inl (.inl q)) e⟩⟩
        · show (if _ then _ else _) = _
          rw [if_neg (by decide)]; exact hm
        · obtain ⟨i, items, ⟨oi, e1, e2, e3⟩, ⟨ol, f1, f2⟩, e5⟩ := iX
          refine ⟨fun _ => Iff.rfl, fun _ => Iff.rfl, fun _ => id, i, items, ⟨oi, ?_, e2, e3⟩, ⟨ol, ?_, f2⟩, e5⟩
          · exact a₈.1 it oi (.inr (.inr rfl)) (F₆.keep _ _ ((Heap.hide_ne _ nL4).trans e1))
          · exact a₈.1 D₃ ol (.inl (.inr (.inl rfl))) (F₆.keep _ _ ((Heap.hide_ne _ nLD).trans f1))

theorem wk_succ {k : Nat} (ih : GenSpec w z 56 wk k) : GenSpec w z 56 wk (k + 1) := by
  intro ks P C dd c tk A h g d t o Q E Rg hC r G hg nd hl hln ns nod hz H
  refine callG (binds := [(Str.ofString "self", .ref P), (Str.ofString "depth", .int ((k + 1 : Nat) : Int) tk)]) G.grd rfl rfl rfl rfl (by have := r.dp; omega) rfl rfl rfl rfl rfl rfl ?_
  intro L ga h₁ t₁ le nL nga ne hns ig env
  have nin : ∀ b ob, h.get? b = some ob → b ≠ L := fun b ob e q => by rw [q, nL] at e; cases e
  refine H ga h₁ t₁ (fun b => (Rg b ∨ b = P ∨ b = dd ∨ b ∈ c :: Rd (k + 1) ks) ∨ b = ga) (fun b => b = L) (fun i => i = g.size) _ ⟨fun b => Rg b ∨ b = P ∨ b = dd ∨ b ∈ c :: Rd (k + 1) ks, noneG, _, _, _, _, ig, push_get, rfl, id, ne, .inl ⟨rfl, rfl, rfl⟩, ?gs, ?fp, fun _ => Iff.rfl, fun i => ⟨.inr, fun q => q.elim False.elim id⟩, ?hv⟩ le ⟨_, rfl, rfl⟩ (fun b q => q ▸ nL) ?rr fun i q => q
  case hv =>
    intro x hx v R' q
    refine ⟨q.1, fun e => e.elim q.2 fun e => ?_⟩
    have hp : ∃ o, h.get? x.2 = some o := by
      rcases wk_mem _ _ _ x hx with q | q
      · obtain ⟨n, hl⟩ := hl; exact ⟨_, q ▸ hl⟩
      · exact ns.there _ _ _ q
    obtain ⟨o', e'⟩ := hp
    rw [e, nga] at e'; cases e'
  case fp =>
    refine ⟨G.to (fun b ob _ e => le b ob e) fun b _ q => .inl q, fun b q => ?_, fun b q => (let ⟨oL, _, _, e, _⟩ := hns; ⟨oL, q ▸ e⟩), fun i q => q.elim⟩
    obtain ⟨es, n, i, _⟩ := nd.ex
    rcases q with q | rfl | rfl | q
    · obtain ⟨ob, e⟩ := (hg b q).2; exact ⟨ob, le b ob e⟩
    · exact ⟨_, le _ _ i.ob⟩
    · exact ⟨_, le _ _ i.dt⟩
    · rcases List.mem_cons.mp q with rfl | q
      · obtain ⟨n, hl⟩ := hl; exact ⟨_, le _ _ hl⟩
      · obtain ⟨ob, e⟩ := ns.there _ _ b q; exact ⟨ob, le _ _ e⟩
  case rr =>
    intro b q
    rcases q with (q | q | q | q) | rfl
    · exact .inl q
    · exact .inr (.inl q)
    · exact .inr (.inr (.inl q))
    · exact .inr (.inr (.inr (.inl q)))
    · exact .inr (.inr (.inr (.inr nga)))
  case gs =>
    clear H ig ne nga
    refine GS_iff.mpr fun A h₂ g₂ d₂ t₂ o₂ r₂ a₂ => sx_func fun H => sx_cons (sx_For (fun _ => rfl) fun A' hA => ?_)
    have a0 : ∀ b ob, (Rg b ∨ b = P ∨ b = dd ∨ b ∈ c :: Rd (k + 1) ks) → h.get? b = some ob → h₂.get? b = some ob := fun b ob q e => a₂.1 b ob (.inl q) (le b ob e)
    have G₂ : GrdR w z Rg (h₂.hide L) := G.to (fun b ob q e => (Heap.hide_ne _ (nin b ob e)).trans (a0 b ob (.inl q) e)) fun _ _ q => q
    have G₂' := G₂.grd
    have nd₂ : Nd (h₂.hide L) C P dd c := nd.mv fun b ob q e => (Heap.hide_ne _ (nin b ob e)).trans (a0 b ob (.inr (q.imp id .inl)) e)
    have hl₂ : ListAt (h₂.hide L) c ks.refs := let ⟨n, e⟩ := hl; ⟨n, (Heap.hide_ne _ (nin _ _ e)).trans (a0 _ _ (.inr (.inr (.inr (.head _)))) e)⟩
    obtain ⟨oL, esL, epL, eL1, eL2⟩ := hns
    have hns₂ : h₂.Ns L (fun x => List.lookup x [(Str.ofString "self", Value.ref P), (Str.ofString "depth", Value.int ((k + 1 : Nat) : Int) tk)].reverse) := ⟨oL, esL, epL, a₂.1 L oL (.inr rfl) eL1, eL2⟩
    have F₂ := Fm.hide hns₂
    have hlen : ks.refs.length ≤ 900 := Nat.le_trans (refs_le ks) hln
    repeat' walk1
    rename_i D₃ h₃ B₃ F₃ K₃ l₃ n₃ nh₃ K₃' it h₄ B₄ F₄ K₄ k₄ n₄ e₄ I₄ K₄' k1 p1 hk1
    have up : ∀ b ob, (h₂.hide L).get? b = some ob → h₄.get? b = some ob := fun b ob e => F₄.keep b ob (K₄ b ob (K₃ b ob e))
    have up0 : ∀ b ob, (Rg b ∨ b = P ∨ b = dd ∨ b ∈ c :: Rd (k + 1) ks) → h.get? b = some ob → h₄.get? b = some ob := fun b ob q e => up b ob ((Heap.hide_ne _ (nin b ob e)).trans (a0 b ob q e))
    have nL4 : it ≠ L := fun e => by obtain ⟨ob, q⟩ := F₃.there; rw [← e, n₄] at q; cases q
    have nLD : D₃ ≠ L := fun e => by obtain ⟨ob, q⟩ := F₂.there; rw [← e, nh₃] at q; cases q
    have hnw : ∀ b, (Rg b ∨ b = c ∨ b ∈ Rd (k + 1) ks) → b ≠ L ∧ b ≠ it ∧ b ≠ D₃ := fun b q => by
      have : ∃ ob, h.get? b = some ob := by
        rcases q with q | rfl | q
        · exact (hg b q).2
        · obtain ⟨n, e⟩ := hl; exact ⟨_, e⟩
        · exact ns.there _ _ b q
      obtain ⟨ob, e⟩ := this
      have e2 : (h₂.hide L).get? b = some ob := (Heap.hide_ne _ (nin b ob e)).trans (a0 b ob (q.imp id fun q => .inr (.inr (by rcases q with rfl | q; exact .head _; exact .tail _ q))) e)
      refine ⟨nin b ob e, fun e' => ?_, fun e' => ?_⟩
      · have := F₃.keep _ _ (K₃ _ _ e2); rw [e', n₄] at this; cases this
      · rw [e', n₃] at e2; cases e2
    refine SegX.mono ?_ fun e s' q => GPost.back (R₁ := fun b => Rg b ∨ b = D₃ ∨ b ∈ Rd (k + 1) ks) (W₁ := fun b => b = L ∨ b = it) (GF₁ := noneG) (h₁ := h₄) (g₁ := g₂) ?gr q
    case gr =>
      have kk : ∀ b, h₂.get? b = none ∨ b = L ∨ ∃ ob, (h₂.hide L).get? b = some ob := fun b => by
        cases q : h₂.get? b with
        | none => exact .inl rfl
        | some ob => exact (Decidable.em (b = L)).elim (fun e => .inr (.inl e)) fun e => .inr (.inr ⟨ob, (Heap.hide_ne _ e).trans q⟩)
      refine ⟨fun b ob n e => up b ob ((Heap.hide_ne _ n).trans e), .refl _ _, fun b q => ?_, fun b q => ?_, fun i q => .inl q⟩
      · rcases q with q | rfl | q
        · exact .inl (.inl q)
        · exact .inr (.inr nh₃)
        · exact .inl (.inr (.inr (.inr (.tail _ q))))
      · rcases q with rfl | rfl
        · exact .inl rfl
        · cases q : h₂.get? b with
          | none => exact .inr rfl
          | some ob =>
            have := F₃.keep _ _ (K₃ _ _ ((Heap.hide_ne _ nL4).trans q))
            rw [n₄] at this; cases this
    have GR : GrdR w z Rg h₄ := G.to (fun b ob q e => up0 b ob (.inl q) e) fun _ _ q => q
    have gp : ∀ b, Rg b → b < z ∧ ∃ o, h₄.get? b = some o := fun b q => let ⟨a, ob, e⟩ := hg b q; ⟨a, ob, up0 b ob (.inl q) e⟩
    have ns₄ : NdS h₄ (k + 1) ks := ns.mv _ _ fun b ob q e => up0 b ob (.inr (.inr (.inr (.tail _ q)))) e
    have nod₄ : (c :: Rd (k + 1) ks).Nodup := by
      simp only [List.nodup_cons, List.mem_cons, not_or] at nod ⊢
      exact ⟨nod.1.2.2, nod.2.2.2⟩
    obtain ⟨m, hm, ns5⟩ : ∃ m : Str → Option Value, m (Str.ofString "depth") = some (.int ((k + 1 : Nat) : Int) tk) ∧ h₄.Ns L m := ⟨_, rfl, F₄.ns⟩
    have hsz := hln
    have r5 := r₂
    have I5 := I₄
    clear K₄' k₄ K₄ n₄ F₄ K₃' nh₃ n₃ l₃ K₃ F₃ F₂ hns₂ eL2 eL1 hlen nod ns hl hl₂ nd nd₂ G₂ G₂' up0 up a0 hA a₂ le r₂ I₄ hln G hg nin r
    rename_i t₅
    induction ks generalizing A h₄ g₂ d₂ t₅ o₂ m with
    | nil =>
      have hh := (Rm.over (k := 2 * (k + 1) + 1) r5 (FsOk.for1 (target := .Name (Str.ofString "child") default) (I := .ref it) (body := []) (b2 := []) (env := env) (k := k1) (l := []) (p := p1))).hh
      refine sx_forLoop ((itr_list hh (by assumption)).done _ _ _ h₄ g₂ d₂ _ o₂ _ _ I5 fun h' g' d' t' kW kG => ?_)
      refine s_pop pr w A _ [] _ _ (.ok .next) _ rfl k1 none false _ _ p1 [] ?_
      rw [hk1]
      show SegX _ A _ (.pure (.done (.ret .none))) [] _ _
      refine s_end pr w A _ _ _ (.ok (.ret .none)) _ rfl ?_
      exact ⟨h', g', d', t', rfl, rfl, kW.wide (fun b q => .inr q), kG⟩
    | cons x ks r ihk ihr =>
      clear ihk
      have hh := (Rm.over (k := 2 * (k + 1) + 1) r5 (FsOk.for1 (target := .Name (Str.ofString "child") default) (I := .ref it) (body := []) (b2 := []) (env := env) (k := k1) (l := []) (p := p1))).hh
      have rA := (Rm.over (k := 2 * (k + 1) + 1) r5 (FsOk.for1 (target := .Name (Str.ofString "child") default) (I := .ref it) (body := []) (b2 := []) (env := env) (k := k1) (l := []) (p := p1)))
      refine sx_forLoop ((itr_list hh (by assumption)).item _ _ _ _ _ h₄ g₂ d₂ _ o₂ _ _ I5 fun v R' W' GF' h₅ g₅ d₅ t₆ hv I6 kW kG gW gR gG => ?_)
      obtain ⟨rfl, _⟩ := hv
      obtain ⟨iR, iW, iG, iX⟩ := I6
      refine wpAny_pure ?_
      have ns6 : h₅.Ns L m := by
        obtain ⟨oL, esL, epL, e1, e2⟩ := ns5
        exact ⟨oL, esL, epL, kW L oL (fun e => nL4 e.symm) e1, e2⟩
      have F5 := Fm.hide ns6
      refine wpAny_assign_Name (kStore F5 rfl rfl rfl fun h₆ t₇ F₆ H' => sx_cons (sx_If fun A₁ hA₁ => ?_))
      have r6 : Rm A₁ (2 * (k + 1) + 1) := hA₁ ▸ rA
      have k46 : ∀ b ob, b ≠ L → b ≠ it → h₄.get? b = some ob → (h₅.hide L).get? b = some ob := fun b ob n1 n2 e => (Heap.hide_ne _ n1).trans (kW b ob n2 e)
      repeat' walk1
      rw [if_pos (by rw [bne_iff_ne]; omega)]
      refine sx_cons (sx_For (fun _ => rfl) fun A₂ hA₂ => ?_)
      have r7 : Rm A₂ (2 * (k + 1) + 1) := hA₂ ▸ rA
      have mem : ∀ b, b ∈ Rd (k + 1) (.cons x ks r) ↔ b = x.a ∨ b = x.d ∨ b = x.c ∨ b ∈ Rd k ks ∨ b ∈ Rd (k + 1) r := fun b => by simp only [Rd, List.mem_cons, List.mem_append]
      have k46' : ∀ b ob, (Rg b ∨ b = c ∨ b ∈ Rd (k + 1) (.cons x ks r)) → h₄.get? b = some ob → (h₅.hide L).get? b = some ob := fun b ob q e => k46 b ob (hnw b q).1 (hnw b q).2.1 e
      have G6 : GrdR w z Rg (h₅.hide L) := GR.to (fun b ob q e => k46' b ob (.inl q) e) fun _ _ q => q
      have ns6' : NdS (h₅.hide L) (k + 1) (.cons x ks r) := ns₄.mv _ _ fun b ob q e => k46' b ob (.inr (.inr q)) e
      have G6' := G6.grd
      obtain ⟨nd6, l6, nk6, nr6⟩ := id ns6'
      refine mCall rfl rfl rfl ?_
      refine eLocal F₆ (if_pos rfl) rfl rfl rfl (by decide) ?_
      intro pl
      refine Nd.walkUp (.inr rfl) G6' F₆ nd6 ?_
      refine cwK1 rfl rfl ?_
      repeat' walk1
      have cast : ((k + 1 : Nat) : Int) - 1 = (k : Int) := by omega
      show wpAny (model pr w) A₂ (call (.ref 56) [.ref x.a, .int (((k + 1 : Nat) : Int) - 1) _]) _ _ _
      rw [cast]
      simp only [Fo.size] at hsz
      have pr4 : ∀ b, (Rg b ∨ b = c ∨ b ∈ Rd (k + 1) (.cons x ks r)) → ∀ ob, h₄.get? b = some ob → h₆.get? b = some ob := fun b q ob e => F₆.keep _ _ (k46' b ob q e)
      have pp4 : ∀ b, b ∈ Rd (k + 1) (.cons x ks r) → ∃ ob, h₄.get? b = some ob := fun b q => ns₄.there _ _ b q
      have nodx := rd_split nod₄
      refine ih ks x.a 80 x.d x.c _ A₂ h₆ g₅ d₅ _ o₂ _ _ Rg (.inr rfl) (r7.le (by omega)) ?G ?hg (nd6.mv fun b ob _ e => F₆.keep _ _ e) (l6.le F₆.keep) (by omega) (nk6.mv _ _ fun b ob _ e => F₆.keep _ _ e) nodx.1 ?hz fun ga h₇ t₈ R₇ W₇ GF₇ g₇ S7 le7 gx7 w7 rr7 gf7 => ?_
      case G => exact G6.to (fun b ob _ e => F₆.keep _ _ e) fun _ _ q => q
      case hg => exact fun b q => let ⟨a, ob, e⟩ := gp b q; ⟨a, ob, pr4 b (.inl q) ob e⟩
      case hz => exact fun b q => hz b (.tail _ ((mem b).mpr (by rcases List.mem_cons.mp q with q | q; exact .inr (.inr (.inl q)); exact .inr (.inr (.inr (.inl q))))))
      refine (itr_gen (A := A₂) (k := 2 * k + 2) r7 ga g₅.size).self _ _ _ _ _ _ _ S7 ?_
      intro k2 p2 hk2
      have ab6 : ∀ b, h₆.get? b = none → (b = L ∨ b = it) ∨ h₄.get? b = none := fun b e => by
        cases q : h₄.get? b with
        | none => exact .inr rfl
        | some ob =>
          refine .inl (Decidable.byContradiction fun n => ?_)
          have := F₆.keep _ _ (k46 b ob (fun e => n (.inl e)) (fun e => n (.inr e)) q)
          rw [e] at this; cases this
      have pL6 : ∃ ob, h₆.get? L = some ob := F₆.there
      have pit6 : ∃ ob, h₆.get? it = some ob := by
        obtain ⟨i, items, ⟨oi, e, _⟩, _⟩ := iX
        exact ⟨oi, F₆.keep _ _ ((Heap.hide_ne _ nL4).trans e)⟩
      have pD6 : ∃ ob, h₆.get? D₃ = some ob := by
        obtain ⟨i, items, _, ⟨oi, e, _⟩, _⟩ := iX
        exact ⟨oi, F₆.keep _ _ ((Heap.hide_ne _ nLD).trans e)⟩
      have pr6 : ∀ b, (Rg b ∨ b ∈ Rd (k + 1) r) → ∃ ob, h₆.get? b = some ob := fun b q => by
        rcases q with q | q
        · obtain ⟨_, ob, e⟩ := gp b q; exact ⟨ob, pr4 b (.inl q) ob e⟩
        · obtain ⟨ob, e⟩ := pp4 b ((mem b).mpr (.inr (.inr (.inr (.inr q))))); exact ⟨ob, pr4 b (.inr (.inr ((mem b).mpr (.inr (.inr (.inr (.inr q))))))) ob e⟩
      have mr : ∀ b, b ∈ Rd (k + 1) r → b ∈ Rd (k + 1) (.cons x ks r) := fun b q => (mem b).mpr (.inr (.inr (.inr (.inr q))))
      obtain ⟨gx, rfl, gxb⟩ := gx7
      refine SegX.mono ?yl fun e s' q => GPost.back (R₁ := fun b => R₇ b ∨ Rg b ∨ b = D₃ ∨ b ∈ Rd (k + 1) r) (W₁ := fun b => W₇ b ∨ b = L ∨ b = it) (GF₁ := fun i => GF₇ i ∨ noneG i) (h₁ := h₇) (g₁ := g₅.push gx) ?gr q
      case gr =>
        have pn : ∀ b, R₇ b → (Rg b ∨ b = D₃ ∨ b ∈ Rd (k + 1) (.cons x ks r)) ∨ (b = L ∨ b = it) ∨ h₄.get? b = none := fun b q => by
          rcases rr7 b q with q | rfl | rfl | q | q
          · exact .inl (.inl q)
          · exact .inl (.inr (.inr ((mem _).mpr (.inl rfl))))
          · exact .inl (.inr (.inr ((mem _).mpr (.inr (.inl rfl)))))
          · exact .inl (.inr (.inr ((mem b).mpr (by rcases List.mem_cons.mp q with q | q; exact .inr (.inr (.inl q)); exact .inr (.inr (.inr (.inl q)))))))
          · exact .inr (ab6 b q)
        refine ⟨fun b ob n e => le7 _ _ (F₆.keep _ _ (k46 b ob (fun e => n (.inl e)) (fun e => n (.inr e)) e)), ⟨fun i y _ e => ?_, fun q => ?_⟩, fun b q => ?_, fun b q => ?_, fun i q => ?_⟩
        · have e' := kG.1 i y id e
          rw [Array.getElem?_push, if_neg (fun q => by rw [q] at e'; simp at e')]; exact e'
        · intro y hy
          rcases Array.mem_push.mp hy with hy | rfl
          · exact kG.2 q y hy
          · exact gxb
        · rcases q with q | q | q | q
          · exact pn b q
          · exact .inl (.inl q)
          · exact .inl (.inr (.inl q))
          · exact .inl (.inr (.inr (mr b q)))
        · rcases q with q | q
          · exact ab6 b (w7 b q)
          · exact .inl q
        · refine .inr ?_
          rcases q with q | q
          · rw [gf7 i q]
            cases e : g₂[g₅.size]? with
            | none => rfl
            | some y => have := kG.1 _ _ id e; simp at this
          · exact q.elim
      case yl =>
        refine loop_yield (k := 2 * k + 2 + 1) (St := GSt w z (2 * k + 2) vl ga g₅.size) (fun A rr => itr_gen rr ga g₅.size) rfl rfl rfl (by decide) rfl rfl FsOk.for2 (h₀ := h₇) (g₀ := g₅.push gx) (m₀ := fun y => if y = Str.ofString "child" then some (.ref x.a) else m y) ?P (.inl rfl) ?hR ?cont (wk k ks x.c) R₇ W₇ GF₇ A h₇ (g₅.push gx) d₅ t₈ o₂ _ ?hv r5 ?nsl (fun _ _ _ _ e => e) (fun _ _ _ e => e) (fun _ _ => rfl) S7 ?hW ?hRL fun _ _ => id
        case P => exact ⟨G6.to (fun b ob _ e => le7 _ _ (F₆.keep _ _ e)) fun b _ q => .inl q, fun b q => by
            rcases q with q | rfl | q
            · obtain ⟨ob, e⟩ := pr6 b (.inl q); exact ⟨ob, le7 _ _ e⟩
            · obtain ⟨ob, e⟩ := pD6; exact ⟨ob, le7 _ _ e⟩
            · obtain ⟨ob, e⟩ := pr6 b (.inr q); exact ⟨ob, le7 _ _ e⟩, fun b q => by
            rcases q with rfl | rfl
            · obtain ⟨ob, e⟩ := pL6; exact ⟨ob, le7 _ _ e⟩
            · obtain ⟨ob, e⟩ := pit6; exact ⟨ob, le7 _ _ e⟩, fun i q => q.elim⟩
        case hR =>
          rintro (q | q | q)
          · exact (hnw L (.inl q)).1 rfl
          · exact nLD q.symm
          · exact (hnw L (.inr (.inr (mr L q)))).1 rfl
        case nsl =>
          obtain ⟨oL, esL, epL, e1, e2⟩ := F₆.ns
          exact ⟨oL, esL, epL, le7 _ _ e1, e2⟩
        case hv =>
          intro y hy v R' q
          refine ⟨q.1, fun e => e.elim q.2 fun e => ?_⟩
          have hy2 := wk_mem _ _ _ y hy
          have hym : y.2 ∈ Rd (k + 1) (.cons x ks r) := (mem _).mpr (by rcases hy2 with q | q; exact .inr (.inr (.inl q)); exact .inr (.inr (.inr (.inl q))))
          rcases e with e | e | e
          · exact Nat.lt_irrefl _ (Nat.lt_of_lt_of_le (gp _ e).1 (hz _ (.tail _ hym)))
          · exact (hnw _ (.inr (.inr hym))).2.2 e
          · exact nodx.2.2 _ hy2 e
        case hW =>
          intro b q
          have e := w7 b q
          refine ⟨fun q => ?_, fun q => ?_⟩
          · rcases q with q | rfl | q
            · obtain ⟨ob, e'⟩ := pr6 b (.inl q); rw [e] at e'; cases e'
            · obtain ⟨ob, e'⟩ := pD6; rw [e] at e'; cases e'
            · obtain ⟨ob, e'⟩ := pr6 b (.inr q); rw [e] at e'; cases e'
          · rcases q with rfl | rfl
            · obtain ⟨ob, e'⟩ := pL6; rw [e] at e'; cases e'
            · obtain ⟨ob, e'⟩ := pit6; rw [e] at e'; cases e'
        case hRL =>
          intro q
          rcases rr7 L q with q | q | q | q | q
          · exact (hnw L (.inl q)).1 rfl
          · exact (hnw L (.inr (.inr ((mem _).mpr (.inl q))))).1 rfl
          · exact (hnw L (.inr (.inr ((mem _).mpr (.inr (.inl q)))))).1 rfl
          · exact (hnw L (.inr (.inr ((mem _).mpr (by rcases List.mem_cons.mp q with q | q; exact .inr (.inr (.inl q)); exact .inr (.inr (.inr (.inl q)))))))).1 rfl
          · obtain ⟨ob, e'⟩ := pL6; rw [q] at e'; cases e'
        case cont =>
          intro A₈ h₈ g₈ d₈ t₈ o₈ m₈ r₈ ns₈ k₈ _ hm₈
          refine s_pop pr w A₈ _ _ _ _ (.ok .next) _ rfl k2 none false _ _ p2 [] ?_
          rw [hk2]
          refine sx_yieldOne (L := L) (x := (x, c)) rfl rfl rfl rfl (by decide) rfl rfl FsOk.for1 ns₈ (by rw [hm₈ _ (by decide)]; exact if_pos rfl) (R' := fun b => Rg b ∨ b = D₃ ∨ b ∈ Rd (k + 1) r) (W' := fun b => b = L ∨ b = it) (GF' := noneG) ⟨rfl, ?v⟩ ?fp ⟨.refl _ _, .refl _ _, fun b q => .inl q, fun b q => .inl q, fun i q => .inl q⟩ ?next
          case v =>
            rintro (q | q | q)
            · exact Nat.lt_irrefl _ (Nat.lt_of_lt_of_le (gp _ q).1 (hz _ (.head _)))
            · exact (hnw _ (.inr (.inl rfl))).2.2 q
            · exact (List.nodup_cons.mp nodx.2.1).1 q
          case fp =>
            refine ⟨G6.to (fun b ob q e => k₈ b ob (.inl (.inl q)) (hnw b (.inl q)).1 (le7 _ _ (F₆.keep _ _ e))) fun b _ q => .inl q, fun b q => ?_, fun b q => ?_, fun i q => q.elim⟩
            · rcases q with q | rfl | q
              · obtain ⟨ob, e⟩ := pr6 b (.inl q); exact ⟨ob, k₈ b ob (.inl (.inl q)) (hnw b (.inl q)).1 (le7 _ _ e)⟩
              · obtain ⟨ob, e⟩ := pD6; exact ⟨ob, k₈ b ob (.inl (.inr (.inl rfl))) nLD (le7 _ _ e)⟩
              · obtain ⟨ob, e⟩ := pr6 b (.inr q); exact ⟨ob, k₈ b ob (.inl (.inr (.inr q))) (hnw b (.inr (.inr (mr b q)))).1 (le7 _ _ e)⟩
            · rcases q with rfl | rfl
              · exact (let ⟨oL, _, _, e, _⟩ := ns₈; ⟨oL, e⟩)
              · obtain ⟨ob, e⟩ := pit6; exact ⟨ob, k₈ b ob (.inr (.inr rfl)) nL4 (le7 _ _ e)⟩
          case next =>
            intro A₉ h₉ g₉ d₉ t₉ o₉ r₉ a₉
            have nsY : h₉.Ns L m₈ := by
              obtain ⟨oL, esL, epL, e1, e2⟩ := ns₈
              exact ⟨oL, esL, epL, a₉.1 L oL (.inr (.inl rfl)) e1, e2⟩
            have kY : ∀ b ob, ((Rg b ∨ b = D₃ ∨ b ∈ Rd (k + 1) r) ∨ b = L ∨ b = it) → b ≠ L → h₇.get? b = some ob → h₉.get? b = some ob := fun b ob q n e => a₉.1 b ob q (k₈ b ob q n e)
            clear k₈ ns₈ a₉
            refine s_again pr w A₉ _ _ _ _ _ rfl ?_
            have kR : ∀ b ob, (Rg b ∨ b = D₃ ∨ b ∈ Rd (k + 1) r) → h₇.get? b = some ob → h₉.get? b = some ob := fun b ob q e => kY b ob (.inl q) (by
              rcases q with q | q | q
              · exact (hnw b (.inl q)).1
              · exact q ▸ nLD
              · exact (hnw b (.inr (.inr (mr b q)))).1) e
            refine ihr (fun b q => ?_) A₉ g₉ d₉ o₉ t₉ h₉ (fun b q => hnw b (q.imp id fun q => q.imp id (mr b))) ?_ ?_ ?_ nodx.2.1 m₈ ?_ nsY (by omega) r₉ ?_
            · rcases List.mem_cons.mp q with q | q
              · exact hz b (q ▸ .head _)
              · exact hz b (.tail _ (mr b q))
            · exact G6.to (fun b ob q e => kR b ob (.inl q) (le7 _ _ (F₆.keep _ _ e))) fun _ _ q => q
            · exact fun b q => ⟨(gp b q).1, let ⟨ob, e⟩ := pr6 b (.inl q); ⟨ob, kR b ob (.inl q) (le7 _ _ e)⟩⟩
            · exact nr6.mv _ _ fun b ob q e => kR b ob (.inr (.inr q)) (le7 _ _ (F₆.keep _ _ e))
            · rw [hm₈ _ (by decide)]
              show (if _ then _ else _) = _
              rw [if_neg (by decide)]; exact hm
            · obtain ⟨i, items, ⟨oi, e1, e2, e3⟩, ⟨ol, f1, f2⟩, e5⟩ := iX
              refine ⟨fun _ => Iff.rfl, fun _ => Iff.rfl, fun _ => id, i, items, ⟨oi, ?_, e2, e3⟩, ⟨ol, ?_, f2⟩, e5⟩
              · exact kY it oi (.inr (.inr rfl)) nL4 (le7 _ _ (F₆.keep _ _ ((Heap.hide_ne _ nL4).trans e1)))
              · exact kR D₃ ol (.inr (.inl rfl)) (le7 _ _ (F₆.keep _ _ ((Heap.hide_ne _ nLD).trans f1)))

theorem at_spec : ∀ k, GenSpec w z 49 lv k
  | 0 => at_zero
  | k + 1 => at_succ (at_spec k)
theorem wk_spec : ∀ k, GenSpec w z 56 wk k
  | 0 => wk_zero
  | k + 1 => wk_succ (wk_spec k)
end

/-- a small set of strs, at a: its table never grew -/
def SX (w : World) (h : Heap) (a : Addr) (S : Str → Bool) (n : Nat) : Prop :=
  ∃ es ep t, h.get? a = some { cls := .type "set", dict := none, data := .set es ep t, slots := #[] } ∧ ElemsOf (strKind pr w) es.toList ∧ (∀ k, S k = true ↔ ∃ e ∈ es.toList, (strKind pr w).is k e.2 = true) ∧
    t.fits es.size = true ∧ es.size = n ∧ n ≤ 2 ∧ t.mask = 7 ∧ t.dummies = #[]
theorem SX.mv {w h h' a S n} (x : SX w h a S n) (k : ∀ o, h.get? a = some o → h'.get? a = some o) : SX w h' a S n :=
  let ⟨es, ep, t, e, r⟩ := x; ⟨es, ep, t, k _ e, r⟩
theorem SX.there {w h a S n} (x : SX w h a S n) : ∃ o, h.get? a = some o := let ⟨_, _, _, e, _⟩ := x; ⟨_, e⟩
/-- a node with its labels, and its row -/
structure One (w : World) (h : Heap) (p : Addr) (x : NLab) : Prop where
  nd : ∃ es n t1 t2, Inst h x.a 80 x.d es n ∧ getL "children" es = some (some (.ref x.c)) ∧ getL "at_depth" es = some none ∧ getL "walk_up" es = some none ∧ getL "add_child" es = some none ∧ getL "remove_child" es = some none ∧ es.length ≤ 10 ∧
    getL "parent" es = some (some (.ref p)) ∧ getL "valid_policy" es = some (some (.str x.nm t1)) ∧ getL "qualifier_set" es = some (some (.str x.ql t2)) ∧ getL "expected_policy_set" es = some (some (.ref x.hs))
  row : ∃ t3 t4, ListAt h x.r [.str x.nm t3, .str x.ql t4, .ref x.ts, .ref x.rc]
  s1 : SX w h x.hs x.S x.sn
  s2 : SX w h x.ts x.S x.sn
theorem One.Nd {w h p x} (o : One w h p x) : Nd h 80 x.a x.d x.c :=
  let ⟨es, n, t1, t2, i, a, b, c, d, e, f, _⟩ := o.nd; ⟨es, n, i, a, b, c, d, e, f⟩
def Tr (w : World) (h : Heap) : Addr → Fo → Prop
  | _, .nil => True
  | p, .cons x ks r => One w h p x ∧ ListAt h x.c ks.refs ∧ ListAt h x.rc ks.rrefs ∧ Tr w h x.a ks ∧ Tr w h p r
noncomputable def adr : Fo → List Addr
  | .nil => []
  | .cons x ks r => x.a :: x.d :: x.c :: x.hs :: x.r :: x.rc :: x.ts :: (adr ks ++ adr r)
theorem ListAt.mv {h h' : Heap} {a : Addr} {xs : List Value} (l : ListAt h a xs) (k : ∀ o, h.get? a = some o → h'.get? a = some o) : ListAt h' a xs := let ⟨n, e⟩ := l; ⟨n, k _ e⟩
theorem ListAt.there {h : Heap} {a : Addr} {xs : List Value} (l : ListAt h a xs) : ∃ o, h.get? a = some o := let ⟨_, e⟩ := l; ⟨_, e⟩
theorem One.mv {w h h' p x} (o : One w h p x) (k : ∀ b ob, b ∈ [x.a, x.d, x.hs, x.r, x.ts] → h.get? b = some ob → h'.get? b = some ob) : One w h' p x := by
  obtain ⟨⟨es, n, t1, t2, i, r⟩, ⟨t3, t4, l⟩, s1, s2⟩ := o
  exact ⟨⟨es, n, t1, t2, ⟨k _ _ (by simp) i.ob, k _ _ (by simp) i.dt⟩, r⟩, ⟨t3, t4, l.mv fun _ e => k _ _ (by simp) e⟩, s1.mv fun _ e => k _ _ (by simp) e, s2.mv fun _ e => k _ _ (by simp) e⟩
theorem Tr.mv {w : World} {h h' : Heap} : ∀ {p : Addr} {f : Fo}, Tr w h p f → (∀ b o, b ∈ adr f → h.get? b = some o → h'.get? b = some o) → Tr w h' p f
  | _, .nil, _, _ => trivial
  | p, .cons x ks r, ⟨q1, q2, q3, q4, q5⟩, k => by
    simp only [adr, List.mem_cons, List.mem_append] at k
    refine ⟨q1.mv fun b o hb e => k b o (by simp at hb; rcases hb with rfl | rfl | rfl | rfl | rfl <;> simp) e, q2.mv fun o e => k _ o (by simp) e, q3.mv fun o e => k _ o (by simp) e, q4.mv fun b o hb e => k b o (by simp [hb]) e, q5.mv fun b o hb e => k b o (by simp [hb]) e⟩
theorem Tr.there {w : World} {h : Heap} : ∀ {p : Addr} {f : Fo}, Tr w h p f → ∀ b ∈ adr f, ∃ o, h.get? b = some o
  | _, .nil, _, b, hb => by simp [adr] at hb
  | p, .cons x ks r, ⟨q1, q2, q3, q4, q5⟩, b, hb => by
    simp only [adr, List.mem_cons, List.mem_append] at hb
    obtain ⟨⟨es, n, t1, t2, i, _⟩, ⟨t3, t4, l⟩, s1, s2⟩ := q1
    rcases hb with rfl | rfl | rfl | rfl | rfl | rfl | rfl | hb | hb
    · exact ⟨_, i.ob⟩
    · exact ⟨_, i.dt⟩
    · exact q2.there
    · exact s1.there
    · exact l.there
    · exact q3.there
    · exact s2.there
    · exact q4.there b hb
    · exact q5.there b hb
theorem Tr.nds {w : World} {h : Heap} : ∀ (k : Nat) {p : Addr} {f : Fo}, Tr w h p f → NdS h k f
  | _, _, .nil, _ => by simp [NdS]
  | 0, _, .cons .., _ => by simp [NdS]
  | k + 1, p, .cons x ks r, ⟨q1, q2, q3, q4, q5⟩ => by
    simp only [NdS]
    exact ⟨q1.Nd, q2, q4.nds k, q5.nds (k + 1)⟩
theorem rd_sub : ∀ (k : Nat) (f : Fo), (Rd k f).Sublist (adr f)
  | _, .nil => by simp [Rd]
  | 0, .cons .. => by simp [Rd]
  | k + 1, .cons x ks r => by
    simp only [Rd, adr]
    refine .cons_cons _ (.cons_cons _ (.cons_cons _ (.cons _ (.cons _ (.cons _ (.cons _ ?_))))))
    exact (rd_sub k ks).append (rd_sub (k + 1) r)

section
variable {w : World} {z : Nat} {A : Around} {E : Value → Shared → Prop} {h : Heap} {g : Array GenState} {d : Drawn} {t : Nat} {o : OsState}
/-- a node newly made -/
structure NewNode (h₀ h : Heap) (z : Nat) (a dd c : Addr) (nm ql : Str) (hs : Addr) : Prop where
  nd : ∃ es n t1 t2, Inst h a 80 dd es n ∧ es.length ≤ 4 ∧ getL "children" es = some (some (.ref c)) ∧ getL "at_depth" es = some none ∧ getL "walk_up" es = some none ∧ getL "add_child" es = some none ∧ getL "remove_child" es = some none ∧ getL "parent" es = some none ∧
    getL "valid_policy" es = some (some (.str nm t1)) ∧ getL "qualifier_set" es = some (some (.str ql t2)) ∧ getL "expected_policy_set" es = some (some (.ref hs))
  kids : ListAt h c []
  na : h₀.get? a = none
  ndd : h₀.get? dd = none
  nc : h₀.get? c = none
  za : z ≤ a
  zd : z ≤ dd
  zc : z ≤ c
  n1 : a ≠ dd
  n2 : a ≠ c
  n3 : dd ≠ c
theorem mkNode {nm ql : Str} {t1 t2 : Tok} {hs : Addr} {Q : Value → Shared → Prop} (G : Grd w z h) (r : Rm A 3)
    (H : ∀ a dd c h' t', Le h h' → NewNode h h' z a dd c nm ql hs → Q (.ref a) ⟨h', g, d, t', o⟩) :
    wpAny (model pr w) A (call (.ref 80) [.str nm t1, .str ql t2, .ref hs]) Q E ⟨h, g, d, t, o⟩ := by
  refine mkA (fI := 77) G rfl rfl rfl fun x dd h₁ le I nx nd zx zd nxd => ?_
  refine codeF (binds := [(Str.ofString "self", .ref x), (Str.ofString "valid_policy", .str nm t1), (Str.ofString "qualifier_set", .str ql t2), (Str.ofString "expected_policy_set", .ref hs)]) (G.le le) rfl rfl rfl rfl (by have := (r.make (C := 80) (vals := [.str nm t1, .str ql t2, .ref hs])).dp; omega) rfl rfl rfl rfl rfl rfl ?_
  intro h₂ F env A'
  dsimp only at F ⊢
  have G₁ := G.le le
  have zL : z ≤ h₁.objs.size := G₁.size
  repeat' walk1
  refine setA G₁ F zL I zd rfl rfl rfl rfl rfl (by simp) fun h₃ B₃ t₃ es₃ n₃ F₃ K₃ I₃ e₃ o₃ l₃ => ?_
  have G₃ := G₁.kp K₃ (fun b e => e ▸ zd)
  simp only [List.length_nil] at l₃
  repeat' walk1
  refine setA G₃ F₃ zL I₃ zd rfl rfl rfl rfl (by rw [o₃ _ (by decide)]; rfl) (by omega) fun h₄ B₄ t₄ es₄ n₄ F₄ K₄ I₄ e₄ o₄ l₄ => ?_
  have G₄ := G₃.kp K₄ (fun b e => e ▸ zd)
  repeat' walk1
  refine setA G₄ F₄ zL I₄ zd rfl rfl rfl rfl (by rw [o₄ _ (by decide), o₃ _ (by decide)]; rfl) (by omega) fun h₅ B₅ t₅ es₅ n₅ F₅ K₅ I₅ e₅ o₅ l₅ => ?_
  have G₅ := G₄.kp K₅ (fun b e => e ▸ zd)
  repeat' walk1
  rename_i D h₆ B₆ F₆ K₆ l₆ n₆ nh₆ zz₆ K₆'
  have I₆ := I₅.le K₆
  have G₆ := G₅.le K₆
  refine setA G₆ F₆ zL I₆ zd rfl rfl rfl rfl (by rw [o₅ _ (by decide), o₄ _ (by decide), o₃ _ (by decide)]; rfl) (by omega) fun h₇ B₇ t₇ es₇ n₇ F₇ K₇ I₇ e₇ o₇ l₇ => ?_
  repeat' walk1
  have nDd : D ≠ dd := fun e => by have := I₅.dt; rw [← e, n₆] at this; cases this
  have nDx : D ≠ x := fun e => by have := I₅.ob; rw [← e, n₆] at this; cases this
  have k17 : Kp (fun b => b = dd) h₁ h₇ := ((((((K₃.trans K₄).trans K₅).trans K₆').trans K₇).trans F₇.out).wide fun p q => by
    rcases q with ((((q | q) | q) | q) | q) | q <;> first | exact q | exact q.elim)
  refine H x dd D h₇ _ (fun b ob e => ?_) ?_
  · exact k17 b ob (fun q => by rw [q, nd] at e; cases e) (le b ob e)
  · refine ⟨⟨es₇, n₇, t1, t2, I₇.le F₇.keep, by omega, e₇, ?_, ?_, ?_, ?_, ?_, ?_, ?_, ?_⟩, ?_, nx, nd, ?_, zx, zd, ?_, nxd, fun e => nDx e.symm, fun e => nDd e.symm⟩
    · rw [o₇ _ (by decide), o₅ _ (by decide), o₄ _ (by decide), o₃ _ (by decide)]; rfl
    · rw [o₇ _ (by decide), o₅ _ (by decide), o₄ _ (by decide), o₃ _ (by decide)]; rfl
    · rw [o₇ _ (by decide), o₅ _ (by decide), o₄ _ (by decide), o₃ _ (by decide)]; rfl
    · rw [o₇ _ (by decide), o₅ _ (by decide), o₄ _ (by decide), o₃ _ (by decide)]; rfl
    · rw [o₇ _ (by decide), o₅ _ (by decide), o₄ _ (by decide), o₃ _ (by decide)]; rfl
    · rw [o₇ _ (by decide), o₅ _ (by decide), o₄ _ (by decide), e₃]
    · rw [o₇ _ (by decide), o₅ _ (by decide), e₄]
    · rw [o₇ _ (by decide), e₅]
    · exact (l₆.kp K₇ nDd).le F₇.keep
    · cases q : h.get? D with
      | none => rfl
      | some ob =>
        have e1 := ((((K₃.trans K₄).trans K₅))) D ob (fun q => by rcases q with (q | q) | q <;> exact nDd q) (le D ob q)
        rw [n₆] at e1; cases e1
    · exact Nat.le_trans (G₅.le F₅.keep).size zz₆
end

section
variable {w : World} {z : Nat} {A : Around} {E : Value → Shared → Prop} {h : Heap} {g : Array GenState} {d : Drawn} {t : Nat} {o : OsState}
theorem addChild {P C dd c : Addr} {xs : List Value} {nm ql : Str} {t1 t2 : Tok} {hs : Addr} {Q : Value → Shared → Prop} (hC : Cls C) (G : Grd w z h) (r : Rm A 4) (nd : Nd h C P dd c) (hl : ListAt h c xs) (hz : xs.length ≤ 900) (zc : z ≤ c)
    (H : ∀ a da ca h' t' es n t1 t2, Kp (fun b => b = c) h h' → ListAt h' c (xs ++ [.ref a]) → Inst h' a 80 da es n → es.length ≤ 10 → getL "children" es = some (some (.ref ca)) → getL "at_depth" es = some none → getL "walk_up" es = some none → getL "add_child" es = some none → getL "remove_child" es = some none → getL "parent" es = some (some (.ref P)) →
      getL "valid_policy" es = some (some (.str nm t1)) → getL "qualifier_set" es = some (some (.str ql t2)) → getL "expected_policy_set" es = some (some (.ref hs)) → ListAt h' ca [] → h.get? a = none → h.get? da = none → h.get? ca = none → z ≤ a → z ≤ da → z ≤ ca → a ≠ da → a ≠ ca → da ≠ ca →
      Q .none ⟨h', g, d, t', o⟩) :
    wpAny (model pr w) A (call (.ref 35) [.ref P, .str nm t1, .str ql t2, .ref hs]) Q E ⟨h, g, d, t, o⟩ := by
  refine callF (binds := [(Str.ofString "self", .ref P), (Str.ofString "valid_policy", .str nm t1), (Str.ofString "qualifier_set", .str ql t2), (Str.ofString "expected_policy_set", .ref hs)]) G rfl rfl rfl rfl (by have := r.dp; omega) rfl rfl rfl rfl rfl rfl ?_
  intro h₂ F env A'
  have zL : z ≤ h.objs.size := G.size
  repeat' walk1
  refine mkNode (G.le F.keep) (show Rm A' 3 from r.deeper) fun a da ca h₃ t₃ le₃ N => ?_
  obtain ⟨B₃, F₃, K₃, up₃⟩ := F.after (Le.kp le₃ none1) id
  obtain ⟨⟨es, n, u1, u2, I, el, e1, e2, e3, e4, e5, e6, e7, e8, e9⟩, kd, na, nda, nca, za, zd, zca, n1, n2, n3⟩ := N
  have pL : ∃ ob, h₂.get? h.objs.size = some ob := F.there
  have ne : ∀ b, h₂.get? b = none → b ≠ h.objs.size := fun b e q => by obtain ⟨ob, e'⟩ := pL; rw [← q, e] at e'; cases e'
  have I₃ : Inst B₃ a 80 da es n := ⟨up₃ _ _ (ne _ na) I.ob, up₃ _ _ (ne _ nda) I.dt⟩
  have kd₃ : ListAt B₃ ca [] := let ⟨q, e⟩ := kd; ⟨q, up₃ _ _ (ne _ nca) e⟩
  have nn : ∀ b, h₂.get? b = none → h.get? b = none := fun b e => by
    cases q : h.get? b with
    | none => rfl
    | some ob => rw [F.keep _ _ q] at e; cases e
  repeat' walk1
  rename_i h₄ t₄ F₄
  refine setA (G.kp K₃ fun b e => e.elim) F₄ zL I₃ zd rfl rfl rfl rfl (by rw [e6]; rfl) (by omega) fun h₅ B₅ t₅ es₅ n₅ F₅ K₅ I₅ q₅ o₅ l₅ => ?_
  have kd₅ : ListAt B₅ ca [] := kd₃.kp K₅ (fun e => n3 e.symm)
  have G₃ := G.kp K₃ fun b e => e.elim
  have G₅ := G₃.kp K₅ fun b e => e ▸ zd
  have ncd : c ≠ da := fun e => by obtain ⟨q, e'⟩ := hl; rw [e, nn _ nda] at e'; cases e'
  have nPd : P ≠ da := fun e => by obtain ⟨es, n, i, _⟩ := nd.ex; have := i.ob; rw [e, nn _ nda] at this; cases this
  have nddd : dd ≠ da := fun e => by obtain ⟨es, n, i, _⟩ := nd.ex; have := i.dt; rw [e, nn _ nda] at this; cases this
  have nd₅ := (nd.kp K₃ id id).kp K₅ nPd nddd
  have hl₅ := (hl.kp K₃ id).kp K₅ ncd
  repeat' walk1
  rename_i t₆ h₆ B₆ F₆ K₆ l₆
  have nac : a ≠ c := fun e => by obtain ⟨q, e'⟩ := hl; rw [← e, nn _ na] at e'; cases e'
  have ncc : ca ≠ c := fun e => by obtain ⟨q, e'⟩ := hl; rw [← e, nn _ nca] at e'; cases e'
  have I₆ := (I₅.kp K₆ nac (fun e => ncd e.symm)).le F₆.keep
  have l' := l₆.le F₆.keep
  have kd₆ := (kd₅.kp K₆ ncc).le F₆.keep
  refine H a da ca h₆ _ es₅ n₅ u1 u2 (fun b ob n e => ?_) l' I₆ (by omega) ?_ ?_ ?_ ?_ ?_ q₅ ?_ ?_ ?_ kd₆ (nn _ na) (nn _ nda) (nn _ nca) za zd zca n1 n2 n3
  · exact F₆.keep _ _ (K₆ b ob n (K₅ b ob (fun q => by rw [q, nn _ nda] at e; cases e) (K₃ b ob id e)))
  all_goals (rw [o₅ _ (by decide)]; assumption)
end

section
variable {w : World} {z : Nat} {A : Around} {E : Value → Shared → Prop} {h : Heap} {g : Array GenState} {d : Drawn} {t : Nat} {o : OsState}
theorem mkRoot {nm ql : Str} {t1 t2 : Tok} {hs : Addr} {Q : Value → Shared → Prop} (G : Grd w z h) (r : Rm A 7)
    (H : ∀ rt rd rc a da ca h' t' es n t1 t2, Le h h' → Nd h' 59 rt rd rc → ListAt h' rc [.ref a] → Inst h' a 80 da es n → es.length ≤ 10 → getL "children" es = some (some (.ref ca)) → getL "at_depth" es = some none → getL "walk_up" es = some none → getL "add_child" es = some none → getL "remove_child" es = some none → getL "parent" es = some (some (.ref rt)) →
      getL "valid_policy" es = some (some (.str nm t1)) → getL "qualifier_set" es = some (some (.str ql t2)) → getL "expected_policy_set" es = some (some (.ref hs)) → ListAt h' ca [] → (∀ b ∈ [rt, rd, rc, a, da, ca], h.get? b = none ∧ z ≤ b) → [rt, rd, rc, a, da, ca].Nodup →
      Q (.ref rt) ⟨h', g, d, t', o⟩) :
    wpAny (model pr w) A (call (.ref 59) [.str nm t1, .str ql t2, .ref hs]) Q E ⟨h, g, d, t, o⟩ := by
  refine mkA (fI := 28) G rfl rfl rfl fun x dd h₁ le I nx nd zx zd nxd => ?_
  refine codeF (binds := [(Str.ofString "self", .ref x), (Str.ofString "valid_policy", .str nm t1), (Str.ofString "qualifier_set", .str ql t2), (Str.ofString "expected_policy_set", .ref hs)]) (G.le le) rfl rfl rfl rfl (by have := (Rm.make (C := 59) (vals := [.str nm t1, .str ql t2, .ref hs]) (k := 6) r).dp; omega) rfl rfl rfl rfl rfl rfl ?_
  intro h₂ F env A'
  have rA : Rm A' 5 := (Rm.make (C := 59) (vals := [.str nm t1, .str ql t2, .ref hs]) (k := 6) r).deeper
  dsimp only at F ⊢
  have G₁ := G.le le
  have zL : z ≤ h₁.objs.size := G₁.size
  repeat' walk1
  rename_i D h₆ B₆ F₆ K₆ l₆ n₆ nh₆ zz₆ K₆'
  have I₆ := I.le K₆
  have G₆ := G₁.le K₆
  refine setA G₆ F₆ zL I₆ zd rfl rfl rfl rfl rfl (by simp) fun h₇ B₇ t₇ es₇ n₇ F₇ K₇ I₇ e₇ o₇ l₇ => ?_
  have nDd : D ≠ dd := fun e => by have := I.dt; rw [← e, n₆] at this; cases this
  have nDx : D ≠ x := fun e => by have := I.ob; rw [← e, n₆] at this; cases this
  have nd₇ : Nd B₇ 59 x dd D := ⟨es₇, n₇, I₇, e₇, by rw [o₇ _ (by decide)]; rfl, by rw [o₇ _ (by decide)]; rfl, by rw [o₇ _ (by decide)]; rfl, by rw [o₇ _ (by decide)]; rfl, by simp only [List.length_nil] at l₇; omega⟩
  have l₇' := l₆.kp K₇ nDd
  have G₇ := G₆.kp K₇ fun b e => e ▸ zd
  repeat' walk1
  refine addChild (.inl rfl) (G₇.le F₇.keep) (rA.le (by omega)) (nd₇.mv fun b ob _ e => F₇.keep _ _ e) (l₇'.le F₇.keep) (by simp) (Nat.le_trans (G₁.le F.keep).size zz₆) ?_
  intro a da ca h₈ t₈ es n u1 u2 K₈ l₈ I₈ len₈ q1 q2 q3 q4 q5 q6 q7 q8 q9 kd₈ na nda nca za zda zca n1 n2 n3
  repeat' walk1
  have nDh : h.get? D = none := by
    cases q : h.get? D with
    | none => rfl
    | some ob => rw [le _ _ q] at n₆; cases n₆
  have k17 : Le h h₇ := fun b ob e => F₇.keep _ _ (K₇ b ob (fun q => by rw [q, nd] at e; cases e) (K₆ b ob (le b ob e)))
  have nn : ∀ b, h₇.get? b = none → h.get? b = none := fun b e => by
    cases q : h.get? b with
    | none => rfl
    | some ob => rw [k17 _ _ q] at e; cases e
  have zD : z ≤ D := Nat.le_trans (G₁.le F.keep).size zz₆
  have nd7 : Nd h₇ 59 x dd D := nd₇.mv fun b ob _ e => F₇.keep _ _ e
  obtain ⟨ex, nx', ix, _⟩ := id nd7.ex
  obtain ⟨nl, el⟩ := l₇'.le F₇.keep
  have p1 : ∀ b, h₇.get? b = none → b ≠ x ∧ b ≠ dd ∧ b ≠ D := fun b e => by
    refine ⟨fun q => ?_, fun q => ?_, fun q => ?_⟩
    · have := ix.ob; rw [← q, e] at this; cases this
    · have := ix.dt; rw [← q, e] at this; cases this
    · rw [← q, e] at el; cases el
  have pa := p1 a na
  have pda := p1 da nda
  have pca := p1 ca nca
  refine H x dd D a da ca h₈ _ es n u1 u2 (fun b ob e => K₈ b ob (fun q => by rw [q, nDh] at e; cases e) (k17 b ob e)) (nd7.kp K₈ (fun e => nDx e.symm) (fun e => nDd e.symm)) l₈ I₈ len₈ q1 q2 q3 q4 q5 q6 q7 q8 q9 kd₈ ?_ ?_
  · intro b hb
    simp only [List.mem_cons, List.not_mem_nil, or_false] at hb
    rcases hb with rfl | rfl | rfl | rfl | rfl | rfl
    · exact ⟨nx, zx⟩
    · exact ⟨nd, zd⟩
    · exact ⟨nDh, zD⟩
    · exact ⟨nn _ na, za⟩
    · exact ⟨nn _ nda, zda⟩
    · exact ⟨nn _ nca, zca⟩
  · simp only [List.nodup_cons, List.mem_cons, List.not_mem_nil, or_false, not_or, not_false_iff, List.nodup_nil, and_true]
    exact ⟨⟨nxd, fun e => nDx e.symm, fun e => pa.1 e.symm, fun e => pda.1 e.symm, fun e => pca.1 e.symm⟩, ⟨fun e => nDd e.symm, fun e => pa.2.1 e.symm, fun e => pda.2.1 e.symm, fun e => pca.2.1 e.symm⟩, ⟨fun e => pa.2.2 e.symm, fun e => pda.2.2 e.symm, fun e => pca.2.2 e.symm⟩, ⟨n1, n2⟩, n3⟩
end

open SetTable in
theorem below0 (j : Nat) : below #[] j = 0 := by simp [below, below.go]
open SetTable in
theorem below1 (a j : Nat) : below #[a] j = if a < j then 1 else 0 := by
  simp [below, below.go]
open SetTable in
theorem slot0 {t : SetTable} (hp : t.place = #[]) (hd : t.dummies = #[]) (j : Nat) : t.slot j = .empty := by
  simp [slot, hp, hd, below0, SetTable.has]
open SetTable in
theorem slot1 {t : SetTable} {a : Nat} (hp : t.place = #[a]) (hd : t.dummies = #[]) (j : Nat) : t.slot j = if j = a then .live 0 else .empty := by
  simp only [slot, hp, hd, below1, SetTable.has, below0]
  by_cases h : a < j
  · rw [if_pos h]
    have : j ≠ a := by omega
    simp [this]
  · rw [if_neg h]
    by_cases e : j = a
    · simp [e]
    · have : ¬ a = j := fun q => e q.symm
      simp [e, this]

theorem adv7 {t : SetTable} (hm : t.mask = 7) {p : SetTable.Probe} (h0 : p.more = 0) : t.advance p = { p with j := (p.i * 5 + 1 + p.perturb / 32) % 8, more := 0, i := (p.i * 5 + 1 + p.perturb / 32) % 8, perturb := p.perturb / 32 } := by
  have : ∀ i, SetTable.runEnd 7 i = i := fun i => by simp [SetTable.runEnd]; try omega
  simp [SetTable.advance, h0, SetTable.leap, hm, this]
theorem probe1 {t : SetTable} {a : Nat} {h : Int} (hp : t.place = #[a]) (hd : t.dummies = #[]) (hm : t.mask = 7) :
    ∀ (m fuel : Nat) (p : SetTable.Probe), p.more = 0 → p.dummy = none → p.i = p.j → p.j < 8 → p.perturb < 32 ^ m → m + 2 ≤ fuel → ∃ j, SetTable.probe.go t (fun _ => h + 1) h fuel p = some (.empty j none)
  | m, fuel + 1, p, h0, h1, h2, h3, h4, h5 => by
    unfold SetTable.probe.go
    rw [slot1 hp hd]
    by_cases e : p.j = a
    · rw [if_pos e]
      have : (h + 1 == h) = false := by rw [beq_eq_false_iff_ne]; omega
      simp only [this, Bool.false_eq_true, if_false]
      rw [adv7 hm h0]
      cases m with
      | succ m =>
        refine probe1 hp hd hm m fuel _ rfl h1 rfl (Nat.mod_lt _ (by decide)) ?_ (by omega)
        show p.perturb / 32 < 32 ^ m
        rw [Nat.pow_succ] at h4; omega
      | zero =>
        have hp0 : p.perturb = 0 := by simp at h4; exact h4
        obtain ⟨f, rfl⟩ : ∃ f, fuel = f + 1 := ⟨fuel - 1, by omega⟩
        unfold SetTable.probe.go
        rw [slot1 hp hd]
        have : ¬ (p.i * 5 + 1 + p.perturb / 32) % 8 = a := by rw [hp0, h2]; omega
        simp only [this, if_false, h1]
        exact ⟨_, rfl⟩
    · rw [if_neg e, h1]
      exact ⟨_, rfl⟩
theorem free7 {t : SetTable} (hs : t.place.size ≤ 1) (hd : t.dummies = #[]) (hm : t.mask = 7) (h : Int) : ∃ j, t.freeSlot h = some (j, false) := by
  have st : t.probeStart h = { j := SetTable.bits h % 8, more := 0, i := SetTable.bits h % 8, perturb := SetTable.bits h, dummy := none } := by
    have : ∀ i, SetTable.runEnd 7 i = i := fun i => by simp [SetTable.runEnd]; try omega
    simp [SetTable.probeStart, hm, this]
  have hb : SetTable.bits h < 32 ^ 13 := by
    unfold SetTable.bits
    have := Int.emod_lt_of_pos h (show (0 : Int) < 2 ^ 64 by decide)
    have := Int.emod_nonneg h (show (2 ^ 64 : Int) ≠ 0 by decide)
    omega
  have key : ∃ j, t.probe (fun _ => h + 1) h (t.probeStart h) = some (.empty j none) := by
    rw [st, SetTable.probe, hm]
    rcases hl : t.place.toList with _ | ⟨a, l⟩
    · have : t.place = #[] := by rw [← Array.toList_inj, hl]
      unfold SetTable.turns
      show ∃ j, SetTable.probe.go t (fun _ => h + 1) h (219 + 1) _ = _
      unfold SetTable.probe.go
      rw [slot0 this hd]
      exact ⟨_, rfl⟩
    · have : t.place = #[a] := by
        rw [← Array.toList_inj, hl]
        have : t.place.toList.length ≤ 1 := by simpa using hs
        rw [hl] at this
        cases l with
        | nil => rfl
        | cons _ _ => simp at this
      exact probe1 this hd hm 13 _ _ rfl rfl rfl (Nat.mod_lt _ (by decide)) hb (by decide)
  obtain ⟨j, e⟩ := key
  exact ⟨j, by unfold SetTable.freeSlot; rw [e]; rfl⟩
theorem layNew7 {t : SetTable} {es : Array (Int × Value)} (hs : t.place.size = es.size) (h1 : es.size ≤ 1) (hd : t.dummies = #[]) (hm : t.mask = 7) (h : Int) (x : Value) :
    (layNew t es h x).2.1.mask = 7 ∧ (layNew t es h x).2.1.dummies = #[] := by
  obtain ⟨j, e⟩ := free7 (t := t) (by omega) hd hm h
  have hh : SetTable.has t.dummies j = false := by rw [hd]; simp [SetTable.has]
  have sz : ∀ {β : Type} (xs : Array β) (p : Nat) (x : β), (SetTable.insertAt xs p x).size = xs.size + 1 := fun xs p x => by
    have := (SetTable.insertAt_perm xs p x).length_eq
    simpa using this
  unfold layNew
  rw [e]
  unfold SetTable.put
  simp only [hh, Bool.false_eq_true, if_false]
  unfold SetTable.orStandIn
  have : ({ t with place := SetTable.insertAt t.place (SetTable.below t.place j) j, dummies := t.dummies } : SetTable).fits (SetTable.insertAt es (SetTable.below t.place j) (h, x)).size = true := by
    simp only [SetTable.fits, SetTable.fill, sz, hs, hd, hm, Bool.and_eq_true, beq_self_eq_true, true_and, decide_eq_true_eq, List.size_toArray, List.length_nil]
    omega
  rw [if_pos this]
  exact ⟨hm, hd⟩

section
variable {w : World} {A : Around} {E : Value → Shared → Prop} {s : Shared}
theorem strIs (x : Str) (tk : Tok) : (strKind pr w).is x (.str x tk) = true := by
  show Value.isStrOf x (.str x tk) = true
  simp [Value.isStrOf]
theorem notFull {t : SetTable} {n : Nat} (hf : t.fits n = true) (hn : n ≤ 2) (hm : t.mask = 7) (hd : t.dummies = #[]) : t.tooFull = false := by
  simp only [SetTable.fits, Bool.and_eq_true, beq_iff_eq, decide_eq_true_eq] at hf
  simp only [SetTable.tooFull, SetTable.fill, hm, hd, decide_eq_false_iff_not, List.size_toArray, List.length_nil, hf.1]
  omega
theorem sxStore {a : Addr} {S' : Str → Bool} {es es' : Array (Int × Value)} {ep : Nat} {t t' : SetTable} {Q : Unit → Shared → Prop} (ho : s.heap.get? a = some { cls := .type "set", dict := none, data := .set es ep t, slots := #[] })
    (hel : ElemsOf (strKind pr w) es'.toList) (hmem : ∀ k, S' k = true ↔ ∃ e ∈ es'.toList, (strKind pr w).is k e.2 = true) (hf : t'.fits es'.size = true) (hn : es'.size ≤ 2) (hm : t'.mask = 7) (hd : t'.dummies = #[])
    (H : ∀ h', Heap.SameBut a s.heap h' → SX w h' a S' es'.size → Q () { s with heap := h' }) : wpAny (model pr w) A (storeSet a es' t') Q E s := by
  have hb : es'.size < scanBound := by unfold scanBound; omega
  refine wpAny_storeSet_of ho rfl ?_ (fits_of_scanBound hb)
  obtain ⟨h1, _⟩ := SetOf_store (knd := strKind pr w) ho ⟨rfl, rfl, rfl⟩ rfl hel hmem hb hf
  exact H _ (Heap.SameBut.update ..) ⟨es', ep + 1, t', h1, hel, hmem, hf, rfl, hn, hm, hd⟩
theorem sxAdd {a : Addr} {S : Str → Bool} {n : Nat} {x : Str} {tk : Tok} {Q : Bool → Shared → Prop} (hS : SX w s.heap a S n) (hn : n ≤ 1)
    (H : ∀ h', Heap.SameBut a s.heap h' → SX w h' a (fun k => S k || decide (k = x)) (if S x then n else n + 1) → Q (!S x) { s with heap := h' }) :
    wpAny (model pr w) A (setAddHashed a (.str x tk) ((strKind pr w).hash x)) Q E s := by
  obtain ⟨es, ep, t, ho, hel, hmem, hf, hsz, hb, hm, hd⟩ := hS
  have hkey := strIs (w := w) x tk
  have hsc : (Value.str x tk).scannable = true := rfl
  have hfs : t.place.size = es.size := by simp only [SetTable.fits, Bool.and_eq_true, beq_iff_eq] at hf; exact hf.1
  unfold setAddHashed setAddHashedIn
  refine wpAny_holding (wpAny_bind (wpAny_setState_of ho rfl hf ?_))
  dsimp only
  rw [byScan_of hsc (by unfold scanBound; omega) hel]
  simp only [↓reduceIte]
  unfold setAddByScan
  refine wpAny_bind ?_
  refine wpAny_bind (wpAny_rule ?_)
  refine wpAny_bind (wpAny_setScan_of hkey ho rfl hf hel ?_)
  cases hr : List.findIdx? (fun e => (strKind pr w).is x e.2) es.toList with
  | some j =>
    dsimp only
    obtain ⟨hj, hpj, _⟩ := List.findIdx?_eq_some_iff_getElem.mp hr
    have hSk : S x = true := (hmem x).mpr ⟨es.toList[j], List.getElem_mem hj, hpj⟩
    refine wpAny_pure (wpAny_pure ?_)
    have := H s.heap (Heap.SameBut.refl a s.heap) ⟨es, ep, t, ho, hel, fun k' => by
      rw [Bool.or_eq_true, decide_eq_true_eq, ← hmem k']
      exact ⟨fun hk => hk.elim id (fun e => e ▸ hSk), .inl⟩, hf, by rw [hSk]; exact hsz, by rw [hSk]; exact hb, hm, hd⟩
    rw [hSk] at this; exact this
  | none =>
    dsimp only
    have hSk : S x = false := by
      cases hk : S x with
      | false => rfl
      | true => obtain ⟨e, he, hp⟩ := (hmem x).mp hk; have := List.findIdx?_eq_none_iff.mp hr e he; rw [hp] at this; exact Bool.noConfusion this
    have hgw : ∀ (b : Bool) {s₁ : Shared} {Q' : Unit → Shared → Prop}, Q' () s₁ → wpAny (model pr w) A (match b with | true => rule "set.scan.the-table-gave-way" | false => pure ()) Q' E s₁ :=
      fun b s₁ Q' hq => by cases b <;> first | exact wpAny_pure hq | exact wpAny_rule hq
    have hperm := layNew_perm t es ((strKind pr w).hash x) (.str x tk)
    have hfits := layNew_fits t es ((strKind pr w).hash x) (.str x tk)
    have h7 := layNew7 hfs (by omega) hd hm ((strKind pr w).hash x) (.str x tk)
    generalize hL : layNew t es ((strKind pr w).hash x) (.str x tk) = L at hperm hfits h7 ⊢
    obtain ⟨es1, t1, wasDummy, gave⟩ := L
    dsimp only at hperm hfits h7 ⊢
    rw [Array.toList_push] at hperm
    have hel1 := (hel.push hkey hsc).perm hperm
    have hmem1 : ∀ k', (S k' || decide (k' = x)) = true ↔ ∃ e ∈ es1.toList, (strKind pr w).is k' e.2 = true := mem_push_iff hkey hmem hperm
    have hsz1 : es1.size = n + 1 := by rw [← Array.length_toList, hperm.length_eq, List.length_append, Array.length_toList, hsz]; rfl
    refine wpAny_bind (hgw _ ?_)
    have fin : ∀ (t2 : SetTable), t2.fits es1.size = true → t2.mask = 7 → t2.dummies = #[] → wpAny (model pr w) A (do
        storeSet a es1 t2
        if (!wasDummy && t2.tooFull) = true then do
            (match (relayAll t2 es1 (SetTable.grown es1.size)).2.2 with | true => rule "set.scan.the-table-gave-way" | false => pure ())
            storeSet a (relayAll t2 es1 (SetTable.grown es1.size)).1 (relayAll t2 es1 (SetTable.grown es1.size)).2.1
            pure (some true)
          else pure (some true)) (fun r s' => wpAny (model pr w) A (match r with | some b => pure b | none => setAddHashedIn a (.str x tk) ((strKind pr w).hash x) 99999) Q E s') E s := by
      intro t2 f2 m2 d2
      refine wpAny_bind (sxStore ho hel1 hmem1 f2 (by omega) m2 d2 fun h' hs' hS' => ?_)
      rw [notFull f2 (by omega) m2 d2, Bool.and_false]
      simp only [Bool.false_eq_true, if_false]
      have := H h' hs'
      rw [hSk] at this
      rw [hsz1] at hS'
      exact wpAny_pure (wpAny_pure (this hS'))
    have fin' := fun t2 a b c => wpAny_mono (fin t2 a b c) (fun _ _ x => x) fun _ _ x => x
    split
    · refine wpAny_bind ?_
      rw [hashByValue_scannable 8 hsc]
      refine wpAny_pure ?_
      split
      · exact fin' _ hfits h7.1 h7.2
      · exact fin' _ (SetTable.fits_plain_off hfits) h7.1 h7.2
    · refine wpAny_bind (wpAny_pure ?_)
      simp only [↓reduceIte]
      exact fin' _ hfits h7.1 h7.2
end

section
variable {w : World} {A : Around} {E : Value → Shared → Prop} {s : Shared}
noncomputable def newSetObj (led : Bool) : Obj := { cls := .type "set", dict := none, data := .set #[] 0 (.fresh 0 0 led), slots := #[] }
theorem setCall {v : Value} {P : Shared → Prop} {Q : Value → Shared → Prop}
    (hinit : ∀ led, wpAny (model pr w) A.in1.in1 (Builtin.«set.__init__» ⟨[.ref s.heap.objs.size, v], []⟩)
      (fun fin s' => match fin with | .done f => wants (fun r s₂ => r = .none ∧ P s₂) E (.ok f) s' | .again c' => c'.quiet = true ∧ codeAny (model pr w) A.in1 c' (wants (fun r s₂ => r = .none ∧ P s₂) E) s')
      (fun e s' => wants (fun r s₂ => r = .none ∧ P s₂) E (.error e) s') { s with heap := s.heap.push (newSetObj led) })
    (h : ∀ s', P s' → Q (.ref s.heap.objs.size) s') : wpAny (model pr w) A (call (.type "set") [v]) Q E s := by
  obtain ⟨c, tl, hmro⟩ := F.called_set.mro
  have hmade := F.called_set.made
  have hsub := F.called_set.sub
  refine wpAny_call (codeAny_of_tree ?_)
  show wpAny _ _ (callAny (.type "set") _) _ _ _
  refine wpAny_pure ⟨Code.quiet_builtin _ (by decide +kernel), codeAny_builtin F.entry_type_call ?_⟩
  rw [Around.under_plain (weight_type_call_type "set" [v] []) rfl]
  have h1 := F.called_set.notType
  have h2 := F.called_set.canCreate
  have hct := F.typeCall_set_1 v
  repeat (any_goals (first | assumption | wp_step))
  refine codeAny_mono (code_set_new_1 v (E := E) (Q₁ := fun obj s₁ => ∃ led : Bool, obj = .ref s.heap.objs.size ∧ s₁ = { s with heap := s.heap.push (newSetObj led) }) fun led => ⟨led, rfl, rfl⟩) fun r s₁ hr => ?_
  cases r with
  | error e => exact hr
  | ok fl =>
    cases fl with
    | ret obj =>
      obtain ⟨led, rfl, rfl⟩ := hr
      have hS : (s.heap.push (newSetObj led)).get? s.heap.objs.size = some (newSetObj led) := Heap.get?_push_size _ rfl
      have hT : Shared.TypeIs { s with heap := s.heap.push (newSetObj led) } (.ref s.heap.objs.size) "set" := ⟨_, hS, rfl⟩
      have hli := F.called_set.init.lookup
      have hbi := F.called_set.init.bind (.ref s.heap.objs.size)
      repeat (any_goals (first | assumption | wp_step))
      refine codeAny_mono (codeAny_call_builtin (R := wants (fun r s₂ => r = .none ∧ P s₂) E) F.called_set.init.plain F.entry_set_init (check_set_init_1 hT (hinit led))) fun r₂ s₂ hr₂ => ?_
      cases r₂ with
      | error e => exact hr₂
      | ok fl₂ =>
        cases fl₂ with
        | ret r =>
          obtain ⟨rfl, hp⟩ := hr₂
          repeat (any_goals (first | assumption | wp_step))
          exact h _ hp
        | _ => exact hr₂.elim
    | _ => exact hr.elim
theorem sxNew (led : Bool) {h : Heap} : SX w (h.push (newSetObj led)) h.objs.size (fun _ => false) 0 :=
  ⟨#[], 0, .fresh 0 0 led, Heap.get?_push_size _ rfl, fun e he => by simp at he, fun k => by simp, by rfl, rfl, by omega, rfl, rfl⟩
end

def StrsAre : List Value → List Str → Prop
  | [], [] => True
  | v :: vs, x :: xs => (∃ t, v = .str x t) ∧ StrsAre vs xs
  | _, _ => False
theorem StrsAre.len : ∀ {vs : List Value} {xs : List Str}, StrsAre vs xs → vs.length = xs.length
  | [], [], _ => rfl
  | v :: vs, x :: xs, h => by simp [StrsAre.len h.2]
  | [], _ :: _, h => h.elim
  | _ :: _, [], h => h.elim
noncomputable def addS (p : (Str → Bool) × Nat) (x : Str) : (Str → Bool) × Nat := (fun k => p.1 k || decide (k = x), if p.1 x then p.2 else p.2 + 1)
noncomputable def setS (xs : List Str) : (Str → Bool) × Nat := xs.foldl addS (fun _ => false, 0)
section
variable {w : World} {A : Around} {E : Value → Shared → Prop} {s : Shared} {R : Result → Shared → Prop}
theorem sxLoop {S l I : Addr} (hh : A.handled = none) (hSl : S ≠ l) (hSI : S ≠ I) (hlI : l ≠ I) : ∀ (vs : List Value) (xs : List Str) (p : (Str → Bool) × Nat) (h : Heap) (g : Array GenState) (d : Drawn) (t : Nat) (o : OsState) (i : Nat) (items : Array Value),
    StrsAre vs xs → h.IsListIter I l i → h.IsList l items → items.toList.drop i = vs → SX w h S p.1 p.2 → p.2 + xs.length ≤ 2 →
    (∀ h' t', Kp (fun b => b = S ∨ b = I) h h' → SX w h' S (xs.foldl addS p).1 (xs.foldl addS p).2 → R (.ok (.ret .none)) ⟨h', g, d, t', o⟩) →
    codeAny (model pr w) A (.builtin "set.update.loop" ⟨[.ref S, .ref I], []⟩) R ⟨h, g, d, t, o⟩ := by
  intro vs
  induction vs with
  | nil =>
    intro xs p h g d t o i items hs hi hl hd hS hn H
    cases xs with
    | cons _ _ => exact hs.elim
    | nil =>
      refine codeAny_builtin F.entry_set_update_loop ?_
      rw [Around.under_plainId F.plain_set_update_loop _]
      show wpAny _ A.in1 (pyNext (.ref I) >>= _) _ _ _
      have e1 : items[i]? = none := by
        have : items.toList[i]? = none := by rw [← List.head?_drop, hd]; rfl
        simpa using this
      refine wpAny_bind (wpAny_pyNext_list_end hh hi hl e1 fun h' hs => ?_)
      show wpAny _ A.in1 (ret Value.none) _ _ _
      exact wpAny_pure (H h' t (fun b ob n e => hs b ob (fun q => n (.inr q)) e) (hS.mv fun o' e => hs S o' hSI e))
  | cons v vs ih =>
    intro xs p h g d t o i items hs hi hl hd hS hn H
    cases xs with
    | nil => exact hs.elim
    | cons x xs =>
      obtain ⟨⟨tk, rfl⟩, hs⟩ := hs
      simp only [List.length_cons] at hn
      refine codeAny_builtin F.entry_set_update_loop ?_
      rw [Around.under_plainId F.plain_set_update_loop _]
      show wpAny _ A.in1 (pyNext (.ref I) >>= _) _ _ _
      have e1 : items[i]? = some (.str x tk) := by
        have : items.toList[i]? = some (.str x tk) := by rw [← List.head?_drop, hd]; rfl
        simpa using this
      refine wpAny_bind (wpAny_pyNext_list_item hi hl e1 fun h₁ hi₁ hs₁ => ?_)
      show wpAny _ A.in1 (holding [Value.str x tk] (setAdd S (.str x tk)) >>= _) _ _ _
      refine wpAny_bind (wpAny_holding ?_)
      unfold setAdd
      refine wpAny_holding ?_
      refine wpAny_bind ((strKind pr w).pyHash (k := x) (strIs x tk) ?_)
      have hS₁ : SX w h₁ S p.1 p.2 := hS.mv fun o' e => (hs₁.2 S hSI).trans e
      refine sxAdd (s := ⟨h₁, g, d, _, o⟩) hS₁ (by omega) fun h₂ hs₂ hS₂ => ?_
      refine wpAny_pure ⟨plainId_quiet F.plain_set_update_loop _, ?_⟩
      obtain ⟨oi, f1, f2, f3⟩ := hi₁
      obtain ⟨ol, l1, l2⟩ := hl
      refine ih xs (addS p x) h₂ g d _ o (i + 1) items hs ⟨oi, (hs₂.2 I (Ne.symm hSI)).trans f1, f2, f3⟩ ⟨ol, (hs₂.2 l (Ne.symm hSl)).trans ((hs₁.2 l hlI).trans l1), l2⟩ ?_ hS₂ ?_ fun h' t' k q => H h' t' (fun b ob n e => k b ob n ((hs₂.2 b fun q => n (.inl q)).trans ((hs₁.2 b fun q => n (.inr q)).trans e))) q
      · rw [← List.tail_drop, hd]; rfl
      · simp only [addS]; split <;> omega
theorem setList {l : Addr} {vs : List Value} {xs : List Str} {Q : Value → Shared → Prop} {h : Heap} {g : Array GenState} {d : Drawn} {t : Nat} {o : OsState} (hh : A.handled = none) (hl : ListAt h l vs) (hi : StrsAre vs xs) (hb : xs.length ≤ 2)
    (H : ∀ S h' t', Le h h' → SX w h' S (setS xs).1 (setS xs).2 → h.get? S = none → h.objs.size ≤ S → Q (.ref S) ⟨h', g, d, t', o⟩) :
    wpAny (model pr w) A (call (.type "set") [.ref l]) Q E ⟨h, g, d, t, o⟩ := by
  obtain ⟨nl, el⟩ := hl
  have hSn : h.get? h.objs.size = none := get_new
  refine setCall (P := fun s' => ∃ h' t', Le h h' ∧ SX w h' h.objs.size (setS xs).1 (setS xs).2 ∧ s' = ⟨h', g, d, t', o⟩) (fun led => ?_) fun s' ⟨h', t', a, b, e⟩ => e ▸ H _ h' t' a b hSn (Nat.le_refl _)
  dsimp only
  have hol' : (h.push (newSetObj led)).get? l = some { cls := .type "list", dict := none, data := .seq vs.toArray nl, slots := #[] } := Heap.get?_push_of_some _ el
  have hsls := F.sub_list_set
  have hslf := F.sub_list_frozenset
  have hne : (Value.type "list" == Value.type "dict") = false := by decide
  have hl1 : (h.push (newSetObj led)).IsList l vs.toArray := ⟨_, hol', rfl, nl, rfl⟩
  unfold Builtin.«set.__init__» noKeywords Builtin.Frozenset.updateFrom
  generalize hPI : pyIter = PI
  wp_walk
  subst hPI
  refine wpAny_pyIter_list hl1 ?_
  refine wpAny_bind (wpAny_runValue ?_)
  have hlS : l < h.objs.size := Heap.lt_size el
  have hne2 : h.objs.size < (h.push (newSetObj led)).objs.size := by rw [Heap.size_push]; omega
  refine sxLoop (A := A.in1.in1) hh (Nat.ne_of_gt hlS) (Nat.ne_of_lt hne2) (Nat.ne_of_lt (Nat.lt_trans hlS hne2)) vs xs (fun _ => false, 0) _ _ _ _ _ 0 vs.toArray hi ⟨{ cls := .type "list_iterator", data := .fields #[.ref l, .int 0 0] }, Heap.get?_push_size _ rfl, rfl, rfl⟩ (hl1.push _) (by simp) ((sxNew led).mv fun o' e => Heap.get?_push_of_some _ e) (by omega) fun h' t' k q => ?_
  show wpAny _ _ _ _ _ _
  refine wpAny_pure ?_
  show wpAny _ _ (ret Value.none) _ _ _
  refine wpAny_pure ⟨rfl, h', _, fun b ob e => k b ob (fun q => ?_) (Heap.get?_push_of_some _ (Heap.get?_push_of_some _ e)), q, rfl⟩
  have := Heap.lt_size e
  rcases q with q | q
  · rw [q] at this; exact Nat.lt_irrefl _ this
  · rw [q] at this; exact Nat.lt_asymm this hne2
end

section
variable {w : World} {A : Around} {E : Value → Shared → Prop} {s : Shared} {R : Result → Shared → Prop}
theorem setSet {a : Addr} {S : Str → Bool} {n : Nat} {Q : Value → Shared → Prop} {h : Heap} {g : Array GenState} {d : Drawn} {t : Nat} {o : OsState} (hS : SX w h a S n)
    (H : ∀ b h' t', Le h h' → SX w h' b S n → h.get? b = none → h.objs.size ≤ b → Q (.ref b) ⟨h', g, d, t', o⟩) :
    wpAny (model pr w) A (call (.type "set") [.ref a]) Q E ⟨h, g, d, t, o⟩ := by
  have hSn : h.get? h.objs.size = none := get_new
  refine setCall (P := fun s' => ∃ h' t', Le h h' ∧ SX w h' h.objs.size S n ∧ s' = ⟨h', g, d, t', o⟩) (fun led => ?_) fun s' ⟨h', t', a, b, e⟩ => e ▸ H _ h' t' a b hSn (Nat.le_refl _)
  dsimp only
  obtain ⟨es, ep, tb, ho, hel, hmem, hf, hsz, hb, hm, hd⟩ := hS
  have hlt : a < h.objs.size := Heap.lt_size ho
  have ho' : (h.push (newSetObj led)).get? a = some { cls := .type "set", dict := none, data := .set es ep tb, slots := #[] } := Heap.get?_push_of_some _ ho
  have hn' : (h.push (newSetObj led)).get? h.objs.size = some (newSetObj led) := Heap.get?_push_size _ rfl
  have hT : Shared.TypeIs ⟨h.push (newSetObj led), g, d, t, o⟩ (.ref a) "set" := ⟨_, ho', rfl⟩
  have hsub := sub_set_self
  unfold Builtin.«set.__init__» noKeywords Builtin.Frozenset.updateFrom
  generalize hPI : Builtin.Frozenset.merge = PI
  wp_walk
  subst hPI
  have fin : ∀ h', Heap.SameBut h.objs.size (h.push (newSetObj led)) h' → SX w h' h.objs.size S n → Le h h' := fun h' k _ b ob e => (k.2 b (Nat.ne_of_lt (Heap.lt_size e))).trans (Heap.get?_push_of_some _ e)
  have last : ∀ h', Heap.SameBut h.objs.size (h.push (newSetObj led)) h' → SX w h' h.objs.size S n → wpAny (model pr w) A.in1.in1 ((fun _ : Unit => (ret Value.none : Sem Fin)) ()) (fun fin s' => match fin with | .done f => wants (fun r s₂ => r = .none ∧ ∃ h' t', Le h h' ∧ SX w h' h.objs.size S n ∧ s₂ = ⟨h', g, d, t', o⟩) E (.ok f) s' | .again c' => c'.quiet = true ∧ codeAny (model pr w) A.in1 c' (wants (fun r s₂ => r = .none ∧ ∃ h' t', Le h h' ∧ SX w h' h.objs.size S n ∧ s₂ = ⟨h', g, d, t', o⟩) E) s')
      (fun e s' => wants (fun r s₂ => r = .none ∧ ∃ h' t', Le h h' ∧ SX w h' h.objs.size S n ∧ s₂ = ⟨h', g, d, t', o⟩) E (.error e) s') ⟨h', g, d, t, o⟩ := fun h' k q => wpAny_pure ⟨rfl, h', t, fin h' k q, q, rfl⟩
  unfold Builtin.Frozenset.merge
  refine wpAny_bind (wpAny_setEpoch_of ho' rfl hf ?_)
  unfold setMerge
  have hne : (h.objs.size == a) = false := by rw [beq_eq_false_iff_ne]; exact Nat.ne_of_gt hlt
  simp only [hne, Bool.false_eq_true, if_false]
  refine wpAny_bind (wpAny_setState_of ho' rfl hf ?_)
  dsimp only
  cases he : es.isEmpty with
  | true =>
    simp only [if_true]
    have e0 : es = #[] := by simpa using he
    subst e0
    have hS0 : (fun _ => false) = S := funext fun k => by
      cases q : S k with
      | false => rfl
      | true => obtain ⟨e, he, _⟩ := (hmem k).mp q; simp at he
    have hn0 : n = 0 := by rw [← hsz]; rfl
    subst hS0; subst hn0
    exact wpAny_pure (last _ (Heap.SameBut.refl _ _) (sxNew led))
  | false =>
    simp only [Bool.false_eq_true, if_false]
    unfold setRoomFor
    refine wpAny_bind (wpAny_bind (wpAny_setState_of hn' rfl (by rfl) ?_))
    have hr : (SetTable.fresh 0 0 led).roomFor es.size = none := by
      unfold SetTable.roomFor
      rw [if_neg]
      simp only [SetTable.fresh, SetTable.fill, List.size_toArray, List.length_nil]
      omega
    dsimp only [newSetObj]
    rw [hr]
    refine wpAny_pure ?_
    refine wpAny_bind (wpAny_setState_of hn' rfl (by rfl) ?_)
    have hro : (SetTable.fresh 0 0 led).road tb = .slotForSlot := by
      unfold SetTable.road
      rw [if_neg (by simp [SetTable.fresh, SetTable.fill]), if_pos (by simp [SetTable.fresh, hm, hd])]
    dsimp only [newSetObj]
    rw [hro]
    dsimp only
    refine sxStore hn' hel hmem ?_ (by omega) hm hd fun h' hs' hS' => ?_
    · exact hf
    · rw [hsz] at hS'
      exact last h' hs' hS'
end

theorem entry_set_eq : entryFor table "set.__eq__" = some Builtin.«frozenset.__eq__» := entryFor_alias (id' := "frozenset.__eq__") (by kernel_rfl) rfl (by decide +kernel) (by kernel_rfl)
theorem entry_set_ne : entryFor table "set.__ne__" = some Builtin.«frozenset.__ne__» := entryFor_alias (id' := "frozenset.__ne__") (by kernel_rfl) rfl (by decide +kernel) (by kernel_rfl)
section
variable {w : World} {A : Around} {E : Value → Shared → Prop} {s : Shared} {R : Result → Shared → Prop}
set_option maxHeartbeats 400000 in
theorem setSub {id : String} {a b : Addr} {S : Str → Bool} {n : Nat} {Q : Bool → Shared → Prop} (hx : SX w s.heap a S n) (hy : SX w s.heap b S n) (H : Q true s) :
    wpAny (model pr w) A (Builtin.Frozenset.subsetOf id a b) Q E s := by
  have hSy : s.heap.SetOf (strKind pr w) b S n := by
    obtain ⟨es', ep', tb', ho', hel', hmem', hf', hsz', hb', hm', hd'⟩ := hy
    exact ⟨_, es', ep', tb', ho', ⟨rfl, rfl, rfl⟩, rfl, hel', hmem', by unfold scanBound; omega, hf', hsz'⟩
  obtain ⟨es, ep, tb, ho, hel, hmem, hf, hsz, hb, hm, hd⟩ := hx
  obtain ⟨es', ep', tb', ho', hel', hmem', hf', hsz', hb', hm', hd'⟩ := hy
  have isStr : ∀ (l : List (Int × Value)), ElemsOf (strKind pr w) l → ∀ e ∈ l, ∃ k tk, e.2 = .str k tk ∧ e.1 = (strKind pr w).hash k ∧ (strKind pr w).is k e.2 = true := fun l hl e he => by
    obtain ⟨⟨k, hk, hh⟩, _⟩ := hl e he
    obtain ⟨tk, q⟩ := Value.isStrOf_shape hk
    exact ⟨k, tk, q, hh, hk⟩
  unfold Builtin.Frozenset.subsetOf
  unfold Builtin.Frozenset.sizeOf
  refine wpAny_bind (wpAny_bind (wpAny_setEntries_of ho rfl hf (wpAny_pure ?_)))
  refine wpAny_bind (wpAny_bind (wpAny_setEntries_of ho' rfl hf' (wpAny_pure ?_)))
  have hlt : ¬ es.size > es'.size := by omega
  simp only [hlt, if_false]
  refine wpAny_bind (wpAny_setEpoch_of ho rfl hf ?_)
  unfold Builtin.Frozenset.walkUnseen
  refine wpAny_bind (wpAny_bind (wpAny_setEntries_of ho rfl hf (wpAny_bind (wpAny_setEntries_of ho' rfl hf' ?_))))
  refine wpAny_bind (wpAny_forIn_list _ (fun rest (b : Option (List (Int × Value)) × Unit) s' => b = (none, ()) ∧ s' = s ∧ ∀ e ∈ rest, ∃ k tk, e.2 = Value.str k tk) _ ?_ ?_ _ _ ⟨rfl, rfl, fun e he => ?_⟩)
  · rintro ⟨hx, x⟩ rest b s' ⟨rfl, rfl, q⟩
    obtain ⟨k, tk, e⟩ := q _ (.head _)
    simp only at e
    subst e
    refine wpAny_bind (m := Builtin.Frozenset.quietEq _) (wpAny_pure ?_)
    simp only [Bool.not_true, Bool.false_eq_true, if_false]
    exact wpAny_pure ⟨rfl, rfl, fun e he => q e (.tail _ he)⟩
  · rintro b s' ⟨rfl, rfl, -⟩
    refine wpAny_pure ?_
    refine wpAny_bind (wpAny_forIn_list _ (fun rest (b : Option Bool × Unit) s'' => b = (none, ()) ∧ s'' = s' ∧ ∀ e ∈ rest, e ∈ es.toList) _ ?_ ?_ _ _ ⟨rfl, rfl, fun e he => he⟩)
    · rintro ⟨hx, x⟩ rest b s'' ⟨rfl, rfl, q⟩
      have hin := q _ (.head _)
      obtain ⟨k, tk, e1, e2, e3⟩ := isStr _ hel _ hin
      simp only at e1 e2 e3
      subst e1; subst e2
      have hSk : S k = true := (hmem k).mpr ⟨_, hin, e3⟩
      refine wpAny_bind (wpAny_holding ?_)
      refine wpAny_setFind_of (prog := pr) (w := w) (K := Str) (knd := strKind pr w) (k := k) (x := .str k tk) e3 rfl hSy fun r hr => ?_
      rw [hSk] at hr
      cases r with
      | none => cases hr
      | some j =>
        simp only [Option.isNone_some, Bool.false_eq_true, if_false]
        unfold Builtin.Frozenset.unchanged
        refine wpAny_bind (wpAny_bind (wpAny_setEpoch_of ho rfl hf ?_))
        simp only [bne_self_eq_false, Bool.false_eq_true, if_false]
        exact wpAny_pure (wpAny_pure ⟨rfl, rfl, fun e he => q e (.tail _ he)⟩)
    · rintro b s'' ⟨rfl, rfl, -⟩
      exact wpAny_pure H
  · rcases List.mem_append.mp he with he | he
    · obtain ⟨k, tk, e, _⟩ := isStr _ hel e he; exact ⟨k, tk, e⟩
    · obtain ⟨k, tk, e, _⟩ := isStr _ hel' e he; exact ⟨k, tk, e⟩
end

section
variable {w : World} {A : Around} {E : Value → Shared → Prop}
set_option maxHeartbeats 1000000 in
theorem setEqTree {a b : Addr} {S : Str → Bool} {n : Nat} {P : Fin → Shared → Prop} {h : Heap} {g : Array GenState} {d : Drawn} {t : Nat} {o : OsState} (hx : SX w h a S n) (hy : SX w h b S n) (H : P (.done (.ret (.bool true))) ⟨h, g, d, t, o⟩) :
    wpAny (model pr w) A (Builtin.«frozenset.__eq__» ⟨[.ref a, .ref b], []⟩) P E ⟨h, g, d, t, o⟩ := by
  obtain ⟨es, ep, tb, ho, hel, hmem, hf, hsz, hb, hm, hd⟩ := id hx
  obtain ⟨es', ep', tb', ho', hel', hmem', hf', hsz', hb', hm', hd'⟩ := id hy
  have hT : Shared.TypeIs ⟨h, g, d, t, o⟩ (.ref b) "set" := ⟨_, ho', rfl⟩
  have hT' : Shared.TypeIs ⟨h, g, d, t, o⟩ (.ref a) "set" := ⟨_, ho, rfl⟩
  have hsub := sub_set_self
  have hsub2 : isSubtype (.type "set") (.type "frozenset") = pure false := by rw [isSubtype_type]; kernel_rfl
  have hsz2 : (es.size != es'.size) = false := by rw [hsz, hsz']; simp
  unfold Builtin.«frozenset.__eq__»
  wp_walk using setSub hx hy, wpAny_setState_of ho rfl hf, wpAny_setState_of ho' rfl hf'
  exact H
set_option maxHeartbeats 1000000 in
theorem setNeTree {a b : Addr} {S : Str → Bool} {n : Nat} {P : Fin → Shared → Prop} {h : Heap} {g : Array GenState} {d : Drawn} {t : Nat} {o : OsState} (hx : SX w h a S n) (hy : SX w h b S n) (H : P (.done (.ret (.bool false))) ⟨h, g, d, t, o⟩) :
    wpAny (model pr w) A (Builtin.«frozenset.__ne__» ⟨[.ref a, .ref b], []⟩) P E ⟨h, g, d, t, o⟩ := by
  obtain ⟨es, ep, tb, ho, hel, hmem, hf, hsz, hb, hm, hd⟩ := id hx
  obtain ⟨es', ep', tb', ho', hel', hmem', hf', hsz', hb', hm', hd'⟩ := id hy
  have hT : Shared.TypeIs ⟨h, g, d, t, o⟩ (.ref b) "set" := ⟨_, ho', rfl⟩
  have hT' : Shared.TypeIs ⟨h, g, d, t, o⟩ (.ref a) "set" := ⟨_, ho, rfl⟩
  have hsub := sub_set_self
  have hsub2 : isSubtype (.type "set") (.type "frozenset") = pure false := by rw [isSubtype_type]; kernel_rfl
  have hsz2 : (es.size != es'.size) = false := by rw [hsz, hsz']; simp
  unfold Builtin.«frozenset.__ne__»
  wp_walk using setSub hx hy, wpAny_setState_of ho rfl hf, wpAny_setState_of ho' rfl hf'
  exact H
theorem SX.typeIs {h : Heap} {a S n} {g : Array GenState} {d : Drawn} {t : Nat} {o : OsState} (x : SX w h a S n) : Shared.TypeIs ⟨h, g, d, t, o⟩ (.ref a) "set" := let ⟨_, _, _, e, _⟩ := x; ⟨_, e, rfl⟩
theorem eqSets {a b : Addr} {S : Str → Bool} {n : Nat} {Q : Bool → Shared → Prop} {h : Heap} {g : Array GenState} {d : Drawn} {t : Nat} {o : OsState} (hu : A.units < cLine) (hx : SX w h a S n) (hy : SX w h b S n) (H : Q true ⟨h, g, d, t, o⟩) :
    wpAny (model pr w) A (eqBool (.ref a) (.ref b)) Q E ⟨h, g, d, t, o⟩ := by
  unfold eqBool
  try with_reducible refine wpAny_holding ?_
  show wpAny _ _ (if (Value.ref a == Value.ref b) = true then _ else _) Q E _
  by_cases hab : (Value.ref a == Value.ref b) = true
  · rw [if_pos hab]
    exact wpAny_bind (wpAny_rule (wpAny_pure H))
  · rw [if_neg hab]
    exact wpAny_bind (wpAny_richCompare_same_room (op := .Eq) hx.typeIs hy.typeIs F.slot_set_eq
      (wpAny_call_entry F.slot_set_eq hx.typeIs entry_set_eq (setEqTree hx hy ⟨_, rfl, (fun e => nomatch e), wpAny_truthy_bool H⟩) (F.args_set_eq_2 _ _)) hu)
theorem neSets {a b : Addr} {S : Str → Bool} {n : Nat} {Q : Value → Shared → Prop} {h : Heap} {g : Array GenState} {d : Drawn} {t : Nat} {o : OsState} (hu : A.units < cLine) (hx : SX w h a S n) (hy : SX w h b S n) (H : Q (.bool false) ⟨h, g, d, t, o⟩) :
    wpAny (model pr w) A (compareOp .NotEq (.ref a) (.ref b)) Q E ⟨h, g, d, t, o⟩ :=
  cmp_ofNotEq (wpAny_richCompare_same_room (op := .NotEq) hx.typeIs hy.typeIs F.slot_set_ne
      (wpAny_call_entry F.slot_set_ne hx.typeIs entry_set_ne (setNeTree hx hy ⟨_, rfl, (fun e => nomatch e), H⟩) (F.args_set_ne_2 _ _)) hu)
end

section
variable {w : World}
def EqW (w : World) (A : Around) (s : Shared) (y x : Value) : Prop := ∀ (E : Value → Shared → Prop) (Q : Bool → Shared → Prop), Q true s → wpAny (model pr w) A (eqBool y x) Q E s
theorem EqW.str {A : Around} {s : Shared} {x : Str} {t u : Tok} : EqW w A s (.str x t) (.str x u) := fun E Q h => wpAny_eqBool_str (by simpa using h)
theorem tupEqTree {A : Around} {E : Value → Shared → Prop} {s : Shared} {a b : Addr} {xs ys : List Value} {P : Fin → Shared → Prop} (hx : TupAt s.heap a xs) (hy : TupAt s.heap b ys) (hl : xs.length = ys.length) (he : ∀ p ∈ xs.zip ys, EqW w A s p.1 p.2) (h : P (.done (.ret (.bool true))) s) :
    wpAny (model pr w) A (Builtin.«tuple.__eq__» ⟨[.ref a, .ref b], []⟩) P E s := by
  obtain ⟨na, hoa⟩ := hx
  obtain ⟨nb, hob⟩ := hy
  show wpAny _ _ (isInstance (.ref b) (.type "tuple") >>= _) _ _ s
  refine wpAny_bind (wpAny_isInstance (T := "tuple") (b := true) ⟨_, hob, rfl⟩ isSubtype_tuple_tuple ?_)
  simp only [Bool.not_true, Bool.false_eq_true, if_false]
  refine wpAny_bind (wpAny_tupleItemsOf hoa rfl ?_)
  refine wpAny_bind (wpAny_tupleItemsOf hob rfl ?_)
  refine wpAny_bind ?_
  refine wpAny_forIn_list _ (fun rest r s' => r.1 = none ∧ s' = s ∧ ∀ p ∈ rest, EqW w A s p.1 p.2) _ ?_ ?_ _ _ ⟨rfl, rfl, by simpa using he⟩
  · rintro ⟨u, v⟩ rest r s' ⟨hr, rfl, q⟩
    refine wpAny_bind (q _ (.head _) _ _ ?_)
    simp only [Bool.not_true, Bool.false_eq_true, if_false]
    exact wpAny_pure ⟨rfl, rfl, fun p hp => q p (.tail _ hp)⟩
  · rintro ⟨r1, r2⟩ s' ⟨hr, rfl, -⟩
    simp only at hr
    subst hr
    refine wpAny_pure ?_
    show P (.done (.ret (.bool (xs.toArray.size == ys.toArray.size)))) s'
    rw [show (xs.toArray.size == ys.toArray.size) = true by simp [hl]]; exact h
theorem EqW.tup {A : Around} {s : Shared} {a b : Addr} {xs ys : List Value} (hu : A.units < cLine) (hx : TupAt s.heap a xs) (hy : TupAt s.heap b ys) (hl : xs.length = ys.length) (he : ∀ p ∈ xs.zip ys, EqW w A.in1 s p.1 p.2) : EqW w A s (.ref a) (.ref b) := fun E Q H => by
  unfold eqBool
  try with_reducible refine wpAny_holding ?_
  show wpAny _ _ (if (Value.ref a == Value.ref b) = true then _ else _) Q E _
  have hTa : s.TypeIs (.ref a) "tuple" := let ⟨_, e⟩ := hx; ⟨_, e, rfl⟩
  have hTb : s.TypeIs (.ref b) "tuple" := let ⟨_, e⟩ := hy; ⟨_, e, rfl⟩
  by_cases hab : (Value.ref a == Value.ref b) = true
  · rw [if_pos hab]
    exact wpAny_bind (wpAny_rule (wpAny_pure H))
  · rw [if_neg hab]
    exact wpAny_bind (wpAny_richCompare_same_room (op := .Eq) hTa hTb F.slot_tuple_eq
      (wpAny_call_entry F.slot_tuple_eq hTa F.entry_tuple_eq (tupEqTree hx hy hl he ⟨_, rfl, (fun e => nomatch e), wpAny_truthy_bool H⟩) (F.args_tuple_eq_2 _ _)) hu)
set_option maxHeartbeats 1000000 in
theorem neLoop {l b : Addr} {items items2 : Array Value} {n n2 : Nat} (hsz : items.size = items2.size) (k : Nat) :
    ∀ i : Nat, items.size - i = k → MeetsIn pr w (Builtin.«list.__eq__.loop» ⟨[.ref l, .ref b, rawInt i, rawInt 3], []⟩)
      (fun A R s => s.heap.get? l = some { cls := .type "list", data := .seq items n } ∧ s.heap.get? b = some { cls := .type "list", data := .seq items2 n2 } ∧
        (∀ j (h1 : j < items.size) (h2 : j < items2.size), EqW w A.in1 s items[j] items2[j]) ∧ R (.ok (.ret (.bool false))) s) := by
  induction k with
  | zero =>
    intro i hk A R s h
    obtain ⟨hp, g, d, tk, os⟩ := s; obtain ⟨hl, hb, he, h⟩ := h
    wp_walk using AutoSeq1.wpAny_loadPart' hl, AutoSeq1.wpAny_loadPart' hb
    have hi1 : items[((i : Nat) : Int).toNat]? = none := by simp; omega
    have hi2 : items2[((i : Nat) : Int).toNat]? = none := by simp; omega
    rw [hi1, hi2]
    wp_walk using AutoSeq1.wpAny_loadPart' hl, AutoSeq1.wpAny_loadPart' hb
    show R (.ok (.ret (.bool (items.size != items2.size)))) _
    rw [hsz]
    simpa using h
  | succ k ih =>
    intro i hk A R s h
    obtain ⟨hp, g, d, tk, os⟩ := s; obtain ⟨hl, hb, he, h⟩ := h
    wp_walk using AutoSeq1.wpAny_loadPart' hl, AutoSeq1.wpAny_loadPart' hb
    have hlt : i < items.size := by omega
    have hlt2 : i < items2.size := by omega
    have hi1 : items[((i : Nat) : Int).toNat]? = some items[i] := by simp [hlt]
    have hi2 : items2[((i : Nat) : Int).toNat]? = some items2[i] := by simp [hlt2]
    have hc : ((i : Int) + 1) = ((i + 1 : Nat) : Int) := by push_cast; rfl
    rw [hi1, hi2]
    refine wpAny_bind (he i hlt hlt2 _ _ ?_)
    wp_walk
    rw [hc]
    exact ⟨plainId_quiet MeetsSeq3.plain_eq_loop _, codeAny_builtin MeetsSeq3.entry_eq_loop (by
      rw [Around.under_plainId MeetsSeq3.plain_eq_loop _]
      exact ih (i + 1) (by omega) A R _ ⟨hl, hb, he, h⟩)⟩
theorem neLists {A : Around} {E : Value → Shared → Prop} {a b : Addr} {xs ys : List Value} {Q : Value → Shared → Prop} {h : Heap} {g : Array GenState} {d : Drawn} {t : Nat} {o : OsState} (hu : A.units < cLine) (hx : ListAt h a xs) (hy : ListAt h b ys) (hl : xs.length = ys.length)
    (he : ∀ j (h1 : j < xs.length) (h2 : j < ys.length), EqW w A.in1 ⟨h, g, d, t, o⟩ xs[j] ys[j]) (H : Q (.bool false) ⟨h, g, d, t, o⟩) :
    wpAny (model pr w) A (compareOp .NotEq (.ref a) (.ref b)) Q E ⟨h, g, d, t, o⟩ := by
  obtain ⟨n, e1⟩ := hx
  obtain ⟨n2, e2⟩ := hy
  have hsz : xs.toArray.size = ys.toArray.size := by simpa using hl
  have f3 := AutoSeq1.sub_list_list
  refine cmp_ofNotEq (wpAny_richCompare_same_room (op := .NotEq) (T := "list") ⟨_, e1, rfl⟩ ⟨_, e2, rfl⟩ F.slot_list_ne (call_meetsIn (S := fun A R s => s.heap.get? a = some { cls := .type "list", data := .seq xs.toArray n } ∧ s.heap.get? b = some { cls := .type "list", data := .seq ys.toArray n2 } ∧
        (∀ j (h1 : j < xs.toArray.size) (h2 : j < ys.toArray.size), EqW w A.in1 s xs.toArray[j] ys.toArray[j]) ∧ R (.ok (.ret (.bool false))) s) F.slot_list_ne ⟨_, e1, rfl⟩ F.entry_list_ne (F.args_list_ne_2 _ _) ?_ ⟨e1, e2, fun j h1 h2 => by simpa using he j (by simpa using h1) (by simpa using h2), (fun e => nomatch e), H⟩) hu)
  intro A R s h
  obtain ⟨hp, g, d, tk, os⟩ := s; obtain ⟨hl, hb, he, h⟩ := h
  have hne : ¬ (xs.toArray.size != ys.toArray.size) = true := by simp [hsz]
  wp_walk using AutoSeq1.wpAny_loadPart' hl, AutoSeq1.wpAny_loadPart' hb
  exact ⟨plainId_quiet MeetsSeq3.plain_eq_loop _, codeAny_builtin MeetsSeq3.entry_eq_loop (by
    rw [Around.under_plainId MeetsSeq3.plain_eq_loop _]
    exact neLoop hsz _ 0 rfl A R _ ⟨hl, hb, he, h⟩)⟩
end

section
variable {w : World} {z : Nat} {A : Around} {E : Value → Shared → Prop} {B h : Heap} {L : Addr} {m : Str → Option Value} {g : Array GenState} {d : Drawn} {t : Nat} {o : OsState}
theorem One.kpn {h h' : Heap} {p : Addr} {x : NLab} (q : One w h p x) (k : Kp none1 h h') : One w h' p x := q.mv fun b ob _ e => k b ob id e
theorem Tr.kpn {h h' : Heap} {p : Addr} {f : Fo} (q : Tr w h p f) (k : Kp none1 h h') : Tr w h' p f := q.mv fun b ob _ e => k b ob id e
theorem One.vp {p : Addr} {x : NLab} {expr : Bool} {Q : Value → Shared → Prop} (G : Grd w z B) (F : Fm B L h m) (q : One w B p x) (H : ∀ tk t', Q (.str x.nm tk) ⟨h, g, d, t', o⟩) :
    wpAny (model pr w) A (getAttr (.ref x.a) "valid_policy" expr) Q E ⟨h, g, d, t, o⟩ := by
  obtain ⟨es, n, t1, t2, i, _, _, _, _, _, _, _, e, _⟩ := q.nd
  exact getA G F i rfl rfl rfl rfl e rfl (H _)
theorem One.qs {p : Addr} {x : NLab} {expr : Bool} {Q : Value → Shared → Prop} (G : Grd w z B) (F : Fm B L h m) (q : One w B p x) (H : ∀ tk t', Q (.str x.ql tk) ⟨h, g, d, t', o⟩) :
    wpAny (model pr w) A (getAttr (.ref x.a) "qualifier_set" expr) Q E ⟨h, g, d, t, o⟩ := by
  obtain ⟨es, n, t1, t2, i, _, _, _, _, _, _, _, _, e, _⟩ := q.nd
  exact getA G F i rfl rfl rfl rfl e rfl (H _)
theorem One.ep {p : Addr} {x : NLab} {expr : Bool} {Q : Value → Shared → Prop} (G : Grd w z B) (F : Fm B L h m) (q : One w B p x) (H : ∀ t', Q (.ref x.hs) ⟨h, g, d, t', o⟩) :
    wpAny (model pr w) A (getAttr (.ref x.a) "expected_policy_set" expr) Q E ⟨h, g, d, t, o⟩ := by
  obtain ⟨es, n, t1, t2, i, _, _, _, _, _, _, _, _, _, e⟩ := q.nd
  exact getA G F i rfl rfl rfl rfl e rfl H
theorem One.pa {p : Addr} {x : NLab} {expr : Bool} {Q : Value → Shared → Prop} (G : Grd w z B) (F : Fm B L h m) (q : One w B p x) (H : ∀ t', Q (.ref p) ⟨h, g, d, t', o⟩) :
    wpAny (model pr w) A (getAttr (.ref x.a) "parent" expr) Q E ⟨h, g, d, t, o⟩ := by
  obtain ⟨es, n, t1, t2, i, _, _, _, _, _, _, e, _⟩ := q.nd
  exact getA G F i rfl rfl rfl rfl e rfl H
end

section
variable {w : World} {A : Around} {E : Value → Shared → Prop}
/-- the end of a turn of forL -/
inductive EndT (B : Heap) (L : Addr) (g : Array GenState) (o : OsState) (mu : Addr → Prop) (N : Addr → Prop) (J : (Addr → Prop) → Heap → (Str → Option Value) → Prop) (K : Value → Shared → Prop) : Flow → Shared → Prop
  | next {f : Flow} {N' : Addr → Prop} {B' h' : Heap} {g' : Array GenState} {d' : Drawn} {t' : Nat} {m' : Str → Option Value} (hf : f = .next ∨ f = .cont) (F : Fm B' L h' m') (k : Kp mu B B') (kg : KpG noneG g g') (j : J N' B' m')
      (n : ∀ b, N' b → (∃ o, B'.get? b = some o) ∧ (N b ∨ B.get? b = none)) (lv : ∀ b, mu b → ∃ o, B'.get? b = some o) : EndT B L g o mu N J K f ⟨h', g', d', t', o⟩
  | out {v : Value} {s : Shared} (k : K v s) : EndT B L g o mu N J K (.ret v) s
theorem forL {target : Expr} {body : List Stmt} {env : Env} {I : Value} {α : Type} {val : α → Value → (Addr → Prop) → Prop} {St} (itr : Itr w A I val St) {xs : List α} {R W : Addr → Prop} {GF : Nat → Prop} {Bb B h : Heap} {L : Addr} {g : Array GenState} {d : Drawn} {t : Nat} {o : OsState} {m : Str → Option Value} (st : St xs R W GF h g) (F : Fm B L h m)
    (KB : Le Bb B) (nL : Bb.get? L = none) (hW : ∀ b ob, Bb.get? b = some ob → ¬ W b) (hWL : ¬ W L) (hRL : ¬ R L) (mu : α → Addr → Prop) (mutA : Addr → Prop) (hmA : ∀ x b, mu x b → mutA b)
    (hmut : ∀ b, mutA b → ∃ ob, Bb.get? b = some ob) (hR : ∀ x v R' b, val x v R' → mu x b → ¬ R' b)
    (hlet : ∀ v s (Q : Unit → Shared → Prop), Q () s → (∃ x xs R W GF, val x v R ∧ St xs R W GF s.heap s.gens) → wpAny (model pr w) A (letOwnedTupleGo target I v) Q (fun _ _ => False) s)
    (J : List α → (Addr → Prop) → Heap → (Str → Option Value) → Prop) (hJ : ∀ xs N B B' m, J xs N B m → (∀ b o, ((∃ ob, Bb.get? b = some ob) ∨ N b) → B.get? b = some o → B'.get? b = some o) → J xs N B' m)
    (j₀ : J xs none1 B m) {K : Value → Shared → Prop} {R₁ : Result → Shared → Prop}
    (turn : ∀ x xs v N B h g' d t m, J (x :: xs) N B m → Fm B L h m → (∃ R', val x v R') → Kp mutA Bb B → KpG GF g g' → (∀ b, N b → b ≠ L → ∃ o, B.get? b = some o) →
      wpAny (model pr w) A (assign target env v) (fun _ s₁ => wpAny (model pr w) A (execs body env) (EndT B L g' o (mu x) N (J xs) K) (fun _ _ => False) s₁) (fun _ _ => False) ⟨h, g', d, t, o⟩)
    (ret : ∀ v s, K v s → R₁ (.ok (.ret v)) s)
    (done : ∀ N B h g' d t m, J [] N B m → Fm B L h m → Kp mutA Bb B → KpG GF g g' → R₁ (.ok .next) ⟨h, g', d, t, o⟩) :
    codeAny (model pr w) A (.forLoop target I body [] env) R₁ ⟨h, g, d, t, o⟩ := by
  refine codeAny_mono (codeAny_forItr itr g GF mu (fun xs Ft B m => ∃ N, J xs N B m ∧ Kp mutA Bb B ∧ ∀ b, Ft b ↔ (∃ ob, Bb.get? b = some ob) ∨ N b) ?hJ ?hM hlet (K := fun fl s' => R₁ (.ok fl) s') ?turn ?done xs (fun b => (∃ ob, Bb.get? b = some ob) ∨ none1 b) B h g d t m ⟨none1, j₀, fun b ob _ e => KB b ob e, fun _ => Iff.rfl⟩ F
    ⟨⟨R, W, GF, st, fun b q => q.elim (fun ⟨ob, e⟩ => hW b ob e) False.elim, fun b e => by rw [e]; exact hWL, fun b e => by rw [e]; exact hRL, fun i q => .inl q⟩, fun b e => by rw [e]; exact F.there, fun b q => q.elim (fun ⟨ob, e⟩ => ⟨ob, F.keep _ _ (KB _ _ e)⟩) False.elim, .refl _ _⟩) ?post
  case hJ =>
    rintro xs Ft B B' m ⟨N, j, k, hf⟩ kk
    exact ⟨N, hJ _ _ _ _ _ j fun b ob q e => kk b ob ((hf b).mpr q) e, fun b ob n e => kk b ob ((hf b).mpr (.inl ⟨ob, e⟩)) (k b ob n e), hf⟩
  case hM =>
    rintro x xs v R' Ft B m ⟨N, j, k, hf⟩ hv b hb
    exact ⟨(hf b).mpr (.inl (hmut b (hmA x b hb))), hR x v R' b hv hb⟩
  case turn =>
    rintro x xs v R' Ft B h g' d t m ⟨N, j, k, hf⟩ F hv kg th
    refine wpAny_mono (turn x xs v N B h g' d t m j F ⟨R', hv⟩ k kg fun b q n => th b ((hf b).mpr (.inr q)) n) (fun _ s₁ q₁ => wpAny_mono q₁ (fun f s₂ q₂ => ?_) fun _ _ x => x) fun _ _ x => x
    cases q₂ with
    | next hf' F' k' kg' j' n' lv' =>
      rename_i N' B' h' g'' d' t' m'
      refine .next hf' F' k' kg' (Ft' := fun b => (∃ ob, Bb.get? b = some ob) ∨ N' b) ⟨N', j', k.step k' (fun b q => hmA x b q), fun _ => Iff.rfl⟩ fun b q => ?_
      rcases q with ⟨ob, e⟩ | q
      · refine ⟨?_, .inl ((hf b).mpr (.inl ⟨ob, e⟩))⟩
        by_cases hb : mu x b
        · exact lv' b hb
        · obtain ⟨ob', e'⟩ := th b ((hf b).mpr (.inl ⟨ob, e⟩)) (fun q => by rw [q, nL] at e; cases e)
          exact ⟨ob', k' b ob' hb e'⟩
      · exact ⟨(n' b q).1, (n' b q).2.imp (fun q => (hf b).mpr (.inr q)) id⟩
    | out q => exact .out (ret _ _ q)
  case done =>
    rintro Ft B h g' d t m ⟨N, j, k, hf⟩ F kg
    exact done N B h g' d t m j F k kg
  case post =>
    rintro r s' q
    cases r with
    | error _ => exact q.elim
    | ok f => exact q
end

local macro_rules | `(tactic| ktr_rel) => `(tactic| (refine' One.kpn ?l9 ?k9; (case k9 => assumption); (case l9 => ktr_rel)))
local macro_rules | `(tactic| ktr_rel) => `(tactic| assumption)
local macro_rules | `(tactic| walk_at "getAttr ref") => `(tactic| ((with_reducible show wpAny _ _ (getAttr _ (PySem.Str.ofString "valid_policy") _) _ _ _); refine' One.vp ?G ?F ?x ?_; (case F => assumption); (case x => ktr_rel); (case G => ktr_rel); intro tk' t'))
local macro_rules | `(tactic| walk_at "getAttr ref") => `(tactic| ((with_reducible show wpAny _ _ (getAttr _ (PySem.Str.ofString "qualifier_set") _) _ _ _); refine' One.qs ?G ?F ?x ?_; (case F => assumption); (case x => ktr_rel); (case G => ktr_rel); intro tk' t'))
local macro_rules | `(tactic| walk_at "getAttr ref") => `(tactic| ((with_reducible show wpAny _ _ (getAttr _ (PySem.Str.ofString "expected_policy_set") _) _ _ _); refine' One.ep ?G ?F ?x ?_; (case F => assumption); (case x => ktr_rel); (case G => ktr_rel); intro t'))
local macro_rules | `(tactic| walk_at "getAttr ref") => `(tactic| ((with_reducible show wpAny _ _ (getAttr _ (PySem.Str.ofString "parent") _) _ _ _); refine' One.pa ?G ?F ?x ?_; (case F => assumption); (case x => ktr_rel); (case G => ktr_rel); intro t'))
local macro_rules | `(tactic| walk_at "exec For") => `(tactic| ((with_reducible show wpAny _ _ (exec (Stmt.For _ _ _ _ _) _) _ _ _); refine wpAny_For ?_))

section
variable {w : World} {z : Nat} {A : Around} {E : Value → Shared → Prop} {h : Heap} {g : Array GenState} {d : Drawn} {t : Nat} {o : OsState}
theorem bare_spec {p : Addr} {x : NLab} {Q : Value → Shared → Prop} (G : Grd w z h) (r : Rm A 1) (q : One w h p x)
    (H : ∀ D h' t' u1 u2, Le h h' → TupAt h' D [.str x.nm u1, .str x.ql u2, .ref x.hs] → h.get? D = none → Q (.ref D) ⟨h', g, d, t', o⟩) :
    wpAny (model pr w) A (call (.ref 113) [.ref x.a]) Q E ⟨h, g, d, t, o⟩ := by
  refine callF (binds := [(Str.ofString "node", .ref x.a)]) G rfl rfl rfl rfl (by have := r.dp; omega) rfl rfl rfl rfl rfl rfl ?_
  intro h₁ F env A'
  repeat' walk1
  rename_i u1 t2 u2 t3 t4 D h2 B2 F2 K2 l2 n2 nh2 zz2 K2'
  exact H D h2 _ u1 u2 (fun b ob e => F2.keep _ _ (K2 _ _ e)) (l2.mv fun _ e => F2.keep _ _ e) n2
noncomputable def rows : Int → Fo → List (Int × NLab)
  | _, .nil => []
  | k, .cons x ks r => rows (k + 1) ks ++ (k, x) :: rows k r
/-- refs to tuples (depth, row), each tuple's place in N -/
def TupsIn (h : Heap) (N : Addr → Prop) : List Value → List (Int × NLab) → Prop
  | [], [] => True
  | v :: vs, x :: xs => (∃ T tk, v = .ref T ∧ N T ∧ TupAt h T [.int x.1 tk, .ref x.2.r]) ∧ TupsIn h N vs xs
  | _, _ => False
theorem TupsIn.mv {h h' : Heap} {N N' : Addr → Prop} : ∀ {vs : List Value} {l : List (Int × NLab)}, TupsIn h N vs l → (∀ b o, N b → h.get? b = some o → h'.get? b = some o) → (∀ b o, N b → h.get? b = some o → N' b) → TupsIn h' N' vs l
  | [], [], _, _, _ => trivial
  | v :: vs, x :: xs, ⟨⟨T, tk, e, n, q⟩, r⟩, k, kn => ⟨⟨T, tk, e, let ⟨j, ej⟩ := q; kn _ _ n ej, q.mv fun o e => k _ o n e⟩, r.mv k kn⟩
  | [], _ :: _, h, _, _ => h.elim
  | _ :: _, [], h, _, _ => h.elim
theorem TupsIn.app {h : Heap} {N : Addr → Prop} : ∀ {vs ws : List Value} {l k : List (Int × NLab)}, TupsIn h N vs l → TupsIn h N ws k → TupsIn h N (vs ++ ws) (l ++ k)
  | [], _, [], _, _, b => b
  | v :: vs, _, x :: xs, _, ⟨a, r⟩, b => ⟨a, r.app b⟩
  | [], _, _ :: _, _, h, _ => h.elim
  | _ :: _, _, [], _, h, _ => h.elim
theorem TupsIn.len {h : Heap} {N : Addr → Prop} : ∀ {vs : List Value} {l : List (Int × NLab)}, TupsIn h N vs l → vs.length = l.length
  | [], [], _ => rfl
  | v :: vs, x :: xs, ⟨_, r⟩ => by simp [r.len]
  | [], _ :: _, h => h.elim
  | _ :: _, [], h => h.elim
theorem rows_len : ∀ (k : Int) (f : Fo), (rows k f).length = f.size
  | _, .nil => rfl
  | k, .cons x ks r => by simp [rows, Fo.size, rows_len (k + 1) ks, rows_len k r]; omega
def RowAt (h : Heap) (r rc : Addr) : Prop := ∃ a b c, ListAt h r [a, b, c, .ref rc]
theorem One.rowAt {h : Heap} {p : Addr} {x : NLab} (q : One w h p x) : RowAt h x.r x.rc := let ⟨_, _, l⟩ := q.row; ⟨_, _, _, l⟩
theorem RowAt.le {h h' : Heap} {r rc : Addr} (x : RowAt h r rc) (k : Le h h') : RowAt h' r rc := let ⟨a, b, c, l⟩ := x; ⟨a, b, c, l.le k⟩
theorem RowAt.mv {h h' : Heap} {r rc : Addr} (x : RowAt h r rc) (k : ∀ o, h.get? r = some o → h'.get? r = some o) : RowAt h' r rc := let ⟨a, b, c, l⟩ := x; ⟨a, b, c, l.mv k⟩
/-- the rows' side of a forest in the heap -/
def Tw (h : Heap) : Fo → Prop
  | .nil => True
  | .cons x ks r => RowAt h x.r x.rc ∧ ListAt h x.rc ks.rrefs ∧ Tw h ks ∧ Tw h r
noncomputable def rad : Fo → List Addr
  | .nil => []
  | .cons x ks r => x.r :: x.rc :: (rad ks ++ rad r)
theorem Tr.tw {w : World} {h : Heap} : ∀ {p : Addr} {f : Fo}, Tr w h p f → Tw h f
  | _, .nil, _ => trivial
  | p, .cons x ks r, ⟨q1, q2, q3, q4, q5⟩ => ⟨q1.rowAt, q3, q4.tw, q5.tw⟩
theorem Tw.mv {h h' : Heap} : ∀ {f : Fo}, Tw h f → (∀ b o, b ∈ rad f → h.get? b = some o → h'.get? b = some o) → Tw h' f
  | .nil, _, _ => trivial
  | .cons x ks r, ⟨q1, q3, q4, q5⟩, k => by
    simp only [rad, List.mem_cons, List.mem_append] at k
    exact ⟨q1.mv fun o e => k _ o (by simp) e, q3.mv fun o e => k _ o (by simp) e, q4.mv fun b o hb e => k b o (by simp [hb]) e, q5.mv fun b o hb e => k b o (by simp [hb]) e⟩
theorem Tw.there {h : Heap} : ∀ {f : Fo}, Tw h f → ∀ b ∈ rad f, ∃ o, h.get? b = some o
  | .nil, _, b, hb => by simp [rad] at hb
  | .cons x ks r, ⟨⟨_, _, _, q1⟩, q3, q4, q5⟩, b, hb => by
    simp only [rad, List.mem_cons, List.mem_append] at hb
    rcases hb with rfl | rfl | hb | hb
    · exact q1.there
    · exact q3.there
    · exact q4.there b hb
    · exact q5.there b hb
theorem none_of {h h' : Heap} (k : Le h h') {b : Addr} (e : h'.get? b = none) : h.get? b = none := by
  cases q : h.get? b with
  | none => rfl
  | some ob => rw [k _ _ q] at e; cases e
theorem ne_of {h : Heap} {a b : Addr} {o : Obj} (e : h.get? a = some o) (n : h.get? b = none) : a ≠ b := fun q => by rw [q, n] at e; cases e
/-- what a turn of _law_rows keeps -/
inductive RwJ (k : Int) (tk : Tok) (found : Addr) (f : Fo) (vs : List Value) (h : Heap) (n : Nat) (xs : List Value) (N : Addr → Prop) (B : Heap) (m : Str → Option Value) : Prop
  | mk (fr : Fo) (vs' : List Value) (e1 : xs = fr.rrefs) (e2 : fr.size < n + 1) (e3 : m (Str.ofString "depth") = some (.int k tk)) (e4 : m (Str.ofString "found") = some (.ref found)) (e5 : Tw B fr) (e6 : ∀ b ∈ rad fr, b ∈ rad f) (e7 : ListAt B found (vs ++ vs'))
    (dn : List (Int × NLab)) (e8 : TupsIn B N vs' dn) (e9 : dn ++ rows k fr = rows k f) (e10 : ∀ b, N b → h.get? b = none ∧ b ≠ h.objs.size) : RwJ k tk found f vs h n xs N B m
set_option maxHeartbeats 1000000 in
theorem rows_spec : ∀ (n : Nat) (f : Fo), f.size < n → ∀ (p r rc : Addr) (k : Int) (tk : Tok) (found : Addr) (vs : List Value) (A : Around) (E : Value → Shared → Prop) (h : Heap) (g : Array GenState) (d : Drawn) (t : Nat) (o : OsState) (Q : Value → Shared → Prop),
    Grd w z h → Rm A (2 * n + 4) → RowAt h r rc → ListAt h rc f.rrefs → Tw h f → ListAt h found vs → z ≤ found → found ∉ rad f → found ≠ r → found ≠ rc → vs.length + f.size ≤ 900 →
    (∀ h' g' d' t' vs', Kp (fun b => b = found) h h' → KpG noneG g g' → ListAt h' found (vs ++ vs') → TupsIn h' (fun b => h.get? b = none) vs' (rows k f) → Q .none ⟨h', g', d', t', o⟩) →
    wpAny (model pr w) A (call (.ref 101) [.ref r, .int k tk, .ref found]) Q E ⟨h, g, d, t, o⟩ := by
  intro n
  induction n with
  | zero => intro f hf; exact absurd hf (Nat.not_lt_zero _)
  | succ n ih =>
    intro f hf p r rc k tk found vs A E h g d t o Q G rm ra lrc T lf zf na nr nrc hl H
    obtain ⟨ra1, ra2, ra3, lr⟩ := ra
    refine callF (binds := [(Str.ofString "node", .ref r), (Str.ofString "depth", .int k tk), (Str.ofString "found", .ref found)]) G rfl rfl rfl rfl (by have := rm.dp; omega) rfl rfl rfl rfl rfl rfl ?_
    intro h₁ F env A'
    have rA : Rm A' (2 * n + 5) := (rm.le (by omega)).deeper
    repeat' walk1
    rename_i tk3 t3 it h₂ B₂ F₂ K₂ k₂ n₂ e₂ I₂ K₂'
    have nit : h.get? it = none := none_of F.keep n₂
    obtain ⟨oL, eL⟩ := F.there
    have nitL : it ≠ h.objs.size := fun q => by rw [← q, n₂] at eL; cases eL
    obtain ⟨nr0, er0⟩ := id lr
    obtain ⟨nc0, ec0⟩ := id lrc
    obtain ⟨nf0, ef0⟩ := id lf
    have nL0 : h.get? h.objs.size = none := get_new
    have fL : found ≠ h.objs.size := ne_of ef0 nL0
    refine forL (itr_list rA.hh e₂) I₂ F₂ (Bb := h) K₂ nL0 (fun b ob e q => ne_of e nit q) (fun q => nitL q.symm) (fun q => ne_of ec0 nL0 q.symm) (fun _ b => b = found) (fun b => b = found) (fun _ _ q => q) (fun b q => ⟨_, q ▸ ef0⟩) (fun x v R' b hv hb hr => nrc (hb.symm.trans (hv.2 b hr))) (fun _ _ _ q _ => wpAny_pure q)
      (RwJ k tk found f vs h n) ?hJ ⟨f, [], rfl, hf, rfl, rfl, T.mv fun b ob _ e => K₂ b ob e, fun b q => q, by rw [List.append_nil]; exact lf.le K₂, [], trivial, rfl, fun b q => q.elim⟩ (K := fun _ _ => False) ?turn (fun v s q => q.elim) ?done
    case hJ =>
      rintro xs N B B' m ⟨fr, vs', e1, e2, e3, e4, e5, e6, e7, dn, e8, e9, e11⟩ k
      have kf : ∀ b ob, h.get? b = some ob → ∀ o', B.get? b = some o' → B'.get? b = some o' := fun b ob e o' e' => k b o' (.inl ⟨ob, e⟩) e'
      refine ⟨fr, vs', e1, e2, e3, e4, e5.mv fun b ob hb e => ?_, e6, e7.mv fun o' e => kf _ _ ef0 _ e, dn, e8.mv (fun b ob nb e => k b ob (.inr nb) e) (fun _ _ q _ => q), e9, e11⟩
      obtain ⟨ob', e'⟩ := T.there b (e6 b hb); exact kf _ _ e' _ e
    case done =>
      rintro N B h₃ g₃ d₃ t₄ m ⟨fr, vs', e1, e2, e3, e4, e5, e6, e7, dn, e8, e9, e11⟩ F₃ k₃ kg₃
      cases fr with
      | cons _ _ _ => simp [Fo.rrefs] at e1
      | nil =>
        simp only [rows, List.append_nil] at e9
        subst e9
        show wpAny _ _ (execs [] env) _ _ _
        repeat' walk1
        refine H h₃ g₃ d₃ _ vs' ((k₃.trans F₃.out).wide fun b q => q.elim id False.elim) kg₃ (e7.le F₃.keep) (e8.mv (fun b ob _ e => F₃.keep _ _ e) fun b _ q _ => (e11 b q).1)
    case turn =>
      rintro x xs v N B h₃ g₃ d₃ t₄ m ⟨fr, vs', e1, e2, e3, e4, e5, e6, e7, dn, e8, e9, e11⟩ F₃ hv k₃ kg₃ th
      obtain ⟨_, rfl, _⟩ := hv
      cases fr with
      | nil => simp [Fo.rrefs] at e1
      | cons y ks r' =>
        simp only [Fo.rrefs, List.cons.injEq] at e1
        obtain ⟨rfl, rfl⟩ := e1
        obtain ⟨q1, q3, q4, q5⟩ := e5
        have e10 : Grd w z B := G.kp k₃ fun b e => e ▸ zf
        repeat' walk1
        rename_i h₄ t5 F₄ u1 t6 u2 t7
        simp only [rad, List.mem_cons, List.mem_append] at e6
        simp only [Fo.size] at e2
        have nfa : found ∉ rad ks := fun q => na (e6 _ (by simp [q]))
        have pB : ∀ b ob, B.get? b = some ob → h₄.get? b = some ob := F₄.keep
        have dl : dn.length + (ks.size + 1 + r'.size) = f.size := by
          have := congrArg List.length e9
          simp only [List.length_append, rows_len, Fo.size] at this; omega
        have vl' := e8.len
        refine ih ks (by omega) y.a y.r y.rc (k + 1) u2 found (vs ++ vs') A' _ h₄ g₃ d₃ _ o _ (e10.le pB) (rA.le (by omega)) (q1.le pB) (q3.le pB) (q4.mv fun b ob _ e => pB b ob e) (e7.le pB) zf nfa (fun q => na (e6 _ (by simp [q]))) (fun q => na (e6 _ (by simp [q]))) (by rw [List.length_append]; omega) fun h₅ g₅ d₅ t₅ ws k₅ kg₅ l₅ T₅ => ?_
        obtain ⟨B₅, F₅, K₅, up₅⟩ := F₄.after k₅ (fun q => fL q.symm)
        obtain ⟨oL4, eL4⟩ := F₄.there
        have l₅' : ListAt B₅ found (vs ++ vs' ++ ws) := let ⟨q, e⟩ := l₅; ⟨q, up₅ _ _ fL e⟩
        have T₅' : TupsIn B₅ (fun b => h₄.get? b = none) ws (rows (k + 1) ks) := T₅.mv (fun b ob nb e => up₅ b ob (fun q => by rw [q, eL4] at nb; cases nb) e) fun _ _ q _ => q
        have lw := T₅'.len
        rw [rows_len] at lw
        repeat' walk1
        rename_i D₆ h₆ B₆ F₆ K₆ l₆ n₆ nh₆ zz₆ K₆' h₇ B₇ F₇ K₇ l₇
        have nD : B.get? D₆ = none := by
          cases q : B.get? D₆ with
          | none => rfl
          | some ob =>
            by_cases hb : D₆ = found
            · obtain ⟨j, e⟩ := l₅'; rw [hb, e] at n₆; cases n₆
            · rw [K₅ _ _ hb q] at n₆; cases n₆
        have nDf : D₆ ≠ found := fun q => by obtain ⟨j, e⟩ := l₅'; rw [q, e] at n₆; cases n₆
        have k57 : ∀ b ob, b ≠ found → B₅.get? b = some ob → B₇.get? b = some ob := fun b ob n e => K₇ b ob n (K₆ b ob e)
        have kB7 : ∀ b ob, b ≠ found → B.get? b = some ob → B₇.get? b = some ob := fun b ob n e => k57 b ob n (K₅ b ob n e)
        have nf4 : ∀ b, h₄.get? b = none → b ≠ found := fun b e q => by obtain ⟨j, e'⟩ := e7.le pB; rw [q, e'] at e; cases e
        have nNf : ∀ b, N b → b ≠ found := fun b q e => by have := (e11 b q).1; rw [e, ef0] at this; cases this
        have tD : TupAt B₇ D₆ [Value.int k tk, Value.ref y.r] := l₆.kp K₇ nDf
        have G₇ : Grd w z B₇ := ((e10.kp K₅ fun b e => e ▸ zf).le K₆).kp K₇ fun b e => e ▸ zf
        refine .next (.inl rfl) F₇ (fun b ob n e => kB7 b ob n e) kg₅ (N' := fun b => N b ∨ ((∃ ob, B₇.get? b = some ob) ∧ B.get? b = none ∧ b ≠ h.objs.size)) ⟨r', vs' ++ (ws ++ [Value.ref D₆]), rfl, by omega, ?_, ?_, q5.mv fun b ob hb e => ?_, fun b hb => e6 b (by simp [hb]), by simpa [List.append_assoc] using l₇, dn ++ (rows (k + 1) ks ++ [(k, y)]), ?_, ?_, ?_⟩ ?_ ?_
        · show (if _ then _ else _) = _
          rw [if_neg (by decide)]; exact e3
        · show (if _ then _ else _) = _
          rw [if_neg (by decide)]; exact e4
        · exact kB7 b ob (fun q => na (q ▸ e6 b (by simp [hb]))) e
        · refine (e8.mv (fun b ob q e => kB7 b ob (nNf b q) e) fun b _ q _ => .inl q).app (TupsIn.app (T₅'.mv (fun b ob q e => k57 b ob (nf4 b q) e) fun b ob q e => .inr ⟨⟨ob, k57 b ob (nf4 b q) e⟩, none_of pB q, fun e' => by rw [e', eL4] at q; cases q⟩) ⟨⟨D₆, tk, rfl, .inr ⟨⟨_, tD.choose_spec⟩, nD, fun e' => ?_⟩, tD⟩, trivial⟩)
          exact F₇.off_ne tD.choose_spec e'
        · rw [← e9]; simp [rows, List.append_assoc]
        · intro b q
          rcases q with q | ⟨_, q, q'⟩
          · exact e11 b q
          · refine ⟨?_, q'⟩
            cases q2 : h.get? b with
            | none => rfl
            | some ob =>
              by_cases hb : b = found
              · obtain ⟨j, e⟩ := e7; rw [hb, e] at q; cases q
              · rw [k₃ _ _ hb q2] at q; cases q
        · intro b q
          rcases q with q | ⟨a, q2, c⟩
          · obtain ⟨ob, e⟩ := th b q (e11 b q).2
            exact ⟨⟨ob, kB7 b ob (nNf b q) e⟩, .inl q⟩
          · exact ⟨a, .inr q2⟩
        · rintro b rfl; exact l₇.there
end

section
variable {w : World} {z : Nat} {A : Around} {E : Value → Shared → Prop} {h : Heap} {g : Array GenState} {d : Drawn} {t : Nat} {o : OsState}
theorem flat_spec {r rc : Addr} {f : Fo} {Q : Value → Shared → Prop} (G : Grd w z h) (rm : Rm A (2 * f.size + 8)) (ra : RowAt h r rc) (lrc : ListAt h rc f.rrefs) (T : Tw h f) (hs : f.size ≤ 800)
    (H : ∀ D vs h' g' d' t', Le h h' → KpG noneG g g' → ListAt h' D vs → TupsIn h' (fun b => h.get? b = none) vs (rows 0 f) → h.get? D = none → Q (.ref D) ⟨h', g', d', t', o⟩) :
    wpAny (model pr w) A (call (.ref 125) [.ref r]) Q E ⟨h, g, d, t, o⟩ := by
  refine callF (binds := [(Str.ofString "tree", .ref r)]) G rfl rfl rfl rfl (by have := rm.dp; omega) rfl rfl rfl rfl rfl rfl ?_
  intro h₁ F env A'
  have rA : Rm A' (2 * f.size + 7) := rm.deeper
  repeat' walk1
  rename_i D h₂ B₂ F₂ K₂ l₂ n₂ nh₂ zz₂ K₂' h₃ t₃ F₃ u t₄
  obtain ⟨a1, a2, a3, lr⟩ := id ra
  obtain ⟨nr, er⟩ := id lr
  obtain ⟨nc, ec⟩ := id lrc
  have pB := F₃.keep
  have nDh : ∀ b ob, h.get? b = some ob → b ≠ D := fun b ob e => ne_of e n₂
  have up : ∀ b ob, h.get? b = some ob → h₃.get? b = some ob := fun b ob e => pB b ob (K₂ b ob e)
  refine rows_spec (f.size + 1) f (by omega) 0 r rc 0 u D [] A' _ h₃ g d _ o _ (G.le up) (rA.le (by omega)) ⟨a1, a2, a3, lr.le up⟩ (lrc.le up) (T.mv fun b ob _ e => up b ob e) (l₂.le pB) (Nat.le_trans (G.le F.keep).size zz₂) (fun q => let ⟨ob, e⟩ := T.there D q; nDh D ob e rfl) (fun q => nDh _ _ er q.symm) (fun q => nDh _ _ ec q.symm) (by simp; omega) fun h₅ g₅ d₅ t₅ ws k₅ kg₅ l₅ T₅ => ?_
  obtain ⟨oL, eL⟩ := F₃.there
  have nDL : D ≠ h.objs.size := fun q => by obtain ⟨ob, e⟩ := F.there; rw [← q, nh₂] at e; cases e
  obtain ⟨B₅, F₅, K₅, up₅⟩ := F₃.after k₅ (fun q => nDL q.symm)
  repeat' walk1
  refine H D ws h₅ g₅ _ _ (fun b ob e => k₅ b ob (nDh b ob e) (up b ob e)) kg₅ l₅ (T₅.mv (fun b ob q e => e) fun b ob q e => none_of up q) n₂
end

theorem cells_some {x : Str} : ∀ (names : List (Str × NameKind)) (n : Nat) (acc : List (Str × Addr)), (names.any (fun y => y.1 == x && y.2 == .cell) = true ∨ (acc.lookup x).isSome = true) → ((cellsFrom n names acc).lookup x).isSome = true
  | [], n, acc, h => by simpa [cellsFrom] using h
  | (nm, k) :: r, n, acc, h => by
    unfold cellsFrom
    by_cases hk : (k == .cell) = true
    · rw [if_pos hk]
      refine cells_some r (n + 1) _ ?_
      by_cases hx : nm == x
      · right
        rw [List.lookup_cons, show (x == nm) = true by rw [beq_iff_eq] at hx ⊢; exact hx.symm]
        rfl
      · rcases h with h | h
        · left
          simpa [hx] using h
        · right
          rw [List.lookup_cons]
          cases x == nm <;> simp [h]
    · rw [if_neg hk]
      refine cells_some r n acc ?_
      rcases h with h | h
      · left
        have : (k == .cell) = false := by simpa using hk
        simpa [this] using h
      · exact .inr h
section
variable {w : World} {z : Nat} {A : Around} {E : Value → Shared → Prop} {h : Heap} {g : Array GenState} {d : Drawn} {t : Nat} {o : OsState}
theorem callFC {f : Addr} {ob : Obj} {fd : FuncData} {body : List Stmt} {pos : List Value} {binds : List (Str × Value)} {Q : Value → Shared → Prop}
    (G : Grd w z h) (ho : (KK w).lookup f = some ob) (hd : ob.data = .func fd) (hc : codeIn (KK w) fd.code fd.qualname = true) (hb : fd.body = .stmts body)
    (hroom : A.depth < recursionLimit) (bt : bindArgs fd ⟨pos, []⟩ = pure binds) (hclo : fd.closure = [])
    (hkind : (binds.all fun x => decide (fd.scope.names.lookup x.1 = some .local) || (decide (fd.scope.names.lookup x.1 = some .cell) && fd.scope.names.any (fun y => y.1 == x.1 && y.2 == .cell))) = true)
    (hco : fd.scope.isCoroutine = false) (hgen : fd.scope.isGenerator = false) (hk : fd.scope.kind = .function)
    (H : ∀ h₁ B₁ t₁, Fm B₁ h.objs.size h₁ (bindL (callEnvC fd h.objs.size f).kindOf binds fun _ => none) → Le h B₁ → (∀ n c, (callEnvC fd h.objs.size f).cells.lookup n = some c → B₁.IsCell c (bindC (callEnvC fd h.objs.size f).kindOf binds (fun _ => none) n) ∧ h.get? c = none ∧ z ≤ c) →
      let env := callEnvC fd h.objs.size f
      let A' := A.deeper env
      wpAny (model pr w) A' (execs body env) (fun fl s' => Q (flowVal fl) s') (fun _ _ => False) ⟨h₁, g, d, t₁, o⟩) :
    wpAny (model pr w) A (call (.ref f) pos) Q E ⟨h, g, d, t, o⟩ := by
  refine wpAny_call (codeAny_call_cells hroom (G.k _ _ ho) hd G.nolimit (codeRec_of G.k hc) hb bt hclo (fun x hx => ?_) (fun s₁ X => ?_) hco hgen hk)
  · have := List.all_eq_true.mp hkind x hx
    simp only [Bool.or_eq_true, Bool.and_eq_true, decide_eq_true_eq] at this
    rcases this with q | ⟨q, q'⟩
    · exact .inl q
    · exact .inr ⟨q, cells_some _ _ _ (.inl q')⟩
  · obtain ⟨h₁, tk, rfl⟩ := X.toInCall.same
    have hLn : h.get? h.objs.size = none := get_new
    refine wpAny_mono (H h₁ (h₁.hide h.objs.size) tk (Fm.hide X.toInCall.ns) (fun b ob e => (Heap.hide_ne _ (Nat.ne_of_lt (Heap.lt_size e))).trans (X.toInCall.keep b ob e)) fun n c hc => ?_) (fun fl s' q => ?_) (fun _ _ q => q.elim)
    · have ab := X.above n c (mem_of_lookup hc)
      obtain ⟨oc, e1, e2⟩ := X.cell n c hc
      refine ⟨⟨oc, (Heap.hide_ne _ (Nat.ne_of_gt ab)).trans e1, e2⟩, ?_, Nat.le_trans G.size (Nat.le_of_lt ab)⟩
      cases q : h.get? c with
      | none => rfl
      | some ob => exact absurd (Heap.lt_size q) (Nat.not_lt.mpr (Nat.le_of_lt ab))
    · cases fl <;> exact q
theorem IsCell.kp {h h' : Heap} {c : Addr} {v : Option Value} {W : Addr → Prop} (x : h.IsCell c v) (k : Kp W h h') (n : ¬ W c) : h'.IsCell c v := let ⟨o, e, r⟩ := x; ⟨o, k _ _ n e, r⟩
end
section
variable {w : World} {A : Around} {E : Value → Shared → Prop} {B h : Heap} {L : Addr} {m : Str → Option Value} {g : Array GenState} {d : Drawn} {t : Nat} {o : OsState} {env : Env}
theorem eCell {x : Str} {pos : Pos} {c : Addr} {v : Value} {Q : Value → Shared → Prop} (F : Fm B L h m) (hv : B.IsCell c (some v)) (hc : env.cells.lookup x = some c) (hk : env.scope.kind = .function) (hl : env.kindOf x = some .cell) (hd : (x == ("__debug__" : Str)) = false) (H : Q v ⟨h, g, d, t, o⟩) :
    wpAny (model pr w) A (eval (.Name x pos) env) Q E ⟨h, g, d, t, o⟩ := wpAny_Name (wpAny_loadName_cell hk hl hc (hv.keeps F.keep) H) hd
theorem eFree {x : Str} {pos : Pos} {c : Addr} {v : Value} {Q : Value → Shared → Prop} (F : Fm B L h m) (hv : B.IsCell c (some v)) (hc : env.cells.lookup x = some c) (hk : env.scope.kind = .function) (hl : env.kindOf x = some .free) (hd : (x == ("__debug__" : Str)) = false) (hn : (x == ("__classdict__" : Str)) = false) (H : Q v ⟨h, g, d, t, o⟩) :
    wpAny (model pr w) A (eval (.Name x pos) env) Q E ⟨h, g, d, t, o⟩ := wpAny_Name (wpAny_loadName_free hk hl hc (hv.keeps F.keep) H hn) hd
theorem eCell2 {x : Str} {pos : Pos} {c : Addr} {v : Value} {Q : Value → Shared → Prop} (hc : env.cells.lookup x = some c) (hk : env.scope.kind = .function) (hl : env.kindOf x = some .cell) (hd : (x == ("__debug__" : Str)) = false) (F : Fm B L h m) (hv : B.IsCell c (some v)) (H : Q v ⟨h, g, d, t, o⟩) :
    wpAny (model pr w) A (eval (.Name x pos) env) Q E ⟨h, g, d, t, o⟩ := wpAny_Name (wpAny_loadName_cell hk hl hc (hv.keeps F.keep) H) hd
theorem eFree2 {x : Str} {pos : Pos} {c : Addr} {v : Value} {Q : Value → Shared → Prop} (hc : env.cells.lookup x = some c) (hk : env.scope.kind = .function) (hl : env.kindOf x = some .free) (hd : (x == ("__debug__" : Str)) = false) (hn : (x == ("__classdict__" : Str)) = false) (F : Fm B L h m) (hv : B.IsCell c (some v)) (H : Q v ⟨h, g, d, t, o⟩) :
    wpAny (model pr w) A (eval (.Name x pos) env) Q E ⟨h, g, d, t, o⟩ := wpAny_Name (wpAny_loadName_free hk hl hc (hv.keeps F.keep) H hn) hd
theorem eGlob2 {z : Nat} {x : Str} {pos : Pos} {v : Value} {Q : Value → Shared → Prop} (F : Fm B L h m) (G : Grd w z B) (e : nsIn (KK w) mainGlobals x = some (some v)) (hg : env.globals = mainGlobals)
    (hk : env.scope.kind = .function) (hx : env.kindOf x = some .globalImplicit) (hd : (x == ("__debug__" : Str)) = false) (H : Q v ⟨h, g, d, t, o⟩) :
    wpAny (model pr w) A (eval (.Name x pos) env) Q E ⟨h, g, d, t, o⟩ := eGlob G F e hg hk hx hd H
theorem eBuilt2 {z : Nat} {x : Str} {pos : Pos} {v : Value} {Q : Value → Shared → Prop} (hv : bootBuiltins x = some v) (hk : env.scope.kind = .function) (hx : env.kindOf x = some .globalImplicit) (F : Fm B L h m) (G : Grd w z B) (e : nsIn (KK w) mainGlobals x = some none) (hn : x ≠ "__name__") (hg : env.globals = mainGlobals)
    (hb : env.builtins = builtinsNs) (hd : (x == ("__debug__" : Str)) = false) (H : Q v ⟨h, g, d, t, o⟩) :
    wpAny (model pr w) A (eval (.Name x pos) env) Q E ⟨h, g, d, t, o⟩ := eBuilt G F e hv hn hg hb hk hx hd H
theorem eLocal3 {x : Str} {pos : Pos} {v : Value} {Q : Value → Shared → Prop} (hl : env.kindOf x = some .local) (F : Fm B L h m) (hL : env.locals = L) (hk : env.scope.kind = .function) (hv : m x = some v) (hd : (x == ("__debug__" : Str)) = false) (H : Q v ⟨h, g, d, t, o⟩) :
    wpAny (model pr w) A (eval (.Name x pos) env) Q E ⟨h, g, d, t, o⟩ := eLocal F hv hL hk hl hd H
theorem eCell3 {x : Str} {pos : Pos} {c : Addr} {v : Value} {Q : Value → Shared → Prop} (hl : env.kindOf x = some .cell) (hc : env.cells.lookup x = some c) (hk : env.scope.kind = .function) (hd : (x == ("__debug__" : Str)) = false) (F : Fm B L h m) (hv : B.IsCell c (some v)) (H : Q v ⟨h, g, d, t, o⟩) :
    wpAny (model pr w) A (eval (.Name x pos) env) Q E ⟨h, g, d, t, o⟩ := eCell2 hc hk hl hd F hv H
theorem eFree3 {x : Str} {pos : Pos} {c : Addr} {v : Value} {Q : Value → Shared → Prop} (hl : env.kindOf x = some .free) (hc : env.cells.lookup x = some c) (hk : env.scope.kind = .function) (hd : (x == ("__debug__" : Str)) = false) (hn : (x == ("__classdict__" : Str)) = false) (F : Fm B L h m) (hv : B.IsCell c (some v)) (H : Q v ⟨h, g, d, t, o⟩) :
    wpAny (model pr w) A (eval (.Name x pos) env) Q E ⟨h, g, d, t, o⟩ := eFree2 hc hk hl hd hn F hv H
theorem eGlob3 {z : Nat} {x : Str} {pos : Pos} {v : Value} {Q : Value → Shared → Prop} (hx : env.kindOf x = some .globalImplicit) (e : nsIn (KK w) mainGlobals x = some (some v)) (F : Fm B L h m) (G : Grd w z B) (hg : env.globals = mainGlobals)
    (hk : env.scope.kind = .function) (hd : (x == ("__debug__" : Str)) = false) (H : Q v ⟨h, g, d, t, o⟩) :
    wpAny (model pr w) A (eval (.Name x pos) env) Q E ⟨h, g, d, t, o⟩ := eGlob G F e hg hk hx hd H
theorem eBuilt3 {z : Nat} {x : Str} {pos : Pos} {v : Value} {Q : Value → Shared → Prop} (hx : env.kindOf x = some .globalImplicit) (e : nsIn (KK w) mainGlobals x = some none) (F : Fm B L h m) (G : Grd w z B) (hv : bootBuiltins x = some v) (hk : env.scope.kind = .function) (hn : x ≠ "__name__") (hg : env.globals = mainGlobals)
    (hb : env.builtins = builtinsNs) (hd : (x == ("__debug__" : Str)) = false) (H : Q v ⟨h, g, d, t, o⟩) :
    wpAny (model pr w) A (eval (.Name x pos) env) Q E ⟨h, g, d, t, o⟩ := eBuilt G F e hv hn hg hb hk hx hd H
theorem kStoreC {x : Str} {c : Addr} {v₀ : Option Value} {v : Value} {Q : Unit → Shared → Prop} (F : Fm B L h m) (hv : B.IsCell c v₀) (hc : env.cells.lookup x = some c) (hk : env.scope.kind = .function) (hl : env.kindOf x = some .cell)
    (H : ∀ h' B', Fm B' L h' m → Kp (fun b => b = c) B B' → B'.IsCell c (some v) → Q () ⟨h', g, d, t, o⟩) : wpAny (model pr w) A (storeName env x v) Q E ⟨h, g, d, t, o⟩ := by
  obtain ⟨oc, e1, e2⟩ := hv
  refine wpAny_storeName_cell hk hl hc ⟨oc, F.keep _ _ e1, e2⟩ fun h' hc' hs => ?_
  obtain ⟨o', f1, f2⟩ := hc'
  obtain ⟨B', F', hs', hg'⟩ := F.mut e1 hs f1
  exact H h' B' F' (.of_same hs') ⟨o', hg', f2⟩
end
theorem Grd.kp2 {w : World} {z : Nat} {W : Addr → Prop} {h h' : Heap} (k : Kp W h h') (g : Grd w z h) (hz : ∀ b, W b → z ≤ b) : Grd w z h' := g.kp k hz
theorem ListAt.kp2 {h h' : Heap} {a : Addr} {xs : List Value} {W : Addr → Prop} (k : Kp W h h') (l : ListAt h a xs) (hw : ¬ W a) : ListAt h' a xs := l.kp k hw
theorem TupAt.kp2 {h h' : Heap} {a : Addr} {xs : List Value} {W : Addr → Prop} (k : Kp W h h') (l : TupAt h a xs) (hw : ¬ W a) : TupAt h' a xs := l.kp k hw
theorem Nd.kp2 {h h' : Heap} {C a d c : Addr} {W : Addr → Prop} (k : Kp W h h') (x : Nd h C a d c) (na : ¬ W a) (nd : ¬ W d) : Nd h' C a d c := x.kp k na nd
theorem One.kp2 {w : World} {h h' : Heap} {p : Addr} {x : NLab} (k : Kp none1 h h') (q : One w h p x) : One w h' p x := q.kpn k
theorem IsCell.kp2 {h h' : Heap} {c : Addr} {v : Option Value} {W : Addr → Prop} (k : Kp W h h') (x : h.IsCell c v) (n : ¬ W c) : h'.IsCell c v := IsCell.kp x k n

section
variable {w : World} {A : Around} {E : Value → Shared → Prop}
theorem lcCore {elt target iter : Expr} {ifs : List Expr} {rest : List Comprehension} {scope : Scope} {pos : Pos} {env : Env} {cl : List (Str × Addr)} {Q : Value → Shared → Prop} {s : Shared}
    (hclos : closureFor scope env = pure cl) (hcell : (scope.names.all fun x => x.2 != .cell) = true) (hkind : scope.kind = .function)
    (hnames : (scope.names.all fun x => x.2 != .local || scope.names.lookup x.1 == some .local) = true) (hs : ∀ x, foldedSetIterable iter env x = pure x)
    (H : wpAny (model pr w) A (eval iter env) (fun x s₁ => wpAny (model pr w) A (pyIter x) (fun I s₂ =>
      (∀ (h : Heap) (d' : Drawn) (t' : Nat) (Q' : Value → Shared → Prop), (∀ b o, s₂.heap.get? b = some o → h.get? b = some o) → Q' I ⟨h, s₂.gens, d', t', s₂.os⟩ → wpAny (model pr w) A (pyIter I) Q' (fun _ _ => False) ⟨h, s₂.gens, d', t', s₂.os⟩) ∧
      ∀ (C D : Addr) (h₄ : Heap) (t₄ : Nat), h₄.Ns C (fun _ => none) → (∀ b o, s₂.heap.get? b = some o → h₄.get? b = some o) → ListAt h₄ D [] → s₂.heap.get? C = none → s₂.heap.get? D = none → D ≠ C → s₂.heap.objs.size ≤ D → s₂.heap.objs.size ≤ C →
        codeAny (model pr w) A (.compLoop (.ListComp elt (⟨target, iter, ifs, 0⟩ :: rest) scope pos) 0 I (.ref D) (compEnvC scope cl C env)) (fun r s' => ∃ fl mC, r = .ok fl ∧ s'.heap.Ns C mC ∧ ∀ h₅, Heap.SameBut C s'.heap h₅ → Q (.ref D) { s' with heap := h₅ }) ⟨h₄, s₂.gens, s₂.drawn, t₄, s₂.os⟩) E s₁) E s) :
    wpAny (model pr w) A (eval (.ListComp elt (⟨target, iter, ifs, 0⟩ :: rest) scope pos) env) Q E s := by
  rw [eval_ListComp]
  refine wpAny_comprehension_free (use := none) rfl hs hclos hkind (fun x hx hl => ?_) (wpAny_mono H (fun x s₁ h₁ => wpAny_mono h₁ (fun I s₂ h₂ => ?_) fun _ _ e => e) fun _ _ e => e)
  · have := List.all_eq_true.mp hnames x hx
    simpa [hl] using this
  obtain ⟨self, go⟩ := h₂
  obtain ⟨h, g, d, t, o⟩ := s₂
  dsimp only at self go
  have hnone : h.get? h.objs.size = none := get_new
  refine wpAny_newObj_type ?_ (by size_fits)
  refine wpAny_newFunctionEnv (fun x hx => ?_) (fun _ hx => nomatch hx) (fun h₄ hn₄ hs₄ => ?_) hkind
  · have := List.all_eq_true.mp hcell x hx
    simpa using this
  dsimp only at hn₄ hs₄ ⊢
  generalize hC : (h.push { cls := .type "list", data := .seq ([] : List Value).toArray }).objs.size = C at hn₄ hs₄ ⊢
  generalize hD : h.objs.size = D at hnone ⊢
  have hCD : C = D + 1 := by rw [← hC, Heap.size_push, hD]
  have hDL : D ≠ C := by rw [hCD]; exact Nat.ne_of_lt (Nat.lt_succ_self _)
  have gD : h₄.get? D = some { cls := .type "list", data := .seq ([] : List Value).toArray } := by
    refine (hs₄.2 D hDL).trans (Heap.get?_push_of_some _ ?_)
    rw [← hD]; exact Heap.get?_push_size _ rfl
  have hh4 : ∀ b o', h.get? b = some o' → h₄.get? b = some o' := fun b o' e => by
    have hlt : b < D := hD ▸ Heap.lt_size e
    have : b ≠ C := by rw [hCD]; exact Nat.ne_of_lt (Nat.lt_succ_of_lt hlt)
    exact (hs₄.2 b this).trans (Heap.get?_push_of_some _ (Heap.get?_push_of_some _ e))
  have hCn : h.get? C = none := by
    cases q : h.get? C with
    | none => rfl
    | some o' =>
      have hlt : C < D := hD ▸ Heap.lt_size q
      exact absurd hlt (by rw [hCD]; exact Nat.not_lt.mpr (Nat.le_succ _))
  refine compStart_go (fun Q' q => self _ _ _ _ hh4 q) ?_
  refine codeAny_mono (go C D h₄ _ hn₄ hh4 ⟨0, gD⟩ hCn hnone hDL (Nat.le_of_eq hD) (by rw [hCD, ← hD]; exact Nat.le_succ _)) fun r s' q => ?_
  obtain ⟨fl, mC, rfl, n, q⟩ := q
  exact ⟨mC, n, q⟩
end

section
variable {w : World} {A : Around} {E : Value → Shared → Prop}
theorem compTurn_2in (y : Str) (p : Pos) (t0 it0 t1 it1 : Expr) (scope : Scope) (pos : Pos) (I acc : Value) (env : Env) :
    compTurn (.ListComp (.Name y p) [⟨t0, it0, [], 0⟩, ⟨t1, it1, [], 0⟩] scope pos) 1 I acc env = (standAt it1.pos >>= fun _ => pyNext I >>= fun r => match r with
      | none => pure (.done .next)
      | some v => letOwnedTupleGo t1 I v >>= fun _ => assign t1 env v >>= fun _ =>
        (eval (.Name y p) env >>= fun x => call (.builtin "list.append") [acc, x] >>= fun _ => pure ()) >>= fun _ =>
          again (.compLoop (.ListComp (.Name y p) [⟨t0, it0, [], 0⟩, ⟨t1, it1, [], 0⟩] scope pos) 1 I acc env)) := by rfl
theorem compTurn_2out (y : Str) (p : Pos) (t0 it0 t1 it1 : Expr) (scope : Scope) (pos : Pos) (I acc : Value) (env : Env) :
    compTurn (.ListComp (.Name y p) [⟨t0, it0, [], 0⟩, ⟨t1, it1, [], 0⟩] scope pos) 0 I acc env = (standAt it0.pos >>= fun _ => pyNext I >>= fun r => match r with
      | none => pure (.done .next)
      | some v => letOwnedTupleGo t0 I v >>= fun _ => assign t0 env v >>= fun _ =>
        (eval it1 env >>= fun x => standAt it1.pos >>= fun _ => foldedSetIterable it1 env x >>= fun x => holding [x] (pyIter x) >>= fun J =>
          runOwn (.compStart (.ListComp (.Name y p) [⟨t0, it0, [], 0⟩, ⟨t1, it1, [], 0⟩] scope pos) 1 J acc env) env >>= fun _ =>
          again (.compLoop (.ListComp (.Name y p) [⟨t0, it0, [], 0⟩, ⟨t1, it1, [], 0⟩] scope pos) 0 I acc env))) := by rfl
theorem compStart_go1 {elt t0 it0 t1 it1 : Expr} {scope : Scope} {pos : Pos} {I acc : Value} {env : Env} {R : Result → Shared → Prop} {s : Shared}
    (hs : ∀ (Q : Value → Shared → Prop), Q I s → wpAny (model pr w) A (pyIter I) Q (fun _ _ => False) s)
    (h : codeAny (model pr w) A (.compLoop (.ListComp elt [⟨t0, it0, [], 0⟩, ⟨t1, it1, [], 0⟩] scope pos) 1 I acc env) R s) :
    codeAny (model pr w) A (.compStart (.ListComp elt [⟨t0, it0, [], 0⟩, ⟨t1, it1, [], 0⟩] scope pos) 1 I acc env) R s := by
  refine codeAny_of_tree ?_
  rw [Around.under_of_weight (by rfl) (by rfl)]
  show wpAny _ A ((compStart (.ListComp elt [⟨t0, it0, [], 0⟩, ⟨t1, it1, [], 0⟩] scope pos) 1 I acc env).onRaise _) _ _ _
  refine noRaise ?_
  unfold compStart
  show wpAny _ A (ask >>= _) _ _ _
  refine wpAny_bind (wpAny_askSetting ?_)
  cases hf : w.params.followText "comprehension-iter-twice" with
  | true =>
    show wpAny _ A (if w.params.followText "comprehension-iter-twice" = true then _ else _) _ _ _
    rw [hf, if_pos rfl]
    exact wpAny_bind (wpAny_pure (wpAny_pure ⟨rfl, h⟩))
  | false =>
    show wpAny _ A (if w.params.followText "comprehension-iter-twice" = true then _ else _) _ _ _
    rw [hf, if_neg Bool.false_ne_true]
    refine wpAny_bind (wpAny_rule ?_)
    refine wpAny_bind (wpAny_standAt ?_)
    exact wpAny_bind (hs _ (wpAny_pure ⟨rfl, h⟩))
theorem inner2 {y : Str} {p q : Pos} {t0 it0 it1 : Expr} {scope : Scope} {pos : Pos} {env : Env} {C D I l : Addr} {items : Array Value} {R : Result → Shared → Prop} (hh : A.handled = none) (hC : env.locals = C) (hk : env.scope.kind = .function) (hl : env.kindOf y = some .local) (hd : (y == ("__debug__" : Str)) = false)
    (nDI : D ≠ I) (nlI : l ≠ I) (nlD : l ≠ D) :
    ∀ (ws acc : List Value) (i : Nat) (h : Heap) (g : Array GenState) (d : Drawn) (t : Nat) (o : OsState) (B : Heap) (m : Str → Option Value), Fm B C h m → ListAt B D acc → B.IsListIter I l i → B.IsList l items → items.toList.drop i = ws → (acc ++ ws).length ≤ 900 →
      (∀ h' t' B' m', Fm B' C h' m' → Kp (fun b => b = D ∨ b = I) B B' → ListAt B' D (acc ++ ws) → R (.ok .next) ⟨h', g, d, t', o⟩) →
      codeAny (model pr w) A (.compLoop (.ListComp (.Name y p) [⟨t0, it0, [], 0⟩, ⟨.Name y q, it1, [], 0⟩] scope pos) 1 (.ref I) (.ref D) env) R ⟨h, g, d, t, o⟩ := by
  intro ws
  induction ws with
  | nil =>
    intro acc i h g d t o B m F lD hi hli hw hz H
    refine codeAny_of_tree ?_
    rw [Around.under_of_weight (by rfl) (by rfl)]
    show wpAny _ A ((compTurn (.ListComp (.Name y p) [⟨t0, it0, [], 0⟩, ⟨.Name y q, it1, [], 0⟩] scope pos) 1 (.ref I) (.ref D) env).onRaise _) _ _ _
    refine noRaise ?_
    rw [compTurn_2in]
    have e1 : items[i]? = none := by
      have : items.toList[i]? = none := by rw [← List.head?_drop, hw]; rfl
      simpa using this
    obtain ⟨oi, f1, f2⟩ := id hi
    refine wpAny_bind (wpAny_standAt (wpAny_bind (wpAny_pyNext_list_end hh (let ⟨oi, f1, f2⟩ := hi; ⟨oi, F.keep _ _ f1, f2⟩) (let ⟨ol, l1, l2⟩ := hli; ⟨ol, F.keep _ _ l1, l2⟩) e1 fun h' hs => ?_)))
    refine wpAny_pure ?_
    have nIC : I ≠ C := F.off_ne f1
    obtain ⟨B', F', kB, up⟩ := F.after (W := fun b => b = I) (fun b ob n e => hs b ob n e) (fun q => nIC q.symm)
    exact H h' t B' m F' (kB.wide fun b q => .inr q) (by rw [List.append_nil]; exact lD.kp kB nDI)
  | cons v ws ih =>
    intro acc i h g d t o B m F lD hi hli hw hz H
    refine codeAny_of_tree ?_
    rw [Around.under_of_weight (by rfl) (by rfl)]
    show wpAny _ A ((compTurn (.ListComp (.Name y p) [⟨t0, it0, [], 0⟩, ⟨.Name y q, it1, [], 0⟩] scope pos) 1 (.ref I) (.ref D) env).onRaise _) _ _ _
    refine noRaise ?_
    rw [compTurn_2in]
    have e1 : items[i]? = some v := by
      have : items.toList[i]? = some v := by rw [← List.head?_drop, hw]; rfl
      simpa using this
    obtain ⟨oi, f1, f2, f3⟩ := id hi
    obtain ⟨ol, l1, l2⟩ := id hli
    refine wpAny_bind (wpAny_standAt (wpAny_bind (wpAny_pyNext_list_item (⟨oi, F.keep _ _ f1, f2, f3⟩) (⟨ol, F.keep _ _ l1, l2⟩) e1 fun h' hi' hs => ?_)))
    have nIC : I ≠ C := F.off_ne f1
    obtain ⟨B', F', kB, up⟩ := F.after (W := fun b => b = I) (fun b ob n e => (hs.2 b n).trans e) (fun q => nIC q.symm)
    refine wpAny_bind (wpAny_pure ?_)
    refine wpAny_bind (wpAny_assign_Name (kStore F' hC hk hl fun h₂ t₂ F₂ => ?_))
    refine wpAny_bind (wpAny_bind (eLocal F₂ (if_pos rfl) hC hk hl hd ?_))
    refine wpAny_bind (lAppend F₂ (lD.kp kB nDI) (by rw [sizeLine_eq]; simp only [List.length_append, List.length_cons] at hz; omega) fun h₃ B₃ F₃ K₃ l₃ => wpAny_pure ?_)
    refine wpAny_pure ⟨rfl, ?_⟩
    obtain ⟨oi', g1, g2, g3⟩ := hi'
    refine ih (acc ++ [v]) (i + 1) h₃ g d _ o B₃ _ F₃ l₃ ⟨oi', K₃ _ _ (Ne.symm nDI) (up _ _ nIC g1), g2, g3⟩ ⟨ol, K₃ _ _ nlD (kB _ _ nlI l1), l2⟩ (by rw [← List.tail_drop, hw]; rfl) (by simpa [List.append_assoc] using hz) fun h' t' B' m' F' K' l' => ?_
    refine H h' t' B' m' F' (fun b ob n e => K' b ob n (K₃ b ob (fun q => n (.inl q)) (kB b ob (fun q => n (.inr q)) e))) (by simpa [List.append_assoc] using l')
end

local macro_rules | `(tactic| ktr_rel) => `(tactic| (refine IsCell.kp2 (by assumption) (by ktr_rel) (by ktr_room)))
local macro_rules | `(tactic| ktr_rel) => `(tactic| (refine Nd.kp2 (by assumption) (by ktr_rel) (by ktr_room) (by ktr_room)))
local macro_rules | `(tactic| ktr_rel) => `(tactic| (refine One.kp2 (by assumption) (by ktr_rel)))
local macro_rules | `(tactic| ktr_rel) => `(tactic| (refine TupAt.kp2 (by assumption) (by ktr_rel) (by ktr_room)))
local macro_rules | `(tactic| ktr_rel) => `(tactic| (refine ListAt.kp2 (by assumption) (by ktr_rel) (by ktr_room)))
local macro_rules | `(tactic| ktr_rel) => `(tactic| (refine Grd.kp2 (by assumption) (by ktr_rel) (by intro b9 e9; first | exact e9.elim | (subst e9; assumption) | omega)))
local macro_rules | `(tactic| ktr_rel) => `(tactic| assumption)
local macro_rules | `(tactic| walk_at "subscriptTail") => `(tactic| ((with_reducible show wpAny _ _ (subscriptTail _ _ (Value.ref _) (Value.int _ _)) _ _ _); refine eItem (by assumption) (by ktr_rel) (by first | decide | omega) (by first | decide | omega) (by first | assumption | rfl) (by with_unfolding_all rfl) ?_))
local macro_rules | `(tactic| walk_at "eval Name") => `(tactic| (refine eGlob3 (by with_unfolding_all rfl) (by with_unfolding_all rfl) (by assumption) (by ktr_rel) (by with_unfolding_all rfl) (by with_unfolding_all rfl) (by with_unfolding_all decide) ?_; (try dsimp only)))
local macro_rules | `(tactic| walk_at "eval Name") => `(tactic| (refine eFree3 (by with_unfolding_all rfl) (by with_unfolding_all rfl) (by with_unfolding_all rfl) (by with_unfolding_all decide) (by with_unfolding_all decide) (by assumption) (by ktr_rel) ?_))
local macro_rules | `(tactic| walk_at "eval Name") => `(tactic| (refine eCell3 (by with_unfolding_all rfl) (by with_unfolding_all rfl) (by with_unfolding_all rfl) (by with_unfolding_all decide) (by assumption) (by ktr_rel) ?_))
local macro_rules | `(tactic| walk_at "eval Name") => `(tactic| (refine eLocal3 (by with_unfolding_all rfl) (by assumption) (by with_unfolding_all rfl) (by with_unfolding_all rfl) (by first | assumption | (rw [if_pos rfl]) | (rw [if_neg (by decide)]; assumption) | with_unfolding_all rfl) (by with_unfolding_all decide) ?_))
local macro_rules | `(tactic| walk_at "pyIter ref") => `(tactic| (refine kIterL (by assumption) (by ktr_rel) ?_; intro it' h' B' F' K' k' n' e' I'; (have K' := Le.kp K' none1)))

noncomputable def lvr (k : Nat) (f : Fo) : List Value := (lv k f 0).map fun y => .ref y.1.r
theorem lv_pc : ∀ (k : Nat) (f : Fo) (a b : Addr), (lv k f a).map (·.1) = (lv k f b).map (·.1)
  | _, .nil, _, _ => by simp [lv]
  | 0, .cons x ks r, a, b => by simp [lv, lv_pc 0 r a b]
  | k + 1, .cons x ks r, a, b => by simp [lv, lv_pc (k + 1) r a b]
theorem lvr_zero : ∀ f : Fo, lvr 0 f = f.rrefs
  | .nil => rfl
  | .cons x ks r => by have := lvr_zero r; unfold lvr at this ⊢; simp [lv, Fo.rrefs, this]
theorem lvr_succ (k : Nat) (x : NLab) (ks r : Fo) : lvr (k + 1) (.cons x ks r) = lvr k ks ++ lvr (k + 1) r := by
  have := lv_pc k ks x.c 0
  unfold lvr
  simp only [lv, List.map_append]
  congr 1
  have e : ∀ l : List (NLab × Addr), l.map (fun y => Value.ref y.1.r) = (l.map (·.1)).map (fun y => Value.ref y.r) := fun l => by simp [List.map_map, Function.comp_def]
  rw [e, e, this]
theorem lvr_len : ∀ (k : Nat) (f : Fo), (lvr k f).length ≤ f.size
  | k, .nil => by simp [lvr, lv]
  | 0, .cons x ks r => by rw [lvr_zero]; have := lvr_len 0 r; rw [lvr_zero] at this; simp only [Fo.rrefs, List.length_cons, Fo.size]; omega
  | k + 1, .cons x ks r => by rw [lvr_succ, List.length_append]; have := lvr_len k ks; have := lvr_len (k + 1) r; simp only [Fo.size]; omega
section
variable {w : World} {z : Nat}
inductive LvR (C D it : Addr) (h₂ : Heap) (g₀ : Array GenState) (o : OsState) (l : List Value) (r : Result) (s' : Shared) : Prop
  | mk (fl : Flow) (h' : Heap) (g' : Array GenState) (d' : Drawn) (t' : Nat) (B' : Heap) (m' : Str → Option Value) (e1 : r = .ok fl) (e2 : s' = ⟨h', g', d', t', o⟩) (F : Fm B' C h' m') (k : Kp (fun b => b = it) h₂ B') (kg : KpG noneG g₀ g') (l' : ListAt B' D l) : LvR C D it h₂ g₀ o l r s'
def LevelSpec (w : World) (z : Nat) (k : Nat) : Prop := ∀ (f : Fo) (p r rc : Addr) (tk : Tok) (A : Around) (E : Value → Shared → Prop) (h : Heap) (g : Array GenState) (d : Drawn) (t : Nat) (o : OsState) (Q : Value → Shared → Prop),
    Grd w z h → Rm A (2 * k + 4) → RowAt h r rc → ListAt h rc f.rrefs → Tw h f → f.size ≤ 800 →
    (∀ D h' g' d' t', Le h h' → KpG noneG g g' → ListAt h' D (lvr k f) → h.get? D = none → Q (.ref D) ⟨h', g', d', t', o⟩) →
    wpAny (model pr w) A (call (.ref 106) [.ref r, .int k tk]) Q E ⟨h, g, d, t, o⟩
theorem level_zero : LevelSpec w z 0 := by
    intro f p r rc tk A E h g d t o Q G rm ra lrc T hs H
    obtain ⟨ra1, ra2, ra3, lr⟩ := ra
    refine callFC (binds := [(Str.ofString "node", .ref r), (Str.ofString "depth", .int ((0 : Nat) : Int) tk)]) G rfl rfl rfl rfl (by have := rm.dp; omega) rfl rfl rfl rfl rfl rfl ?_
    intro h₁ B₁ t₁ F₁ K₁ cf env A'
    have cd : B₁.IsCell (h.objs.size + 1) (some (.int ((0 : Nat) : Int) tk)) := (cf (Str.ofString "depth") _ rfl).1
    have rA : Rm A' 3 := rm.deeper
    have G₁ := G.le K₁
    have lr₁ := lr.le K₁
    have lrc₁ := lrc.le K₁
    have hlen : f.rrefs.length ≤ 900 := by have := lvr_len 0 f; rw [lvr_zero] at this; omega
    repeat' walk1
    rename_i t₃ D h₂ B₂ F₂ K₂ l₂ n₂ nh₂ K₂'
    exact H D h₂ g d _ (fun b ob e => F₂.keep _ _ (K₂ _ _ (K₁ _ _ e))) (.refl _ _) (by rw [lvr_zero]; exact l₂.le F₂.keep) (none_of K₁ n₂)
theorem level_succ {k : Nat} (ih : LevelSpec w z k) : LevelSpec w z (k + 1) := by
    intro f p r rc tk A E h g d t o Q G rm ra lrc T hs H
    obtain ⟨ra1, ra2, ra3, lr⟩ := ra
    have hnz : (((k + 1 : Nat) : Int) == 0) = false := by rw [beq_eq_false_iff_ne]; omega
    have hk1 : ((k + 1 : Nat) : Int) - 1 = (k : Int) := by omega
    generalize ((k + 1 : Nat) : Int) = K at hnz hk1 ⊢
    refine callFC (binds := [(Str.ofString "node", .ref r), (Str.ofString "depth", .int K tk)]) G rfl rfl rfl rfl (by have := rm.dp; omega) rfl rfl rfl rfl rfl rfl ?_
    intro h₁ B₁ t₁ F₁ K₁ cf env A'
    have cd : B₁.IsCell (h.objs.size + 1) (some (.int K tk)) := (cf (Str.ofString "depth") _ rfl).1
    have rA : Rm A' (2 * k + 5) := rm.deeper
    have G₁ := G.le K₁
    have lr₁ := lr.le K₁
    have lrc₁ := lrc.le K₁
    repeat' walk1
    · exfalso; omega
    refine lcCore rfl rfl rfl rfl (fun _ => rfl) ?_
    repeat' walk1
    · rename_i t₂ it h₂ B₂ F₂ K₂ k₂ n₂ e₂ I₂ K₂' hx dx tx Qx kx qx
      exact (itr_list (w := w) rA.hh e₂).self _ _ _ _ _ _ _ ((itr_list (w := w) rA.hh e₂).frame _ _ _ _ _ _ _ _ I₂ (fun b o _ e => kx b o e) (fun _ _ _ e => e)) qx
    rename_i t₂ it h₂ B₂ F₂ K₂ k₂ n₂ e₂ I₂ K₂' C D h₄ t₄ nsC k₄ lD nC nD nDC zD zC
    dsimp only at nsC k₄ lD nC nD nDC
    obtain ⟨oL, esL, epL, eL, rL⟩ := id F₂.ns
    have nitL : it ≠ h.objs.size := fun q => by obtain ⟨ob, e⟩ := F₁.there; rw [← q, n₂] at e; cases e
    have nit1 : B₁.get? it = none := none_of F₁.keep n₂
    have leh2 : ∀ b ob, B₁.get? b = some ob → h₂.get? b = some ob := fun b ob e => F₂.keep _ _ (K₂ _ _ e)
    have K24 : Kp (fun b => b = it) h₂ (h₄.hide C) := fun b ob _ e => (Heap.hide_ne _ (ne_of e nC)).trans (k₄ b ob e)
    have cd₂ : h₂.IsCell (h.objs.size + 1) (some (.int K tk)) := let ⟨oc, e, r⟩ := cd; ⟨oc, leh2 _ _ e, r⟩
    have T₂ : Tw h₂ f := T.mv fun b ob _ e => leh2 _ _ (K₁ _ _ e)
    have G₂ : Grd w z h₂ := (G₁.le K₂).le F₂.keep
    obtain ⟨-, -, -, i₀, items, ⟨oi, i1, i2⟩, ⟨ol, l1, l2⟩, hdr⟩ := I₂
    have nDit : D ≠ it := fun q => by rw [q, i1] at nD; cases nD
    have nCit : it ≠ C := ne_of i1 nC
    have nrcC : rc ≠ C := ne_of l1 nC
    have i4 : (h₄.hide C).IsListIter it rc i₀ := ⟨oi, (Heap.hide_ne _ nCit).trans (k₄ _ _ i1), i2⟩
    have lD₄ : ListAt (h₄.hide C) D [] := let ⟨q, e⟩ := lD; ⟨q, (Heap.hide_ne _ nDC).trans e⟩
    have lit : h₂.IsList rc items := ⟨ol, l1, l2⟩
    obtain ⟨g₀, hg₀⟩ : ∃ g₀, g₀ = g := ⟨g, rfl⟩
    refine codeAny_mono (R := LvR C D it h₂ g₀ o ([] ++ lvr (k + 1) f)) ?loop ?post
    case post =>
      rintro r s' ⟨fl, h', g', d', t', B', m', rfl, rfl, F', K', kg', l'⟩
      subst hg₀
      refine ⟨fl, m', rfl, F'.ns, fun h₅ hs₅ => ?_⟩
      obtain ⟨q, e⟩ := l'
      have e5 : ∀ b ob, b ≠ C → B'.get? b = some ob → h₅.get? b = some ob := fun b ob n e => (hs₅.2 b n).trans (F'.keep _ _ e)
      have nDh : h.get? D = none := none_of (fun b ob e => leh2 b ob (K₁ b ob e)) nD
      refine H D h₅ g' d' t' (fun b ob e => ?_) kg' ⟨q, by rw [List.nil_append] at e; exact e5 D _ nDC e⟩ nDh
      have e2 := leh2 b ob (K₁ b ob e)
      exact e5 b ob (ne_of e2 nC) (K' b ob (fun q => by rw [q] at e; rw [K₁ _ _ e] at nit1; cases nit1) e2)
    case loop =>
      have F₄ := Fm.hide nsC
      have hKG : KpG noneG g₀ g := hg₀ ▸ .refl _ _
      have hlen : ([] : List Value).length + f.size ≤ 800 := by simpa using hs
      dsimp only
      have nrci : rc ≠ it := e₂
      have nLC : h.objs.size ≠ C := ne_of eL nC
      have leh : Le h h₂ := fun b ob e => leh2 b ob (K₁ b ob e)
      have nith : h.get? it = none := none_of K₁ nit1
      have ncit : h.objs.size + 1 ≠ it := let ⟨oc, e, _⟩ := cd; ne_of e nit1
      clear lrc₁ lr₁ F₁ K₁ cf lrc H hs lr rL eL cd G₁ rm hg₀ F₂ K₂ K₂' k₂ n₂ e₂ nit1 leh2 nsC k₄ lD i1 i2 l1 l2 zC zD T₂ G₂
      generalize h₄.hide C = B₄ at F₄ K24 i4 lD₄
      generalize (fun _ : Str => (none : Option Value)) = m₄ at F₄
      generalize ([] : List Value) = acc at lD₄ hlen ⊢
      induction f generalizing acc B₄ h₄ g d t₄ m₄ i₀ with
      | nil =>
        refine codeAny_of_tree ?_
        rw [Around.under_of_weight (by rfl) (by rfl)]
        show wpAny _ A' (Sem.onRaise (compTurn _ 0 (.ref it) (.ref D) _) _) _ _ _
        refine noRaise ?_
        rw [compTurn_2out]
        have e1 : items[i₀]? = none := by
          have : items.toList[i₀]? = none := by rw [← List.head?_drop, hdr]; rfl
          simpa using this
        have lit4 : B₄.IsList rc items := let ⟨ol, a, b⟩ := lit; ⟨ol, K24 _ _ nrci a, b⟩
        refine wpAny_bind (wpAny_standAt (wpAny_bind (wpAny_pyNext_list_end rA.hh (let ⟨oi, f1, f2⟩ := i4; ⟨oi, F₄.keep _ _ f1, f2⟩) (let ⟨ol, l1, l2⟩ := lit4; ⟨ol, F₄.keep _ _ l1, l2⟩) e1 fun h' hs => ?_)))
        refine wpAny_pure ?_
        obtain ⟨B', F', kB, up⟩ := F₄.after (W := fun b => b = it) (fun b ob n e => hs b ob n e) (fun q => nCit q.symm)
        refine ⟨_, h', g, d, _, B', _, rfl, rfl, F', K24.step kB fun _ q => q, hKG, ?_⟩
        have : lvr (k + 1) .nil = [] := by simp [lvr, lv]
        rw [this, List.append_nil]
        exact lD₄.kp kB nDit
      | cons x ks r ihk ihr =>
        clear ihk
        obtain ⟨q1, q3, q4, q5⟩ := T
        simp only [Fo.size] at hlen
        simp only [lvr_succ, ← List.append_assoc]
        refine codeAny_of_tree ?_
        rw [Around.under_of_weight (by rfl) (by rfl)]
        show wpAny _ A' (Sem.onRaise (compTurn _ 0 (.ref it) (.ref D) _) _) _ _ _
        refine noRaise ?_
        rw [compTurn_2out]
        have e1 : items[i₀]? = some (.ref x.r) := by
          have : items.toList[i₀]? = some (.ref x.r) := by rw [← List.head?_drop, hdr]; rfl
          simpa using this
        have lit4 : B₄.IsList rc items := let ⟨ol, a, b⟩ := lit; ⟨ol, K24 _ _ nrci a, b⟩
        refine wpAny_bind (wpAny_standAt (wpAny_bind (wpAny_pyNext_list_item (let ⟨oi, f1, f2⟩ := i4; ⟨oi, F₄.keep _ _ f1, f2⟩) (let ⟨ol, l1, l2⟩ := lit4; ⟨ol, F₄.keep _ _ l1, l2⟩) e1 fun h' hi' hs => ?_)))
        obtain ⟨B₅, F₅, K₅, up₅⟩ := F₄.after (W := fun b => b = it) (fun b ob n e => (hs.2 b n).trans e) (fun q => nCit q.symm)
        refine wpAny_bind (wpAny_pure ?_)
        refine wpAny_bind (wpAny_assign_Name (kStore F₅ rfl rfl rfl fun h₆ t₆ F₆ => ?_))
        have K25 : Kp (fun b => b = it) h₂ B₅ := K24.step K₅ fun _ q => q
        have le5 : Le h B₅ := fun b ob e => K25 b ob (ne_of e nith) (leh b ob e)
        have G₅ := G.le le5
        have cd₅ : B₅.IsCell (h.objs.size + 1) (some (.int K tk)) := let ⟨oc, e, r⟩ := cd₂; ⟨oc, K25 _ _ ncit e, r⟩
        have i5 : B₅.IsListIter it rc (i₀ + 1) := let ⟨oi, f1, f2⟩ := hi'; ⟨oi, up₅ _ _ nCit f1, f2⟩
        refine wpAny_bind ?_
        repeat' walk1
        rw [hk1]
        rename_i uu tt
        have le6 : Le h h₆ := fun b ob e => F₆.keep _ _ (le5 _ _ e)
        refine ih ks x.a x.r x.rc _ A' _ h₆ g d _ o _ (G₅.le F₆.keep) (rA.le (by omega)) (q1.le le6) (q3.le le6) (q4.mv fun b ob _ e => le6 b ob e) (by omega) fun D₂ h₇ g₇ d₇ t₇ le7 kg7 l7 n7 => ?_
        obtain ⟨B₇, F₇, K₇, up₇⟩ := F₆.after (Le.kp le7 none1) id
        obtain ⟨oC, eC⟩ := F₆.there
        have l7' : ListAt B₇ D₂ (lvr k ks) := let ⟨q, e⟩ := l7; ⟨q, up₇ _ _ (fun q => by rw [q, eC] at n7; cases n7) e⟩
        refine wpAny_bind (wpAny_standAt ?_)
        refine wpAny_bind (wpAny_pure ?_)
        refine wpAny_bind (wpAny_holding (kIterL F₇ l7' fun it2 h₈ B₈ F₈ K₈ k₈ n₈ e₈ I₈ => ?_))
        obtain ⟨-, -, -, j₀, items2, hit2, hl2, hd2⟩ := I₈
        have nC7 : ∀ b ob, B₇.get? b = some ob → b ≠ C := fun b ob e => F₇.off_ne e
        obtain ⟨oC7, eC7⟩ := F₇.there
        have up8 : ∀ b ob, B₇.get? b = some ob → (h₈.hide C).get? b = some ob := fun b ob e => (Heap.hide_ne _ (nC7 b ob e)).trans (k₈ b ob (F₇.keep _ _ e))
        have F₈' := Fm.hide F₈.ns
        obtain ⟨oi8, f1, f2⟩ := id hit2
        obtain ⟨ol8, g1, g2⟩ := id hl2
        have n2C : it2 ≠ C := fun q => by rw [q, eC7] at n₈; cases n₈
        have nD2C : D₂ ≠ C := let ⟨q, e⟩ := l7'; F₇.off_ne e
        have k57 : ∀ b ob, B₅.get? b = some ob → B₇.get? b = some ob := fun b ob e => K₇ b ob id e
        have lD5 : ListAt B₅ D acc := lD₄.kp K₅ nDit
        have lD7 : ListAt B₇ D acc := let ⟨q, e⟩ := lD5; ⟨q, k57 _ _ e⟩
        have nD2 : D ≠ it2 := fun q => by obtain ⟨n, e⟩ := lD7; rw [q] at e; rw [F₇.keep _ _ e] at n₈; cases n₈
        have nD2D : D₂ ≠ D := fun q => by obtain ⟨n, e⟩ := lD5; rw [← q] at e; rw [F₆.keep _ _ e] at n7; cases n7
        have vlen := lvr_len k ks
        refine wpAny_bind (wpAny_runOwn (compStart_go1 (fun Q' q => wpAny_pyIter_listiter hit2 q) (inner2 rA.hh rfl rfl rfl (by decide) nD2 e₈ nD2D (lvr k ks) acc j₀ h₈ g₇ d₇ _ o (h₈.hide C) _ F₈' (lD7.mv fun o e => up8 _ _ e) ⟨oi8, (Heap.hide_ne _ n2C).trans f1, f2⟩ ⟨ol8, (Heap.hide_ne _ nD2C).trans g1, g2⟩ hd2 (by rw [List.length_append]; omega) fun h₉ t₉ B₉ m₉ F₉ K₉ l₉ => ?_)))
        refine wpAny_pure ⟨rfl, ?_⟩
        have n2h : ∀ b ob, B₅.get? b = some ob → b ≠ it2 := fun b ob e q => by rw [q] at e; rw [F₇.keep _ _ (k57 _ _ e)] at n₈; cases n₈
        have k59 : ∀ b ob, b ≠ D → B₅.get? b = some ob → B₉.get? b = some ob := fun b ob n e => K₉ b ob (fun q => q.elim n (n2h b ob e)) (up8 b ob (k57 b ob e))
        refine ihr g₇ d₇ q5 h₉ t₉ (i₀ + 1) ?_ (hKG.step kg7 fun _ q => q.elim) B₉ (fun b ob n e => k59 b ob (ne_of e nD) (K25 b ob n e)) ?_ m₉ F₉ (acc ++ lvr k ks) l₉ (by rw [List.length_append]; omega)
        · rw [← List.tail_drop, hdr]; rfl
        · obtain ⟨oi, a, b⟩ := i5
          exact ⟨oi, k59 _ _ (Ne.symm nDit) a, b⟩
theorem level_spec : ∀ k, LevelSpec w z k
  | 0 => level_zero
  | k + 1 => level_succ (level_spec k)
end

theorem rows_ge : ∀ (j : Int) (f : Fo), ∀ y ∈ rows j f, j ≤ y.1
  | _, .nil, y, hy => by simp [rows] at hy
  | j, .cons x ks r, y, hy => by
    simp only [rows, List.mem_append, List.mem_cons] at hy
    rcases hy with hy | rfl | hy
    · have := rows_ge (j + 1) ks y hy; omega
    · exact Int.le_refl _
    · exact rows_ge j r y hy
theorem filt_none {α : Type} {p : α → Bool} : ∀ {l : List α}, (∀ y ∈ l, p y = false) → l.filter p = []
  | [], _ => rfl
  | a :: l, h => by rw [List.filter_cons, h a (.head _), if_neg (by decide)]; exact filt_none fun y hy => h y (.tail _ hy)
theorem rows_lv : ∀ (d : Nat) (f : Fo) (j : Int) (pc : Addr), ((rows j f).filter fun y => y.1 == j + d).map (·.2) = (lv d f pc).map (·.1)
  | d, .nil, j, pc => by cases d <;> simp [rows, lv]
  | 0, .cons x ks r, j, pc => by
    simp only [rows, lv, List.filter_append, List.filter_cons, List.map_append, List.map_cons]
    rw [filt_none (l := rows (j + 1) ks) fun y hy => by have := rows_ge _ _ y hy; rw [beq_eq_false_iff_ne]; omega]
    rw [if_pos (by rw [beq_iff_eq]; omega)]
    simp only [List.map_nil, List.nil_append, List.map_cons]
    rw [rows_lv 0 r j pc]
  | d + 1, .cons x ks r, j, pc => by
    simp only [rows, lv, List.filter_append, List.filter_cons, List.map_append, List.map_cons]
    rw [if_neg (by rw [beq_iff_eq]; omega)]
    have e : j + ((d + 1 : Nat) : Int) = (j + 1) + (d : Int) := by omega
    rw [rows_lv (d + 1) r j pc, e, rows_lv d ks (j + 1) x.c]
theorem rows_wk : ∀ (d : Nat) (f : Fo) (j : Int) (pc : Addr), ((rows j f).filter fun y => decide (y.1 ≤ j + d)).map (·.2) = (wk d f pc).map (·.1)
  | d, .nil, j, pc => by cases d <;> simp [rows, wk]
  | 0, .cons x ks r, j, pc => by
    simp only [rows, wk, List.filter_append, List.filter_cons, List.map_append, List.map_cons]
    rw [filt_none (l := rows (j + 1) ks) fun y hy => by have := rows_ge _ _ y hy; rw [decide_eq_false_iff_not]; omega]
    rw [if_pos (by rw [decide_eq_true_eq]; omega)]
    simp only [List.map_nil, List.nil_append, List.map_cons]
    rw [rows_wk 0 r j pc]
  | d + 1, .cons x ks r, j, pc => by
    simp only [rows, wk, List.filter_append, List.filter_cons, List.map_append, List.map_cons]
    rw [if_pos (by rw [decide_eq_true_eq]; omega)]
    have e : j + ((d + 1 : Nat) : Int) = (j + 1) + (d : Int) := by omega
    rw [List.map_cons, rows_wk (d + 1) r j pc, e, rows_wk d ks (j + 1) x.c]

section
variable {w : World} {A : Around} {E : Value → Shared → Prop} {h : Heap} {g : Array GenState} {d : Drawn} {t : Nat} {o : OsState}
theorem eqNone {x y dx dy : Addr} {ex ey : List DictEntry} {nx ny : Nat} {Q : Option Value → Shared → Prop} (X : (KK w).In h) (I : Inst h x 80 dx ex nx) (J : Inst h y 80 dy ey ny) (hxy : x ≠ y) (H : Q none ⟨h, g, d, t, o⟩) :
    wpAny (model pr w) A (tryCompare (.ref x) "__eq__" (.ref y)) Q E ⟨h, g, d, t, o⟩ := by
  have fi : findIn (KK w) (.ref 80) "__eq__" = some (some (.builtin "object.__eq__")) := rfl
  have sp : Looks (model pr w) h (specialOf (.ref x) "__eq__") (some (.builtin "object.__eq__")) := I.at.type.andThen (looks_findIn X fi)
  have ins : Looks (model pr w) h (isInstance (.ref x) (.type "object")) true := I.at.type.andThen (looks_subIn X rfl)
  unfold tryCompare
  refine wpAny_bind ?_
  unfold callSpecialIfBound? bindSpecialIfBound?
  refine wpAny_holding (wpAny_bind (wpAny_bind (sp.here ?_)))
  simp only [F.cmp_object.eq.bind]
  have fin : wpAny (model pr w) A (call (.builtin "object.__eq__") [.ref x, .ref y] >>= fun v => pure (some v)) (fun a s' => wpAny (model pr w) A (match a with | some .notImplemented | none => pure none | some v => pure (some v)) Q E s') E ⟨h, g, d, t, o⟩ := by
    refine wpAny_bind (wpAny_call (codeAny_call_builtin F.cmp_object.eq.plain F.cmpEntry_eq (check_slot F.cmpKind_eq F.cmpSplit_eq ins (F.cmpArgs_eq _ _) ?_)))
    exact objEq_entry_other hxy I.ob J.ob (fun e => nomatch e) (wpAny_pure (wpAny_pure H))
  refine wpAny_bind (wpAny_askSetting ?_)
  split
  · exact wpAny_bind (wpAny_pure (wpAny_pure fin))
  · exact wpAny_tryCatch (wpAny_bind (wpAny_pure (wpAny_pure fin)))
theorem eqOther {x y dx dy : Addr} {ex ey : List DictEntry} {nx ny : Nat} {Q : Bool → Shared → Prop} (hu : A.units < cLine) (X : (KK w).In h) (I : Inst h x 80 dx ex nx) (J : Inst h y 80 dy ey ny) (hxy : x ≠ y) (H : Q false ⟨h, g, d, t, o⟩) :
    wpAny (model pr w) A (eqBool (.ref x) (.ref y)) Q E ⟨h, g, d, t, o⟩ := by
  unfold eqBool
  try with_reducible refine wpAny_holding ?_
  show wpAny _ _ (if (Value.ref x == Value.ref y) = true then _ else _) Q E _
  rw [if_neg (by rw [beq_iff_eq]; intro e; cases e; exact hxy rfl)]
  refine wpAny_bind ?_
  unfold richCompare
  simp only [oneThing_ref, cmpInfo_Eq]
  refine wpAny_holding (wpAny_bind (wpAny_cRoomFor hu ?_))
  refine wpAny_bind (I.at.type.here (wpAny_bind (J.at.type.here ?_)))
  simp only [bne_self_eq_false, Bool.false_eq_true, if_false, pure_bind]
  refine wpAny_bind (eqNone X I J hxy ?_)
  simp only [Bool.not_false, if_true]
  refine wpAny_bind (eqNone X J I (Ne.symm hxy) ?_)
  refine wpAny_bind (wpAny_rule ?_)
  refine wpAny_bind (wpAny_isSame_ref_other hxy I.ob J.ob (fun e => nomatch e) ?_)
  exact wpAny_pure (wpAny_truthy_bool H)
theorem eqSame {x : Addr} {Q : Bool → Shared → Prop} {s : Shared} (H : Q true s) : wpAny (model pr w) A (eqBool (.ref x) (.ref x)) Q E s := by
  unfold eqBool
  try with_reducible refine wpAny_holding ?_
  show wpAny _ _ (if (Value.ref x == Value.ref x) = true then _ else _) Q E _
  rw [if_pos (by simp)]
  exact wpAny_bind (wpAny_rule (wpAny_pure H))
set_option maxHeartbeats 1000000 in
theorem removeLoop {l x : Addr} {xs : List Value} {n : Nat} {j : Nat} (hx : xs[j]? = some (.ref x)) (hs1 : xs.toArray.size ≤ sizeLine) (k : Nat) : ∀ i : Nat, j - i = k → i ≤ j → MeetsIn pr w (Builtin.«list.remove.loop» ⟨[.ref l, .ref x, rawInt i], []⟩)
    (fun A R s => A.units + 1 < cLine ∧ s.heap.get? l = some { cls := .type "list", data := .seq xs.toArray n } ∧ (KK w).In s.heap ∧ (∃ d es n, Inst s.heap x 80 d es n) ∧ (∀ m (hm : m < j), ∃ y d es n, xs[m]? = some (.ref y) ∧ y ≠ x ∧ Inst s.heap y 80 d es n) ∧ R (.ok (.ret .none)) { s with heap := s.heap.update l (Obj.mapSeq fun a => a.eraseIdxIfInBounds j) }) := by
  induction k with
  | zero =>
    intro i hk hi A R s h
    obtain ⟨hp, g, d, tk, os⟩ := s; obtain ⟨hu, hl, X, ⟨dx, ex, nx, I⟩, ho, h⟩ := h
    have hij : i = j := by omega
    subst hij
    wp_walk using AutoSeq1.wpAny_loadPart' hl
    have hi1 : xs.toArray[((i : Nat) : Int).toNat]? = some (.ref x) := by simpa using hx
    rw [hi1]
    refine wpAny_bind (eqSame ?_)
    have hz' : (xs.toArray.eraseIdxIfInBounds i).size ≤ sizeLine + 1 := Nat.le_trans (MeetsSeq.size_erased xs.toArray _) (Nat.le_succ_of_le hs1)
    wp_walk using (wpAny_updateSeq hl rfl (hz := hs1) (_hz' := hz')), AutoSeq1.wpAny_loadPart' hl
    simpa using h
  | succ k ih =>
    intro i hk hi A R s h
    obtain ⟨hp, g, d, tk, os⟩ := s; obtain ⟨hu, hl, X, ⟨dx, ex, nx, I⟩, ho, h⟩ := h
    obtain ⟨y, dy, ey, ny, hy, hyx, J⟩ := ho i (by omega)
    wp_walk using AutoSeq1.wpAny_loadPart' hl
    have hi1 : xs.toArray[((i : Nat) : Int).toNat]? = some (.ref y) := by simpa using hy
    have hc : ((i : Int) + 1) = ((i + 1 : Nat) : Int) := by push_cast; rfl
    rw [hi1]
    refine wpAny_bind (eqOther (A := A.in1) hu X J I hyx ?_)
    wp_walk
    rw [hc]
    exact ⟨plainId_quiet MeetsSeq.plain_remove_loop _, codeAny_builtin MeetsSeq.entry_remove_loop (by
      rw [Around.under_plainId MeetsSeq.plain_remove_loop _]
      exact ih (i + 1) (by omega) (by omega) A R _ ⟨hu, hl, X, ⟨dx, ex, nx, I⟩, ho, h⟩)⟩
theorem lRemove {B : Heap} {L l x : Addr} {m : Str → Option Value} {xs : List Value} {j : Nat} {Q : Value → Shared → Prop} {z : Nat} (hu : A.units + 1 < cLine) (G : Grd w z B) (F : Fm B L h m) (hl : ListAt B l xs) (hx : xs[j]? = some (.ref x)) (hz : xs.length ≤ sizeLine) (I : ∃ d es n, Inst B x 80 d es n)
    (ho : ∀ m (hm : m < j), ∃ y d es n, xs[m]? = some (.ref y) ∧ y ≠ x ∧ Inst B y 80 d es n)
    (H : ∀ h' B', Fm B' L h' m → Kp (fun b => b = l) B B' → ListAt B' l (xs.eraseIdx j) → Q .none ⟨h', g, d, t, o⟩) :
    wpAny (model pr w) A (call (.builtin "list.remove") [.ref l, .ref x]) Q E ⟨h, g, d, t, o⟩ := by
  obtain ⟨n, e⟩ := hl
  have e' := F.keep _ _ e
  have hj : j < xs.length := (List.getElem?_eq_some_iff.mp hx).1
  have hg : ∃ n', (h.update l (Obj.mapSeq fun a => a.eraseIdxIfInBounds j)).get? l = some { cls := .type "list", data := .seq (xs.eraseIdx j).toArray n' } := by
    refine ⟨if (xs.toArray.eraseIdxIfInBounds j).size == xs.toArray.size then n else n + 1, ?_⟩
    rw [Heap.get?_update_self _ e' (by simp only [Obj.mapSeq]; rfl)]
    have : xs.toArray.eraseIdxIfInBounds j = (xs.eraseIdx j).toArray := by simp [Array.eraseIdxIfInBounds, hj]
    simp only [Obj.mapSeq, this]
  obtain ⟨n', hg⟩ := hg
  obtain ⟨B', F', hs', hg'⟩ := F.mut e (Heap.SameBut.update ..) hg
  have fin := H _ B' F' (.of_same hs') ⟨n', hg'⟩
  obtain ⟨dx, ex, nx, I⟩ := I
  refine call_meetsIn (S := fun A R s => A.units + 1 < cLine ∧ s.heap.get? l = some { cls := .type "list", data := .seq xs.toArray n } ∧ (KK w).In s.heap ∧ (∃ d es n, Inst s.heap x 80 d es n) ∧ (∀ m (hm : m < j), ∃ y d es n, xs[m]? = some (.ref y) ∧ y ≠ x ∧ Inst s.heap y 80 d es n) ∧ R (.ok (.ret .none)) { s with heap := s.heap.update l (Obj.mapSeq fun a => a.eraseIdxIfInBounds j) })
    PySem.F.slot_list_remove ⟨_, e', rfl⟩ PySem.F.entry_list_remove (PySem.F.args_list_remove_2 _ _) ?_ ⟨hu, e', (G.le F.keep).k, ⟨dx, ex, nx, I.le F.keep⟩, fun m hm => ?_, fin⟩
  · intro A R s h
    obtain ⟨hp, g, d, tk, os⟩ := s; obtain ⟨hu, hl, r⟩ := h
    wp_walk using AutoSeq1.wpAny_loadPart' hl
    exact ⟨plainId_quiet MeetsSeq.plain_remove_loop _, codeAny_builtin MeetsSeq.entry_remove_loop (by
      rw [Around.under_plainId MeetsSeq.plain_remove_loop _]
      exact removeLoop hx (by simpa using hz) _ 0 rfl (Nat.zero_le _) A R _ ⟨hu, hl, r⟩)⟩
  · obtain ⟨y, d, es, n, a, b, c⟩ := ho m hm
    exact ⟨y, d, es, n, a, b, c.le F.keep⟩
end

section
variable {w : World} {z : Nat} {A : Around} {E : Value → Shared → Prop} {h : Heap} {g : Array GenState} {d : Drawn} {t : Nat} {o : OsState}
theorem removeChild {P C dd c x : Addr} {xs : List Value} {j : Nat} {Q : Value → Shared → Prop} (hC : Cls C) (G : Grd w z h) (r : Rm A 4) (nd : Nd h C P dd c) (hl : ListAt h c xs) (hz : xs.length ≤ 900) (hx : xs[j]? = some (.ref x)) (I : ∃ d es n, Inst h x 80 d es n)
    (ho : ∀ m (hm : m < j), ∃ y d es n, xs[m]? = some (.ref y) ∧ y ≠ x ∧ Inst h y 80 d es n)
    (H : ∀ h' t', Kp (fun b => b = c) h h' → ListAt h' c (xs.eraseIdx j) → Q .none ⟨h', g, d, t', o⟩) :
    wpAny (model pr w) A (call (.ref 42) [.ref P, .ref x]) Q E ⟨h, g, d, t, o⟩ := by
  refine callF (binds := [(Str.ofString "self", .ref P), (Str.ofString "child", .ref x)]) G rfl rfl rfl rfl (by have := r.dp; omega) rfl rfl rfl rfl rfl rfl ?_
  intro h₁ F env A'
  have rA : Rm A' 3 := r.deeper
  repeat' walk1
  refine lRemove (by have := rA.un; omega) G F hl hx (by rw [sizeLine_eq]; omega) I ho fun h' B' F' K' l' => ?_
  repeat' walk1
  exact H h' _ ((K'.trans F'.out).wide fun b q => q.elim id False.elim) (l'.le F'.keep)
end

def ValsAre {α : Type} (P : α → Value → Prop) : List α → List Value → Prop
  | [], [] => True
  | x :: xs, v :: vs => P x v ∧ ValsAre P xs vs
  | _, _ => False
theorem ValsAre.len {α : Type} {P : α → Value → Prop} : ∀ {xs : List α} {vs : List Value}, ValsAre P xs vs → vs.length = xs.length
  | [], [], _ => rfl
  | x :: xs, v :: vs, h => by simp [ValsAre.len h.2]
  | [], _ :: _, h => h.elim
  | _ :: _, [], h => h.elim
theorem ValsAre.at {α : Type} {P : α → Value → Prop} : ∀ {xs : List α} {vs : List Value}, ValsAre P xs vs → ∀ (i : Nat) (x : α), xs[i]? = some x → ∃ v, vs[i]? = some v ∧ P x v
  | x :: xs, v :: vs, h, 0, y, e => by simp at e; subst e; exact ⟨v, by simp, h.1⟩
  | x :: xs, v :: vs, h, i + 1, y, e => by simp at e; obtain ⟨u, a, b⟩ := ValsAre.at h.2 i y e; exact ⟨u, by simpa using a, b⟩
  | [], _, _, i, y, e => by simp at e
  | _ :: _, [], h, _, _, _ => h.elim
section
variable {w : World} {A : Around} {E : Value → Shared → Prop} {R₁ : Result → Shared → Prop}
theorem extLoop {α : Type} {I : Value} {val : α → Value → (Addr → Prop) → Prop} {St} (it : Itr w A.in1 I val St) {S : Addr} {res : Value} : ∀ (xs : List α) (R W : Addr → Prop) (GF : Nat → Prop) (h : Heap) (g : Array GenState) (d : Drawn) (t : Nat) (o : OsState) (acc : List Value),
    St xs R W GF h g → ListAt h S acc → ¬ W S → ¬ R S → acc.length + xs.length ≤ 900 →
    (∀ h' g' d' t' vs, Kp (fun b => b = S ∨ W b) h h' → KpG GF g g' → ListAt h' S (acc ++ vs) → ValsAre (fun x v => ∃ R', val x v R') xs vs → R₁ (.ok (.ret res)) ⟨h', g', d', t', o⟩) →
    codeAny (model pr w) A (.builtin "list.extend.loop" ⟨[.ref S, I, res], []⟩) R₁ ⟨h, g, d, t, o⟩ := by
  intro xs
  induction xs with
  | nil =>
    intro R W GF h g d t o acc st l nW nR hz H
    refine codeAny_builtin F.entry_extend_loop ?_
    rw [Around.under_plainId F.plain_extend_loop _]
    show wpAny _ A.in1 (pyNext I >>= _) _ _ _
    refine wpAny_bind (it.done R W GF h g d t o _ _ st fun h' g' d' t' k kg => ?_)
    exact wpAny_pure (H h' g' d' t' [] (k.wide fun b q => .inr q) kg (by rw [List.append_nil]; exact l.kp k nW) trivial)
  | cons x xs ih =>
    intro R W GF h g d t o acc st l nW nR hz H
    simp only [List.length_cons] at hz
    refine codeAny_builtin F.entry_extend_loop ?_
    rw [Around.under_plainId F.plain_extend_loop _]
    show wpAny _ A.in1 (pyNext I >>= _) _ _ _
    refine wpAny_bind (it.item x xs R W GF h g d t o _ _ st fun v R' W' GF' h₁ g₁ d₁ t₁ hv st₁ k kg gW gR gG => ?_)
    obtain ⟨n, e⟩ := l.kp k nW
    obtain ⟨n0, e0⟩ := l
    have nW' : ¬ W' S := fun q => (gW S q).elim nW fun z => by rw [e0] at z; cases z
    have nR' : ¬ R' S := fun q => (gR S q).elim nR fun q => q.elim nW fun z => by rw [e0] at z; cases z
    show wpAny _ A.in1 (updateSeq S (·.push v) >>= _) _ _ _
    refine wpAny_bind ?_
    refine wpAny_updateSeq e rfl (wpAny_pure ⟨plainId_quiet F.plain_extend_loop _, ?_⟩) (by rw [List.size_toArray, sizeLine_eq]; omega) (by rw [Array.size_push, List.size_toArray, sizeLine_eq]; omega)
    have hu := Heap.get?_update_self (Obj.mapSeq (·.push v)) e rfl
    have hs := Heap.SameBut.update h₁ S (Obj.mapSeq (·.push v))
    refine ih R' W' GF' _ g₁ d₁ t₁ o (acc ++ [v]) (it.frame _ _ _ _ _ _ _ _ st₁ (fun b ob q e => (hs.2 b fun q' => q.elim (fun q => nR' (q' ▸ q)) fun q => nW' (q' ▸ q)).trans e) fun _ _ _ e => e) ?_ nW' nR' (by rw [List.length_append, List.length_singleton]; omega) fun h' g' d' t' vs k' kg' l' va => ?_
    · refine ⟨if (acc.toArray.push v).size == acc.toArray.size then n else n + 1, ?_⟩
      rw [hu]; simp [Obj.mapSeq]
    · refine H h' g' d' t' (v :: vs) (fun b ob n e => ?_) (kg.step kg' gG) (by simpa [List.append_assoc] using l') ⟨⟨R', hv⟩, va⟩
      have e1 := k b ob (fun q => n (.inr q)) e
      refine k' b ob (fun q => q.elim (fun q => n (.inl q)) fun q => (gW b q).elim (fun q => n (.inr q)) fun z => by rw [e] at z; cases z) ((hs.2 b fun q => n (.inl q)).trans e1)
theorem listOfGen {α : Type} {ga : Addr} {gi : Nat} {val : α → Value → (Addr → Prop) → Prop} {St} (it : Itr w A.in1.in1 (.ref ga) val St) {xs : List α} {R W : Addr → Prop} {GF : Nat → Prop} {h : Heap} {g : Array GenState} {d : Drawn} {t : Nat} {o : OsState} {Q : Value → Shared → Prop}
    (hg : h.IsGen ga gi) (st : St xs R W GF h g) (hR : ∀ b, R b → ∃ o, h.get? b = some o) (hW : ∀ b, W b → ∃ o, h.get? b = some o) (hz : xs.length ≤ 900)
    (H : ∀ D h' g' d' t' vs, Kp W h h' → KpG GF g g' → ListAt h' D vs → ValsAre (fun x v => ∃ R', val x v R') xs vs → h.get? D = none → h.objs.size ≤ D → Q (.ref D) ⟨h', g', d', t', o⟩) :
    wpAny (model pr w) A (call (.type "list") [.ref ga]) Q E ⟨h, g, d, t, o⟩ := by
  have hSn : h.get? h.objs.size = none := get_new
  have nW : ¬ W h.objs.size := fun q => by obtain ⟨ob, e⟩ := hW _ q; rw [hSn] at e; cases e
  have nR : ¬ R h.objs.size := fun q => by obtain ⟨ob, e⟩ := hR _ q; rw [hSn] at e; cases e
  refine callType_codes (Q₁ := fun obj s₁ => obj = .ref h.objs.size ∧ s₁ = ⟨h.push { cls := .type "list", data := .seq #[] }, g, d, t, o⟩) F.called_list (F.typeCall_list_1 _) F.entry_list_init
    (code_list_new _ ⟨rfl, rfl⟩) fun obj s₁ h₁ => ?_
  obtain ⟨rfl, rfl⟩ := h₁
  have hS : (h.push { cls := .type "list", data := .seq #[] }).get? h.objs.size = some { cls := .type "list", data := .seq #[] } := Heap.get?_push_size _ rfl
  have hg' : (h.push { cls := .type "list", data := .seq #[] }).IsGen ga gi := hg.push _
  have hga : ga ≠ h.objs.size := let ⟨_, _, _, e, _⟩ := hg; ne_of e hSn
  refine ⟨⟨_, hS, rfl⟩, F.args_list_init_2 _ _, ?_⟩
  show wpAny _ _ (do let old ← Builtin.List.listItems (.ref h.objs.size); Builtin.List.listUpdate (.ref h.objs.size) (fun _ => #[]); letGo old.toList.reverse; Builtin.List.listExtendWith (.ref h.objs.size) (.ref ga) .none) _ _ _
  refine wpAny_bind ?_
  unfold Builtin.List.listItems
  refine wpAny_bind (wpAny_seqItems hS rfl (wpAny_pure ?_))
  show wpAny _ _ (updateSeq h.objs.size (fun _ => #[]) >>= fun _ => letGo (#[] : Array Value).toList.reverse >>= fun _ => Builtin.List.listExtendWith (.ref h.objs.size) (.ref ga) .none) _ _ _
  refine wpAny_bind (wpAny_updateSeq hS rfl ?_)
  have hS₂ := Heap.get?_update_self (Obj.mapSeq (fun _ => (#[] : Array Value))) hS rfl
  have hs2 := Heap.SameBut.update (h.push { cls := .type "list", data := .seq #[] }) h.objs.size (Obj.mapSeq (fun _ => (#[] : Array Value)))
  refine wpAny_bind (wpAny_letGo ?_)
  have up2 : ∀ b ob, h.get? b = some ob → ((h.push { cls := .type "list", data := .seq #[] }).update h.objs.size (Obj.mapSeq fun _ => (#[] : Array Value))).get? b = some ob := fun b ob e => (hs2.2 b (ne_of e hSn)).trans (Heap.get?_push_of_some _ e)
  generalize ((h.push { cls := .type "list", data := .seq #[] }).update h.objs.size (Obj.mapSeq fun _ => (#[] : Array Value))) = h₂ at hS₂ up2 ⊢
  have hT : Shared.TypeIs ⟨h₂, g, d, t, o⟩ (.ref ga) "generator" := let ⟨ob, _, _, e, c, _⟩ := hg; ⟨ob, up2 _ _ e, c⟩
  have st2 : St xs R W GF h₂ g := it.frame _ _ _ _ _ _ _ _ st (fun b ob _ e => up2 b ob e) fun _ _ _ e => e
  unfold Builtin.List.listExtendWith
  refine wpAny_bind (wpAny_typeOf hT ?_)
  have h1 : Builtin.List.listSameRef (.ref h.objs.size) (.ref ga) = false := by simp [Builtin.List.listSameRef, Ne.symm hga]
  have h2 : (Value.type "generator" == Value.type "list") = false := by decide
  have h3 : (Value.type "generator" == Value.type "tuple") = false := by decide
  simp only [h1, h2, h3, Bool.or_false, Bool.false_eq_true, if_false]
  refine wpAny_bind (it.self xs R W GF _ _ _ st2 ?_)
  refine wpAny_bind (wpAny_holding ?_)
  unfold Builtin.List.listLengthHint
  refine wpAny_bind (wpAny_specialOf hT F.gen_no_len ?_)
  show wpAny _ _ (specialOf (Value.ref ga) (Str.ofString "__length_hint__") >>= _) _ _ _
  refine wpAny_bind (wpAny_specialOf hT F.gen_no_hint ?_)
  refine wpAny_pure ?_
  show wpAny _ _ (rule "list.extend.makes-room" >>= fun _ => Builtin.List.listTouch (.ref h.objs.size) >>= fun _ =>
    again (.builtin "list.extend.loop" ⟨[.ref h.objs.size, .ref ga, .none], []⟩)) _ _ _
  refine wpAny_bind (wpAny_rule ?_)
  refine wpAny_bind ?_
  show wpAny _ _ (updateSeq h.objs.size (·.push .none) >>= fun _ => updateSeq h.objs.size (·.pop)) _ _ _
  refine wpAny_bind (wpAny_updateSeq hS₂ rfl ?_)
  have hS₃ := Heap.get?_update_self (Obj.mapSeq (·.push Value.none)) hS₂ rfl
  refine wpAny_updateSeq (hz := by seq_fits) hS₃ rfl ?_
  have hS₄ := Heap.get?_update_self (Obj.mapSeq (·.pop)) hS₃ rfl
  have oth : ∀ b ob, h.get? b = some ob → ((h₂.update h.objs.size (Obj.mapSeq (·.push Value.none))).update h.objs.size (Obj.mapSeq (·.pop))).get? b = some ob := fun b ob e =>
    (Heap.get?_update_other _ _ (Ne.symm (ne_of e hSn))).trans ((Heap.get?_update_other _ _ (Ne.symm (ne_of e hSn))).trans (up2 b ob e))
  refine wpAny_pure ⟨plainId_quiet F.plain_extend_loop _, extLoop it xs R W GF _ g d t o [] (it.frame _ _ _ _ _ _ _ _ st (fun b ob _ e => oth b ob e) fun _ _ _ e => e) ⟨_, hS₄⟩ nW nR (by simpa using hz) fun h' g' d' t' vs k kg l va => ?_⟩
  exact ⟨rfl, H _ h' g' d' t' vs (fun b ob n e => k b ob (fun q => q.elim (fun q => ne_of e hSn q) n) (oth b ob e)) kg l va hSn (Nat.le_refl _)⟩
end

section
variable {w : World} {A : Around} {E : Value → Shared → Prop} {h : Heap} {g : Array GenState} {d : Drawn} {t : Nat} {o : OsState}
theorem eqNil {a b : Addr} {xs : List Value} {Q : Value → Shared → Prop} (hu : A.units < cLine) (hx : ListAt h a xs) (hy : ListAt h b []) (H : Q (.bool xs.isEmpty) ⟨h, g, d, t, o⟩) :
    wpAny (model pr w) A (compareOp .Eq (.ref a) (.ref b)) Q E ⟨h, g, d, t, o⟩ := by
  obtain ⟨n, e1⟩ := hx
  obtain ⟨n2, e2⟩ := hy
  cases xs with
  | nil =>
    exact cmp_ofEq (richCompare_meets_room (op := .Eq) (T := "list") ⟨_, e1, rfl⟩ ⟨_, e2, rfl⟩ F.slot_list_eq F.entry_list_eq (F.args_list_eq_2 _ _) (SeqAt.list_eqAt a b #[] #[] n n2 none none #[] #[] rfl fun _ => true)
      ⟨e1, e2, fun j h1 => by simp at h1, (fun e => nomatch e), by simpa using H⟩ hu)
  | cons x xs =>
    exact cmp_ofEq (richCompare_meets_room (op := .Eq) (T := "list") ⟨_, e1, rfl⟩ ⟨_, e2, rfl⟩ F.slot_list_eq F.entry_list_eq (F.args_list_eq_2 _ _) (SeqAt.list_eq_lengthsAt a b (x :: xs).toArray #[] n n2 none none #[] #[] (by simp))
      ⟨e1, e2, (fun e => nomatch e), by simpa using H⟩ hu)
theorem neNil {a b : Addr} {xs : List Value} {Q : Value → Shared → Prop} (hu : A.units < cLine) (hx : ListAt h a xs) (hy : ListAt h b []) (H : Q (.bool (!xs.isEmpty)) ⟨h, g, d, t, o⟩) :
    wpAny (model pr w) A (compareOp .NotEq (.ref a) (.ref b)) Q E ⟨h, g, d, t, o⟩ := by
  obtain ⟨n, e1⟩ := hx
  obtain ⟨n2, e2⟩ := hy
  cases xs with
  | nil =>
    exact cmp_ofNotEq (richCompare_meets_room (op := .NotEq) (T := "list") ⟨_, e1, rfl⟩ ⟨_, e2, rfl⟩ F.slot_list_ne F.entry_list_ne (F.args_list_ne_2 _ _) (SeqAt.list_neAt a b #[] #[] n n2 none none #[] #[] rfl fun _ => true)
      ⟨e1, e2, fun j h1 => by simp at h1, (fun e => nomatch e), by simpa using H⟩ hu)
  | cons x xs =>
    exact cmp_ofNotEq (richCompare_meets_room (op := .NotEq) (T := "list") ⟨_, e1, rfl⟩ ⟨_, e2, rfl⟩ F.slot_list_ne F.entry_list_ne (F.args_list_ne_2 _ _) (SeqAt.list_ne_lengthsAt a b (x :: xs).toArray #[] n n2 none none #[] #[] (by simp))
      ⟨e1, e2, (fun e => nomatch e), by simpa using H⟩ hu)
theorem kLen {B : Heap} {L : Addr} {m : Str → Option Value} {a : Addr} {xs : List Value} {Q : Value → Shared → Prop} (F : Fm B L h m) (hl : ListAt B a xs) (hz : xs.length ≤ 1000) (H : ∀ tk t', Q (.int xs.length tk) ⟨h, g, d, t', o⟩) :
    wpAny (model pr w) A (call (.builtin "len") [.ref a]) Q E ⟨h, g, d, t, o⟩ :=
  call_len_list (hl.le F.keep).isList (by rw [List.size_toArray]; omega) (by rw [List.size_toArray]; exact H _ _)
end

local macro_rules | `(tactic| walk_at "call builtin:len") => `(tactic| (refine kLen (by assumption) (by ktr_rel) (by first | assumption | omega) ?_; intro tk' t'))

structure Rad where
  rt : Addr
  rd : Addr
  rc : Addr
  tr : Addr
  trc : Addr
structure Whole (w : World) (z : Nat) (h : Heap) (R : Rad) (f : Fo) : Prop where
  nd : Nd h 59 R.rt R.rd R.rc
  kids : ListAt h R.rc f.refs
  row : ∃ t1 t2, ListAt h R.tr [.str (Str.ofString "") t1, .str (Str.ofString "") t2, .none, .ref R.trc]
  rws : ListAt h R.trc f.rrefs
  tr : Tr w h R.rt f
  nod : (R.rt :: R.rd :: R.rc :: R.tr :: R.trc :: adr f).Nodup
  zz : ∀ b ∈ R.rt :: R.rd :: R.rc :: R.tr :: R.trc :: adr f, z ≤ b
  sz : f.size ≤ 40
theorem Whole.mv {w z h h' R f} (x : Whole w z h R f) (k : ∀ b ob, h.get? b = some ob → h'.get? b = some ob) : Whole w z h' R f :=
  ⟨x.nd.mv fun b o _ e => k b o e, x.kids.le k, let ⟨a, b, c⟩ := x.row; ⟨a, b, c.le k⟩, x.rws.le k, x.tr.mv fun b o _ e => k b o e, x.nod, x.zz, x.sz⟩
section
variable {w : World} {z : Nat} {A : Around} {E : Value → Shared → Prop} {h : Heap} {g : Array GenState} {d : Drawn} {t : Nat} {o : OsState}
theorem Whole.rowAt {h R f} (x : Whole w z h R f) : RowAt h R.tr R.trc := let ⟨_, _, l⟩ := x.row; ⟨_, _, _, l⟩
/-- a call of at_depth or walk_up at the root -/
theorem rootGen {fa : Addr} {ls : Nat → Fo → Addr → List (NLab × Addr)} {k : Nat} (S : GenSpec w z fa ls k) {R : Rad} {f : Fo} {tk : Tok} {Q : Value → Shared → Prop} (G : Grd w z h) (r : Rm A 1) (X : Whole w z h R f)
    (H : ∀ ga h' t' Rr W GF g', GSt w z (2 * k + 2) vl ga g.size (ls k f R.rc) Rr W GF h' g' → Le h h' → (∃ x, g' = g.push x ∧ x.bare = true) → (∀ b, W b → h.get? b = none) →
      (∀ b, Rr b → (b < z) ∨ b = R.rt ∨ b = R.rd ∨ b ∈ R.rc :: Rd k f ∨ h.get? b = none) → (∀ i, GF i → i = g.size) → Q (.ref ga) ⟨h', g', d, t', o⟩) :
    wpAny (model pr w) A (call (.ref fa) [.ref R.rt, .int k tk]) Q E ⟨h, g, d, t, o⟩ := by
  have nod := X.nod
  have sub := rd_sub k f
  refine S f R.rt 59 R.rd R.rc tk A h g d t o Q E (fun b => b < z ∧ ∃ ob, h.get? b = some ob) (.inl rfl) r (G.r fun b ob hb e => ⟨hb, ob, e⟩) (fun b q => q) X.nd X.kids (by have := X.sz; omega) (X.tr.nds k) ?_ (fun b hb => X.zz b ?_) fun ga h' t' Rr W GF g' S' le gx hw hr hg => H ga h' t' Rr W GF g' S' le gx hw (fun b q => (hr b q).imp (fun q => q.1) id) hg
  · simp only [List.nodup_cons, List.mem_cons, not_or] at nod ⊢
    obtain ⟨⟨a1, a2, a3, a4, a5⟩, ⟨b1, b2, b3, b4⟩, ⟨c1, c2, c3⟩, d, e, n⟩ := nod
    exact ⟨⟨fun q => a2 q.symm, fun q => b1 q.symm, fun q => c3 (sub.subset q)⟩, ⟨a1, fun q => a5 (sub.subset q)⟩, fun q => b4 (sub.subset q), sub.nodup n⟩
  · rcases List.mem_cons.mp hb with rfl | hb
    · simp
    · simp [sub.subset hb]
end

theorem GSt.isGen {α : Type} {w : World} {z k : Nat} {val : α → Value → (Addr → Prop) → Prop} {ga gi : Nat} {xs : List α} {R W : Addr → Prop} {GF : Nat → Prop} {h : Heap} {g : Array GenState} (x : GSt w z k val ga gi xs R W GF h g) : h.IsGen ga gi := by
  cases x; assumption
section
variable {w : World} {z : Nat} {A : Around} {E : Value → Shared → Prop} {h : Heap} {g : Array GenState} {d : Drawn} {t : Nat} {o : OsState}
theorem node_spec {k : Nat} {R : Rad} {f : Fo} {tk tj : Tok} {j : Int} {Q : Value → Shared → Prop} (hk : k ≤ 20) (G : Grd w z h) (r : Rm A 120) (X : Whole w z h R f) (hj : 0 ≤ j) (hj2 : j < 1000)
    (H : ∀ D h' g' d' t' n rr, Le h h' → KpG noneG g g' → TupAt h' D [.ref n, .ref rr] → (n = R.rt ∧ rr = R.tr ∨ ∃ y ∈ lv k f R.rc, n = y.1.a ∧ rr = y.1.r) → Q (.ref D) ⟨h', g', d', t', o⟩) :
    wpAny (model pr w) A (call (.ref 137) [.ref R.rt, .ref R.tr, .int k tk, .int j tj]) Q E ⟨h, g, d, t, o⟩ := by
  refine callF (binds := [(Str.ofString "root", .ref R.rt), (Str.ofString "tree", .ref R.tr), (Str.ofString "depth", .int k tk), (Str.ofString "k", .int j tj)]) G rfl rfl rfl rfl (by have := r.dp; omega) rfl rfl rfl rfl rfl rfl ?_
  intro h₁ F env A'
  have rA : Rm A' 119 := r.deeper
  repeat' walk1
  refine level_spec k f R.rt R.tr R.trc _ A' _ h₁ g d _ o _ (G.le F.keep) (rA.le (by omega)) ((X.mv F.keep).rowAt) (X.mv F.keep).rws (X.mv F.keep).tr.tw (by have := X.sz; omega) fun D₂ h₂ g₂ d₂ t₂ le₂ kg₂ l₂ n₂ => ?_
  obtain ⟨B₂, F₂, K₂, up₂⟩ := F.after (Le.kp le₂ none1) id
  obtain ⟨oL, eL⟩ := F.there
  have l₂' : ListAt B₂ D₂ (lvr k f) := let ⟨q, e⟩ := l₂; ⟨q, up₂ _ _ (fun q => by rw [q, eL] at n₂; cases n₂) e⟩
  have G₂ := G.le (show Le h B₂ from fun b ob e => K₂ b ob id e)
  have X₂ := X.mv (fun b ob e => K₂ b ob id e)
  have hlen := lvr_len k f
  have hsz := X.sz
  repeat' walk1
  rename_i h₃ t₃ F₃ D₄ h₄ B₄ F₄ K₄ l₄ n₄ nh₄ zz₄ K₄'
  have l₄' : ListAt B₄ D₂ (lvr k f) := l₂'.le K₄
  have G₄ := G₂.le K₄
  have X₄ := X₂.mv K₄
  have nd₄ := X₄.nd
  refine eqNil (by have := rA.un; omega) (l₄'.le F₄.keep) (l₄.le F₄.keep) ?_
  generalize hb : (lvr k f).isEmpty = bb
  repeat' walk1
  · rename_i D₅ h₅ B₅ F₅ K₅ l₅ n₅ nh₅ zz₅ K₅'
    exact H D₅ h₅ _ _ _ _ _ (fun b ob e => F₅.keep _ _ (K₅ _ _ (K₄ _ _ (K₂ b ob id e)))) kg₂ (l₅.mv fun _ e => F₅.keep _ _ e) (.inl ⟨rfl, rfl⟩)
  refine rootGen (at_spec k) (G₄.le F₄.keep) (rA.le (by omega)) (X₄.mv F₄.keep) fun ga h₆ t₆ Rr W GF g₆ S₆ le₆ gx hw hr hgf => ?_
  refine spliced_nil ?_
  have rg : Rm A'.in1.in1 (2 * k + 2 + 1) := ((rA.le (show 2 * k + 2 + 1 + 1 + 1 ≤ 119 by omega)).in1).in1
  have it := itr_gen (w := w) (z := z) (val := vl) rg ga g₂.size
  have hga : h₆.IsGen ga g₂.size := S₆.isGen
  have lvl : (lv k f R.rc).length ≤ f.size := by have := lv_pc k f R.rc 0; have := congrArg List.length this; simp only [List.length_map] at this; unfold lvr at hlen; simp only [List.length_map] at hlen; omega
  refine listOfGen it hga S₆ (it.rd _ _ _ _ _ _ S₆) (it.own _ _ _ _ _ _ S₆) (by omega) fun D₇ h₇ g₇ d₇ t₇ vs k₇ kg₇ l₇ va n₇ zz₇ => ?_
  have le47 : Le h₄ h₇ := fun b ob e => k₇ b ob (fun q => by have := hw b q; rw [e] at this; cases this) (le₆ b ob e)
  obtain ⟨B₇, F₇, K₇, up₇⟩ := F₄.after (Le.kp le47 none1) id
  have l₇' : ListAt B₇ D₇ vs := let ⟨q, e⟩ := l₇; ⟨q, up₇ _ _ (fun q => by obtain ⟨ob, e⟩ := F₄.there; rw [← q] at e; rw [le₆ _ _ e] at n₇; cases n₇) e⟩
  have l₇'' : ListAt B₇ D₂ (lvr k f) := l₄'.kp K₇ id
  have vl7 := va.len
  repeat' walk1
  have G₇ : Grd w z B₇ := G₄.kp K₇ fun b e => e.elim
  have hb' : bb = false := by cases bb <;> simp_all
  have hne : (lvr k f) ≠ [] := by intro e; rw [e, hb'] at hb; simp at hb
  have hpos : 0 < ((lvr k f).length : Int) := by have := List.length_pos_iff.mpr hne; omega
  have ib0 := Int.emod_nonneg j (show ((lvr k f).length : Int) ≠ 0 by omega)
  have ib1 := Int.emod_lt_of_pos j hpos
  have lvl2 : (lv k f R.rc).length = (lvr k f).length := by have := lv_pc k f R.rc 0; have := congrArg List.length this; simpa [lvr] using this
  have ii : (j % ((lvr k f).length : Int)).toNat < (lv k f R.rc).length := by omega
  obtain ⟨y, hy⟩ : ∃ y, (lv k f R.rc)[(j % ((lvr k f).length : Int)).toNat]? = some y := ⟨_, List.getElem?_eq_getElem ii⟩
  obtain ⟨v, hv1, Rv, rfl, _⟩ := va.at _ _ hy
  have hv2 : (lvr k f)[(j % ((lvr k f).length : Int)).toNat]? = some (.ref y.1.r) := by
    have e := lv_pc k f R.rc 0
    have e1 : ((lv k f R.rc).map (·.1))[(j % ((lvr k f).length : Int)).toNat]? = some y.1 := by rw [List.getElem?_map, hy]; rfl
    rw [e, List.getElem?_map] at e1
    obtain ⟨y', q1, q2⟩ := Option.map_eq_some_iff.mp e1
    unfold lvr at q1 ⊢
    rw [List.getElem?_map, q1, ← q2]; rfl
  have hf : j.fmod ((lvr k f).length : Int) = j % ((lvr k f).length : Int) := Int.fmod_eq_emod_of_nonneg _ (by omega)
  repeat' walk1
  rw [hf]
  refine eItem F₇ l₇' ib0 (by omega) hv1 (by with_unfolding_all rfl) ?_
  repeat' walk1
  rename_i u₁ t₈ u₂ t₉ D₁₀ h₁₀ B₁₀ F₁₀ K₁₀ l₁₀ n₁₀ nh₁₀ zz₁₀ K₁₀'
  have kgg : KpG noneG g g₇ := by
    obtain ⟨gx, rfl, gb⟩ := gx
    refine ⟨fun i x _ e => ?_, fun q => kg₇.2 ?_⟩
    · have e1 := kg₂.1 i x id e
      refine kg₇.1 i x (fun q => ?_) ?_
      · rw [hgf i q] at e1; simp at e1
      · rw [Array.getElem?_push, if_neg (fun q => by rw [q] at e1; simp at e1)]; exact e1
    · intro y hy
      rcases Array.mem_push.mp hy with hy | rfl
      · exact kg₂.2 q y hy
      · exact gb
  exact H D₁₀ h₁₀ g₇ d₇ _ _ _ (fun b ob e => F₁₀.keep _ _ (K₁₀ _ _ (K₇ b ob id (K₄ _ _ (K₂ b ob id e))))) kgg (l₁₀.mv fun _ e => F₁₀.keep _ _ e) (.inr ⟨y, List.mem_of_getElem? hy, rfl, rfl⟩)
end

section
variable {w : World} {A : Around} {E : Value → Shared → Prop}
/-- a tuple's iterator -/
def TIt (it l : Addr) (xs : List Value) (R W : Addr → Prop) (GF : Nat → Prop) (h : Heap) (_ : Array GenState) : Prop :=
  (∀ b, R b ↔ b = l) ∧ (∀ b, W b ↔ b = it) ∧ (∀ i, ¬ GF i) ∧ ∃ i items, h.IsTupleIter it l i ∧ h.IsTuple l items ∧ items.toList.drop i = xs
theorem itr_tuple {it l : Addr} (hh : A.handled = none) (hne : l ≠ it) : Itr w A (.ref it) (fun x v R' => v = x ∧ ∀ b, R' b → b = l) (TIt it l) where
  item := by
    rintro x xs R W GF h g d t o Q E ⟨hR, hW, hG, i, items, hi, hl, hx⟩ H
    have e1 : items[i]? = some x := by
      have : items.toList[i]? = some x := by
        rw [← List.head?_drop, hx]; rfl
      simpa using this
    refine wpAny_pyNext_tuple_item hi hl e1 fun h' hi' hs => ?_
    obtain ⟨ol, l1, l2⟩ := hl
    refine H x R W GF h' g d t ⟨rfl, fun b q => (hR b).mp q⟩ ⟨hR, hW, hG, i + 1, items, hi', ⟨ol, (hs.2 l hne).trans l1, l2⟩, ?_⟩ (fun b o n e => (hs.2 b fun q => n ((hW b).mpr q)).trans e) (.refl _ _) (fun b q => .inl q) (fun b q => .inl q) (fun b q => .inl q)
    rw [← List.tail_drop, hx]; rfl
  done := by
    rintro R W GF h g d t o Q E ⟨hR, hW, hG, i, items, hi, hl, hx⟩ H
    have e1 : items[i]? = none := by
      have : items.toList[i]? = none := by
        rw [← List.head?_drop, hx]; rfl
      simpa using this
    exact wpAny_pyNext_tuple_end hh hi hl e1 fun h' hs => H h' g d t (fun b o n e => hs b o (fun q => n ((hW b).mpr q)) e) (.refl _ _)
  self := by
    rintro xs R W GF s Q E ⟨hR, hW, hG, i, items, hi, _⟩ hQ
    exact wpAny_pyIter_tupleiter hi hQ
  own := by
    rintro xs R W GF h g ⟨hR, hW, hG, i, items, ⟨oi, e1, _⟩, _⟩ b hb
    exact ⟨oi, (hW b).mp hb ▸ e1⟩
  gown := fun xs R W GF h g st i q => absurd q (st.2.2.1 i)
  rd := by
    rintro xs R W GF h g ⟨hR, hW, hG, i, items, _, ⟨ol, e1, _⟩, _⟩ b hb
    exact ⟨ol, (hR b).mp hb ▸ e1⟩
  frame := by
    rintro xs R W GF h h' g g' ⟨hR, hW, hG, i, items, ⟨oi, e1, e2, e3⟩, ⟨ol, l1, l2⟩, hx⟩ k _
    exact ⟨hR, hW, hG, i, items, ⟨oi, k it oi (.inr ((hW it).mpr rfl)) e1, e2, e3⟩, ⟨ol, k l ol (.inl ((hR l).mpr rfl)) l1, l2⟩, hx⟩
theorem kIterT {a : Addr} {xs : List Value} {Q : Value → Shared → Prop} {B h : Heap} {L : Addr} {m : Str → Option Value} {g : Array GenState} {d : Drawn} {t : Nat} {o : OsState} (F : Fm B L h m) (hl : TupAt B a xs)
    (H : ∀ it h' B', Fm B' L h' m → Le B B' → Le h h' → h.get? it = none → a ≠ it → TIt it a xs (fun b => b = a) (fun b => b = it) noneG h' g → Q (.ref it) ⟨h', g, d, t, o⟩) :
    wpAny (model pr w) A (pyIter (.ref a)) Q E ⟨h, g, d, t, o⟩ := by
  obtain ⟨n, e⟩ := hl
  have e' := F.keep _ _ e
  have it0 : h.IsTuple a xs.toArray := ⟨_, e', rfl, n, rfl⟩
  refine wpAny_pyIter_tuple it0 ?_
  have k : Le h (h.push { cls := .type "tuple_iterator", data := .fields #[.ref a, .int 0 0] }) := fun b o e => Heap.get?_push_of_some _ e
  obtain ⟨B', F', kB, up⟩ := F.after (Le.kp k none1) id
  have hL : h.get? h.objs.size = none := get_new
  refine H h.objs.size _ B' F' kB.le k hL (fun q => by rw [q, hL] at e'; cases e') ⟨fun _ => Iff.rfl, fun _ => Iff.rfl, fun _ => id, 0, xs.toArray, ⟨_, Heap.get?_push_size _ rfl, rfl, rfl⟩, ⟨_, k _ _ e', rfl, n, rfl⟩, by simp⟩
end

local macro_rules | `(tactic| walk_at "pyIter ref") => `(tactic| (refine kIterT (by assumption) (by ktr_rel) ?_; intro it' h' B' F' K' k' n' e' I'; (have K' := Le.kp K' none1)))
local macro_rules | `(tactic| walk_at "pyIter ref") => `(tactic| (refine kIterL (by assumption) (by ktr_rel) ?_; intro it' h' B' F' K' k' n' e' I'; (have K' := Le.kp K' none1)))

/-- v is a tuple of x's labels, with the set of the node -/
def BareT (h : Heap) (N : Addr → Prop) (x : NLab) (v : Value) : Prop := ∃ T u1 u2, v = .ref T ∧ N T ∧ TupAt h T [.str x.nm u1, .str x.ql u2, .ref x.hs]
theorem ValsAre.mono {α : Type} {P P' : α → Value → Prop} (k : ∀ x v, P x v → P' x v) : ∀ {xs : List α} {vs : List Value}, ValsAre P xs vs → ValsAre P' xs vs
  | [], [], _ => trivial
  | x :: xs, v :: vs, h => ⟨k _ _ h.1, ValsAre.mono k h.2⟩
  | [], _ :: _, h => h.elim
  | _ :: _, [], h => h.elim
theorem ValsAre.snoc {α : Type} {P : α → Value → Prop} {x : α} {v : Value} (p : P x v) : ∀ {xs : List α} {vs : List Value}, ValsAre P xs vs → ValsAre P (xs ++ [x]) (vs ++ [v])
  | [], [], _ => ⟨p, trivial⟩
  | y :: xs, u :: vs, h => ⟨h.1, ValsAre.snoc p h.2⟩
  | [], _ :: _, h => h.elim
  | _ :: _, [], h => h.elim
section
variable {w : World} {z : Nat} {A : Around} {E : Value → Shared → Prop} {h : Heap} {g : Array GenState} {d : Drawn} {t : Nat} {o : OsState}
inductive BcAt (w : World) (z : Nat) (A : Around) (L : Addr) (Bb : Heap) (xs : List (NLab × Addr)) (Q : Value → Shared → Prop) (I : Value) (s₂ : Shared) : Prop
  | mk (ga gi k : Nat) (R W : Addr → Prop) (GF : Nat → Prop) (B : Heap) (m : Str → Option Value) (e : I = .ref ga) (S : GSt w z k vl ga gi xs R W GF s₂.heap s₂.gens) (r : Rm A (k + 1)) (F : Fm B L s₂.heap m) (nW : ¬ W L) (up : ∀ b ob, Bb.get? b = some ob → B.get? b = some ob ∧ ¬ W b)
      (done : ∀ D h' g' d' t' B₁ ys, Fm B₁ L h' m → Le Bb B₁ → ListAt B₁ D ys → ValsAre (fun x v => BareT B₁ (fun _ => True) x.1 v) xs ys → s₂.heap.get? D = none → KpG GF s₂.gens g' → Q (.ref D) ⟨h', g', d', t', s₂.os⟩) : BcAt w z A L Bb xs Q I s₂
theorem bareComp {scope : Scope} {pos p1 p2 p3 p4 : Pos} {env : Env} {cl : List (Str × Addr)} {L : Addr} {iter : Expr} {xs : List (NLab × Addr)} {Q : Value → Shared → Prop} {Bb : Heap} {s : Shared}
    (hclos : closureFor scope env = pure cl) (hcell : (scope.names.all fun x => x.2 != .cell) = true) (hkind : scope.kind = .function)
    (hnames : (scope.names.all fun x => x.2 != .local || scope.names.lookup x.1 == some .local) = true) (hs : ∀ x, foldedSetIterable iter env x = pure x)
    (hn : ∀ C, (compEnvC scope cl C env).kindOf (Str.ofString "node") = some .local) (hb : ∀ C, (compEnvC scope cl C env).kindOf (Str.ofString "_law_bare") = some .globalImplicit) (hk : ∀ C, (compEnvC scope cl C env).scope.kind = .function) (hg : env.globals = mainGlobals)
    (rA : Rm A 5) (G : Grd w z Bb) (hx : ∀ x ∈ xs, ∃ p, One w Bb p x.1) (hz : xs.length ≤ 900)
    (Hi : wpAny (model pr w) A (eval iter env) (fun x s₁ => wpAny (model pr w) A (pyIter x) (fun I s₂ => BcAt w z A L Bb xs Q I s₂) E s₁) E s) :
    wpAny (model pr w) A (eval (.ListComp (.Call (.Name (Str.ofString "_law_bare") p1) [.Name (Str.ofString "node") p2] [] p3) [⟨.Name (Str.ofString "node") p4, iter, [], 0⟩] scope pos) env) Q E s := by
  refine lcRule (L := L) hclos hcell hkind hnames hs (wpAny_mono Hi (fun x s₁ h₁ => wpAny_mono h₁ (fun I s₂ h₂ => ?_) fun _ _ e => e) fun _ _ e => e)
  obtain ⟨ga, gi, k, R, W, GF, B, m, rfl, S, rk, F, nWL, up, done⟩ := h₂
  refine ⟨_, vl, GSt w z k vl ga gi, xs, R, W, GF, B, m, fun rem ys Ft B₁ => (∃ dn, dn ++ rem = xs ∧ ValsAre (fun x v => BareT B₁ Ft x.1 v) dn ys) ∧ ∀ b, Ft b → ∃ o, B₁.get? b = some o, itr_gen rk ga gi, S, F, nWL, fun _ _ _ q _ => wpAny_pure q, ?_, ?_, fun B₁ => ⟨⟨[], rfl, trivial⟩, fun b q => q.elim⟩, ?_, ?_⟩
  · rintro rem ys Ft B₁ B₂ ⟨⟨dn, e, v⟩, th⟩ k
    exact ⟨⟨dn, e, v.mono fun x v ⟨T, u1, u2, a, b, c⟩ => ⟨T, u1, u2, a, b, c.mv fun o e => k _ o b e⟩⟩, fun b q => let ⟨o, e⟩ := th b q; ⟨o, k b o q e⟩⟩
  · rintro rem ys Ft B₁ ⟨⟨dn, e, v⟩, th⟩
    have := v.len; have := congrArg List.length e
    rw [List.length_append] at this; rw [sizeLine_eq]; omega
  · rintro C x rem ys v R' Ft B₁ h g d t m₁ ⟨⟨dn, e, va⟩, th⟩ F₁ k₁ hv
    obtain ⟨rfl, _⟩ := hv
    have le1 : Le Bb B₁ := fun b ob e => k₁ b ob (up b ob e).2 (up b ob e).1
    obtain ⟨p, one⟩ := hx x (by rw [← e]; simp)
    have one₁ : One w B₁ p x.1 := one.mv fun b ob _ e => le1 b ob e
    have G₁ := G.le le1
    refine wpAny_assign_Name (kStore F₁ rfl (hk C) (hn C) fun h₂ t₂ F₂ => ?_)
    refine wpAny_pure ?_
    rw [if_pos rfl]
    rw [arm_eval_Call_Name']
    refine wpAny_bind (eGlob3 (hb C) rfl F₂ G₁ hg (hk C) rfl ?_)
    refine cwK1 rfl rfl ?_
    refine eLocal3 (hn C) F₂ rfl (hk C) (if_pos rfl) rfl ?_
    refine kc G₁ F₂ ?_
    refine bare_spec (G₁.le F₂.keep) (rA.le (by omega)) (one₁.mv fun b ob _ e => F₂.keep b ob e) fun T h₃ t₃ u1 u2 le₃ q₃ n₃ => ?_
    obtain ⟨B₃, F₃, K₃, up₃⟩ := F₂.after (Le.kp le₃ none1) id
    obtain ⟨oC, eC⟩ := F₂.there
    have nTC : T ≠ C := fun q => by rw [q, eC] at n₃; cases n₃
    have q₃' : TupAt B₃ T [.str x.1.nm u1, .str x.1.ql u2, .ref x.1.hs] := let ⟨n, e⟩ := q₃; ⟨n, up₃ _ _ nTC e⟩
    refine ⟨fun b => Ft b ∨ b = T, B₃, h₃, g, d, t₃, _, rfl, F₃, K₃, .refl _ _, ⟨⟨dn ++ [x], by simpa using e, (va.mono fun x v ⟨T', u1, u2, a, b, c⟩ => ⟨T', u1, u2, a, .inl b, c.mv fun o e => K₃ _ o id e⟩).snoc ⟨T, u1, u2, rfl, .inr rfl, q₃'⟩⟩, fun b hb => ?_⟩, fun b hb => ⟨?_, ?_⟩⟩
    · rcases hb with hb | rfl
      · obtain ⟨o, e⟩ := th b hb; exact ⟨o, K₃ b o id e⟩
      · obtain ⟨n, e⟩ := q₃'; exact ⟨_, e⟩
    · rcases hb with hb | rfl
      · obtain ⟨o, e⟩ := th b hb; exact ⟨o, K₃ b o id e⟩
      · obtain ⟨n, e⟩ := q₃'; exact ⟨_, e⟩
    · rcases hb with hb | rfl
      · exact .inl hb
      · exact .inr (none_of F₂.keep n₃)
  · rintro ys Ft B₁ D h g d t ⟨⟨dn, e, va⟩, th⟩ F₁ k₁ l₁ nD kg
    rw [List.append_nil] at e
    subst e
    exact done D h g d t B₁ ys F₁ (fun b ob e => k₁ b ob (up b ob e).2 (up b ob e).1) l₁ (va.mono fun x v ⟨T, u1, u2, a, b, c⟩ => ⟨T, u1, u2, a, trivial, c⟩) nD kg
end

section
variable {w : World} {A : Around}
theorem Itr.map {I : Value} {α β : Type} {val : α → Value → (Addr → Prop) → Prop} {St} (it : Itr w A I val St) (f : β → α) : Itr w A I (fun b v R => val (f b) v R) (fun xs => St (xs.map f)) where
  item := fun x xs R W GF h g d t o Q E st H => it.item (f x) (xs.map f) R W GF h g d t o Q E st H
  done := fun R W GF h g d t o Q E st H => it.done R W GF h g d t o Q E st H
  self := fun xs R W GF s Q E st H => it.self (xs.map f) R W GF s Q E st H
  own := fun xs R W GF h g st => it.own (xs.map f) R W GF h g st
  gown := fun xs R W GF h g st => it.gown (xs.map f) R W GF h g st
  rd := fun xs R W GF h g st => it.rd (xs.map f) R W GF h g st
  frame := fun xs R W GF h h' g g' st => it.frame (xs.map f) R W GF h h' g g' st
end
theorem TupsIn.zip {h : Heap} {N : Addr → Prop} : ∀ {vs : List Value} {l : List (Int × NLab)}, TupsIn h N vs l → ∃ zs : List (Addr × Int × NLab), zs.map (fun z => Value.ref z.1) = vs ∧ zs.map (·.2) = l ∧ ∀ z ∈ zs, N z.1 ∧ ∃ tk, TupAt h z.1 [.int z.2.1 tk, .ref z.2.2.r]
  | [], [], _ => ⟨[], rfl, rfl, fun _ q => by cases q⟩
  | v :: vs, x :: xs, ⟨⟨T, tk, e, n, q⟩, r⟩ => by
    obtain ⟨zs, a, b, c⟩ := TupsIn.zip r
    refine ⟨(T, x) :: zs, by simp [a, e], by simp [b], fun z hz => ?_⟩
    rcases List.mem_cons.mp hz with rfl | hz
    · exact ⟨n, tk, q⟩
    · exact c z hz
  | [], _ :: _, h => h.elim
  | _ :: _, [], h => h.elim
theorem ValsAre.map {α β : Type} {f : α → β} {P : β → Value → Prop} : ∀ {xs : List α} {vs : List Value}, ValsAre (fun x v => P (f x) v) xs vs → ValsAre P (xs.map f) vs
  | [], [], _ => trivial
  | x :: xs, v :: vs, h => ⟨h.1, ValsAre.map h.2⟩
  | [], _ :: _, h => h.elim
  | _ :: _, [], h => h.elim
/-- v is a tuple of x's labels, with the set of the row -/
def RowT (h : Heap) (N : Addr → Prop) (x : NLab) (v : Value) : Prop := ∃ T u1 u2, v = .ref T ∧ N T ∧ TupAt h T [.str x.nm u1, .str x.ql u2, .ref x.ts]
theorem pick3 (a b c d : Value) : slicePick [a, b, c, d].toArray none (some 3) none = [a, b, c].toArray := by rfl
section
variable {w : World} {z : Nat} {A : Around} {E : Value → Shared → Prop} {h : Heap} {g : Array GenState} {d : Drawn} {t : Nat} {o : OsState}
theorem kSlice3 {B : Heap} {L : Addr} {m : Str → Option Value} {env : Env} {e : Expr} {p p1 p2 : Pos} {n : Nat} {ra : Addr} {a b c e4 : Value} {Q : Value → Shared → Prop} (F : Fm B L h m) (hl : ListAt B ra [a, b, c, e4]) (ht : ∀ o r, letTemporaryGo e o r = pure ())
    (he : ∀ (Q' : Value → Shared → Prop), Q' (.ref ra) ⟨h, g, d, t, o⟩ → wpAny (model pr w) A (eval e env) Q' E ⟨h, g, d, t, o⟩)
    (H : ∀ D h' B' t', Fm B' L h' m → Le B B' → ListAt B' D [a, b, c] → h.get? D = none → Q (.ref D) ⟨h', g, d, t', o⟩) :
    wpAny (model pr w) A (eval (.Subscript e (.Slice none (some (.Constant (.int 3) n p1)) none p2) p) env) Q E ⟨h, g, d, t, o⟩ := by
  refine wpAny_Subscript_list_slice (he _ (wpAny_evalPart_none (wpAny_evalPart_some (kInt fun tk t' => ?_)))) ht
  obtain ⟨q, e1⟩ := hl
  have e2 := F.keep _ _ e1
  refine ⟨ra, [a, b, c, e4].toArray, none, some 3, rfl, ⟨_, e2, rfl, q, rfl⟩, by rw [sizeLine_eq]; simp, .none, .int 3 tk, ?_⟩
  rw [pick3]
  obtain ⟨B', F', l', s1, n1, n2⟩ := kPush (ob := { cls := .type "slice", data := .fields #[.none, .int 3 tk, .none] }) F rfl
  obtain ⟨B₂, F₂, l₂, s2, n3, n4⟩ := kPush (ob := { cls := .type "list", data := .seq [a, b, c].toArray }) F' rfl
  rw [Heap.size_push] at s2 n4
  refine H _ _ B₂ _ F₂ (l'.trans l₂) ⟨0, s2⟩ ?_
  cases q : h.get? (h.objs.size + 1) with
  | none => rfl
  | some ob => exact absurd (Heap.lt_size q) (Nat.not_lt.mpr (Nat.le_succ _))
theorem kTupleL {B : Heap} {L : Addr} {m : Str → Option Value} {a : Addr} {xs : List Value} {Q : Value → Shared → Prop} (F : Fm B L h m) (hl : ListAt B a xs) (hz : xs.length ≤ sizeLine)
    (H : ∀ D h' B', Fm B' L h' m → Le B B' → TupAt B' D xs → h.get? D = none → Q (.ref D) ⟨h', g, d, t, o⟩) :
    wpAny (model pr w) A (call (.type "tuple") [.ref a]) Q E ⟨h, g, d, t, o⟩ := by
  refine call_tuple_list (hl.le F.keep).isList (fun h' k => ?_) (by rw [List.size_toArray]; exact hz)
  have k' : Le h h' := k
  obtain ⟨B', F', kB, up⟩ := F.after (k'.kp none1) id
  obtain ⟨B₂, F₂, l₂, s2, n3, n4⟩ := kPush (ob := { cls := .type "tuple", data := .seq xs.toArray }) F' rfl
  exact H _ _ B₂ F₂ (kB.le.trans l₂) ⟨0, s2⟩ (none_of k' n4)
theorem kUnpack2 {B : Heap} {L : Addr} {m : Str → Option Value} {env : Env} {x y : Str} {p p1 p2 : Pos} {n : Nat} {T : Addr} {a b : Value} {Q : Unit → Shared → Prop} (hh : A.handled = none) (F : Fm B L h m) (hT : TupAt B T [a, b])
    (H : ∀ h' B', Fm B' L h' m → Le B B' → wpAny (model pr w) A (storeName env x a) (fun _ s => wpAny (model pr w) A (storeName env y b) Q E s) E ⟨h', g, d, t, o⟩) :
    wpAny (model pr w) A (assign (.Tuple [.Name x p1, .Name y p2] n p) env (.ref T)) Q E ⟨h, g, d, t, o⟩ := by
  obtain ⟨q, e1⟩ := hT
  have e2 := F.keep _ _ e1
  refine wpAny_assign_Tuple (items := [a, b].toArray) hh ⟨_, e2, rfl, q, rfl⟩ rfl rfl fun h' ex => ?_
  have nL : ¬ h.objs.size = L := fun q => by obtain ⟨ob, e⟩ := F.there; rw [← q, get_new] at e; cases e
  obtain ⟨B', F', kB, up⟩ := F.after (W := fun b => b = h.objs.size) ex (fun q => nL q.symm)
  have le : Le B B' := fun b ob e => kB b ob (fun q => by have := F.keep _ _ e; rw [q, get_new] at this; cases this) e
  refine wpAny_bind (wpAny_holding (wpAny_assign_Name (wpAny_mono (H h' B' F' le) (fun _ s q => ?_) fun _ _ x => x)))
  exact wpAny_bind (wpAny_holding (wpAny_assign_Name (wpAny_mono q (fun _ s q => wpAny_pure q) fun _ _ x => x)))
end
section
variable {w : World} {z : Nat} {A : Around} {E : Value → Shared → Prop} {h : Heap} {g : Array GenState} {d : Drawn} {t : Nat} {o : OsState}
theorem rowComp {op : CmpOp} {ok : Int → Int → Bool} (hop : ∀ (A : Around) (a b : Int) (u v : Tok) (E : Value → Shared → Prop) (Q : Value → Shared → Prop) (s : Shared), Q (.bool (ok a b)) s → wpAny (model pr w) A (compareOp op (.int a u) (.int b v)) Q E s)
    {scope : Scope} {pos p1 p2 p3 p4 p5 p6 q1 q2 q3 q4 q5 q6 q7 : Pos} {n1 n2 : Nat} {env : Env} {cl : List (Str × Addr)} {L c D₀ : Addr} {k : Int} {tk : Tok} {Q : Value → Shared → Prop} {B : Heap} {m : Str → Option Value} {vs : List Value} {l : List (Int × NLab)} {N : Addr → Prop}
    (hclos : closureFor scope env = pure cl) (hcell : (scope.names.all fun x => x.2 != .cell) = true) (hkind : scope.kind = .function)
    (hnames : (scope.names.all fun x => x.2 != .local || scope.names.lookup x.1 == some .local) = true) (hs : ∀ x, foldedSetIterable (.Name (Str.ofString "rows") q4) env x = pure x)
    (ha : ∀ C, (compEnvC scope cl C env).kindOf (Str.ofString "at") = some .local) (hr : ∀ C, (compEnvC scope cl C env).kindOf (Str.ofString "row") = some .local) (hd : ∀ C, (compEnvC scope cl C env).kindOf (Str.ofString "depth") = some .cell)
    (hdc : ∀ C, (compEnvC scope cl C env).cells.lookup (Str.ofString "depth") = some c)
    (ht : ∀ C, (compEnvC scope cl C env).kindOf (Str.ofString "tuple") = some .globalImplicit) (hk : ∀ C, (compEnvC scope cl C env).scope.kind = .function) (hg : env.globals = mainGlobals) (hb : env.builtins = builtinsNs)
    (hmark : behindInMarks op (.Name (Str.ofString "depth") q6) = false)
    (hek : env.scope.kind = .function) (hel : env.kindOf (Str.ofString "rows") = some .local) (hL : env.locals = L) (hm : m (Str.ofString "rows") = some (.ref D₀))
    (hh : A.handled = none) (G : Grd w z B) (F : Fm B L h m) (lD : ListAt B D₀ vs) (TI : TupsIn B N vs l) (hx : ∀ x ∈ l, ∃ p, One w B p x.2) (hz : l.length ≤ 900) (hc : B.IsCell c (some (.int k tk)))
    (H : ∀ D h' g' d' t' B₁ ys, Fm B₁ L h' m → Le B B₁ → ListAt B₁ D ys → ValsAre (fun x v => RowT B₁ (fun _ => True) x v) ((l.filter fun y => ok y.1 k).map (·.2)) ys → h.get? D = none → KpG noneG g g' → Q (.ref D) ⟨h', g', d', t', o⟩) :
    wpAny (model pr w) A (eval (.ListComp (.Call (.Name (Str.ofString "tuple") p1) [.Subscript (.Name (Str.ofString "row") p2) (.Slice none (some (.Constant (.int 3) n1 p3)) none p4) p5] [] p6)
      [⟨.Tuple [.Name (Str.ofString "at") q1, .Name (Str.ofString "row") q2] n2 q3, .Name (Str.ofString "rows") q4, [.Compare (.Name (Str.ofString "at") q5) [op] [.Name (Str.ofString "depth") q6] q7], 0⟩] scope pos) env) Q E ⟨h, g, d, t, o⟩ := by
  obtain ⟨zs, rfl, rfl, hzs⟩ := TI.zip
  refine lcRule (L := L) hclos hcell hkind hnames hs ?_
  refine eLocal3 hel F hL hek hm rfl ?_
  refine kIterL F lD fun it h₂ B₂ F₂ K₂ k₂ n₂ e₂ I₂ => ?_
  have itL : ¬ L = it := fun q => by obtain ⟨ob, e⟩ := F.there; rw [q, n₂] at e; cases e
  have B2it : B₂.get? it = none → True := fun _ => trivial
  have upB : ∀ b ob, B.get? b = some ob → B₂.get? b = some ob ∧ ¬ b = it := fun b ob e => ⟨K₂ b ob e, fun q => by have := F.keep _ _ e; rw [q, n₂] at this; cases this⟩
  refine ⟨_, _, _, zs, _, _, _, B₂, m, fun rem ys Ft B₁ => (∃ dn, dn ++ rem = zs ∧ ValsAre (fun x v => RowT B₁ Ft x.2 v) ((dn.map (·.2)).filter fun y => ok y.1 k) ys) ∧ ∀ b, Ft b → ∃ o, B₁.get? b = some o, (itr_list hh e₂).map (fun y : Addr × Int × NLab => Value.ref y.1), I₂, F₂, itL, ?_, ?_, ?_, fun B₁ => ⟨⟨[], rfl, trivial⟩, fun b q => q.elim⟩, ?_, ?_⟩
  · rintro v s Q q ⟨x, xs, R, W, GF, ⟨rfl, _⟩, -, -, -, i, items, hi, _⟩
    exact wpAny_letOwnedTupleGo_listiter hi q
  · rintro rem ys Ft B₁ B₂ ⟨⟨dn, e, v⟩, th⟩ k
    exact ⟨⟨dn, e, v.mono fun x v ⟨T, u1, u2, a, b, c⟩ => ⟨T, u1, u2, a, b, c.mv fun o e => k _ o b e⟩⟩, fun b q => let ⟨o, e⟩ := th b q; ⟨o, k b o q e⟩⟩
  · rintro rem ys Ft B₁ ⟨⟨dn, e, v⟩, th⟩
    have h1 := v.len; have h2 := congrArg List.length e
    have h3 := List.length_filter_le (fun y : Int × NLab => ok y.1 k) (dn.map (·.2))
    simp only [List.length_append, List.length_map] at h2 h3 hz
    rw [sizeLine_eq]; omega
  · rintro C x rem ys v R' Ft B₁ h₃ g₃ d₃ t₃ m₁ ⟨⟨dn, e, va⟩, th⟩ F₁ k₁ hv
    obtain ⟨rfl, _⟩ := hv
    have le1 : Le B B₁ := fun b ob e => k₁ b ob (upB b ob e).2 (upB b ob e).1
    have xm : x ∈ zs := by rw [← e]; simp
    obtain ⟨p, one⟩ := hx x.2 (List.mem_map_of_mem xm)
    obtain ⟨-, tk', tx⟩ := hzs x xm
    have one₁ : One w B₁ p x.2.2 := one.mv fun b ob _ e => le1 b ob e
    have tx₁ : TupAt B₁ x.1 [.int x.2.1 tk', .ref x.2.2.r] := tx.mv fun o e => le1 _ o e
    have G₁ := G.le le1
    refine kUnpack2 hh F₁ tx₁ fun h₄ B₄ F₄ K₄ => ?_
    refine kStore F₄ rfl (hk C) (ha C) fun h₅ t₅ F₅ => ?_
    refine kStore F₅ rfl (hk C) (hr C) fun h₆ t₆ F₆ => ?_
    have one₄ : One w B₄ p x.2.2 := one₁.mv fun b ob _ e => K₄ b ob e
    obtain ⟨oc, hc1, hc2⟩ := id hc
    have G₄ := G₁.le K₄
    show wpAny _ A (ForIn.forIn _ _ _) _ _ _
    rw [List.forIn_cons]
    simp only [if_true]
    refine wpAny_bind (wpAny_bind (wpAny_isTrue_Compare1 (eLocal3 (ha C) F₆ rfl (hk C) (by rw [if_neg (by decide)]; exact if_pos rfl) rfl (eCell3 (hd C) (hdc C) (hk C) rfl F₆ (⟨oc, K₄ _ _ (le1 _ _ hc1), hc2⟩) (hop _ _ _ _ _ _ _ _ (wpAny_truthy_bool ?_)))) hmark))
    refine wpAny_pure ?_
    show wpAny _ A (ForIn.forIn _ _ _) _ _ _
    rw [List.forIn_nil]
    refine wpAny_pure ?_
    have fil : ∀ b : Bool, ok x.2.1 k = b → ((dn ++ [x]).map (·.2)).filter (fun y => ok y.1 k) = (dn.map (·.2)).filter (fun y => ok y.1 k) ++ (if b then [x.2] else []) := fun b e => by
      rw [List.map_append, List.filter_append]
      simp only [List.map_cons, List.map_nil, List.filter_cons, List.filter_nil, e]
    cases hok : ok x.2.1 k with
    | false =>
      rw [if_neg Bool.false_ne_true]
      refine ⟨Ft, B₄, h₆, g₃, d₃, t₆, _, rfl, F₆, Le.kp K₄ none1, .refl _ _, ⟨⟨dn ++ [x], by simpa using e, ?_⟩, fun b q => let ⟨o, e⟩ := th b q; ⟨o, K₄ b o e⟩⟩, fun b q => ⟨let ⟨o, e⟩ := th b q; ⟨o, K₄ b o e⟩, .inl q⟩⟩
      rw [fil _ hok, if_neg Bool.false_ne_true, List.append_nil]
      exact va.mono fun x v ⟨T', u1, u2, a, b, c⟩ => ⟨T', u1, u2, a, b, c.mv fun o e => K₄ _ o e⟩
    | true =>
      rw [if_pos rfl]
      rw [arm_eval_Call_Name']
      refine wpAny_bind (eBuilt3 (v := Value.type "tuple") (ht C) rfl F₆ G₄ (by with_unfolding_all rfl) (hk C) (by decide) hg hb rfl ?_)
      refine callWith_type1 (spliced_cons ?_)
      obtain ⟨u3, u4, rowl⟩ := one₄.row
      refine kSlice3 F₆ rowl (fun _ _ => rfl) (fun Q' q => eLocal3 (hr C) F₆ rfl (hk C) (if_pos rfl) rfl q) fun D₇ h₇ B₇ t₇ F₇ K₇ l₇ n₇ => spliced_nil ?_
      refine kTupleL F₇ l₇ (by rw [sizeLine_eq]; simp) fun T h₈ B₈ F₈ K₈ q₈ n₈ => ?_
      have K48 := K₇.trans K₈
      refine ⟨fun b => Ft b ∨ b = T, B₈, h₈, g₃, d₃, t₇, _, rfl, F₈, Le.kp (K₄.trans K48) none1, .refl _ _, ⟨⟨dn ++ [x], by simpa using e, ?_⟩, fun b hb => ?_⟩, fun b hb => ⟨?_, ?_⟩⟩
      · rw [fil _ hok, if_pos rfl]
        exact (va.mono fun x v ⟨T', u1, u2, a, b, c⟩ => ⟨T', u1, u2, a, .inl b, c.mv fun o e => K48 _ o (K₄ _ o e)⟩).snoc ⟨T, u3, u4, rfl, .inr rfl, q₈⟩
      · rcases hb with hb | rfl
        · obtain ⟨o, e⟩ := th b hb; exact ⟨o, K48 b o (K₄ b o e)⟩
        · obtain ⟨n, e⟩ := q₈; exact ⟨_, e⟩
      · rcases hb with hb | rfl
        · obtain ⟨o, e⟩ := th b hb; exact ⟨o, K48 b o (K₄ b o e)⟩
        · obtain ⟨n, e⟩ := q₈; exact ⟨_, e⟩
      · rcases hb with hb | rfl
        · exact .inl hb
        · exact .inr (none_of (fun b o e => F₇.keep b o (K₇ b o (K₄ b o e))) n₈)
  · rintro ys Ft B₁ D h g d t ⟨⟨dn, e, va⟩, th⟩ F₁ k₁ l₁ nD kg
    rw [List.append_nil] at e
    subst e
    refine H D h g d t B₁ ys F₁ (fun b ob e => k₁ b ob (upB b ob e).2 (upB b ob e).1) l₁ ?_ (none_of k₂ nD) kg
    exact (va.mono (P' := fun x v => RowT B₁ (fun _ => True) x.2 v) fun x v ⟨T, u1, u2, a, b, c⟩ => ⟨T, u1, u2, a, trivial, c⟩).map
end

/-- a comprehension over range(n): j items are told -/
inductive RgJ (n : Nat) (P : Nat → List Value → Prop) (rem : List Int) (ys : List Value) : Prop
  | mk (j : Nat) (h1 : j ≤ n) (h2 : rem = (List.range' j (n - j)).map fun k : Nat => (k : Int)) (h3 : P j ys) : RgJ n P rem ys
section
variable {w : World} {A : Around} {E : Value → Shared → Prop} {B h : Heap} {L : Addr} {m : Str → Option Value} {g : Array GenState} {d : Drawn} {t : Nat} {o : OsState}
/-- range(n) at a -/
def RgAt (h : Heap) (a : Addr) (n : Nat) : Prop := ∃ t u v, IsRange h a 0 (n : Int) 1 t u v
theorem kRange {n : Nat} {u : Tok} {Q : Value → Shared → Prop} (F : Fm B L h m)
    (H : ∀ D h' B' t', Fm B' L h' m → Le B B' → RgAt B' D n → h.get? D = none → Q (.ref D) ⟨h', g, d, t', o⟩) :
    wpAny (model pr w) A (call (.type "range") [.int (n : Int) u]) Q E ⟨h, g, d, t, o⟩ := by
  refine call_range_1 ?_
  obtain ⟨B', F', l, e, n1, n2⟩ := kPush (ob := { cls := .type "range", data := .fields #[.int 0 t, .int (n : Int) u, .int 1 (t + 1)] }) F rfl
  exact H _ _ B' _ F' l ⟨_, _, _, e⟩ n2
theorem ints0 (n : Nat) : (List.range' 0 n).map (fun k : Nat => (k : Int)) = (List.range n).map (fun k : Nat => (k : Int)) := by rw [List.range_eq_range']
theorem kIterR {a : Addr} {n : Nat} {Q : Value → Shared → Prop} (F : Fm B L h m) (hr : RgAt B a n) (hz : n < 2 ^ 60)
    (H : ∀ it h' B', Fm B' L h' m → Le B B' → Le h h' → h.get? it = none → RIt it ((List.range n).map fun k : Nat => (k : Int)) none1 (fun b => b = it) noneG h' g → Q (.ref it) ⟨h', g, d, t, o⟩) :
    wpAny (model pr w) A (pyIter (.ref a)) Q E ⟨h, g, d, t, o⟩ := by
  obtain ⟨t1, u, v, e⟩ := hr
  have e' := F.keep _ _ e
  refine wpAny_pyIter_range e' ?_ ?_
  · exact small_one (by omega) (by omega) (by omega) (by omega)
  have sz : Builtin.Range.rangeSize 0 (n : Int) 1 = (n : Int) := by
    unfold Builtin.Range.rangeSize
    rw [if_pos (by decide)]
    split <;> omega
  rw [sz]
  obtain ⟨B', F', l, e2, n1, n2⟩ := kPush (ob := { cls := .type "range_iterator", data := .fields #[rawInt 0, rawInt n, rawInt 1] }) F rfl
  have k : Le h (h.push { cls := .type "range_iterator", data := .fields #[rawInt 0, rawInt n, rawInt 1] }) := fun b o e => Heap.get?_push_of_some _ e
  exact H _ _ B' F' l k n2 ⟨fun _ => id, fun _ => Iff.rfl, fun _ => id, 0, n, Heap.get?_push_size _ rfl, (ints0 n).symm⟩
theorem kMin {a b : Int} {u v : Tok} {Q : Value → Shared → Prop} (hh : A.handled = none) (F : Fm B L h m)
    (H : ∀ h' B' t' tk, Fm B' L h' m → Le B B' → Q (.int (min a b) tk) ⟨h', g, d, t', o⟩) :
    wpAny (model pr w) A (call (.builtin "min") [.int a u, .int b v]) Q E ⟨h, g, d, t, o⟩ := by
  refine min_two_ints hh fun h' tk k => ?_
  have k' : Le h h' := k
  obtain ⟨B', F', kB, up⟩ := F.after (k'.kp none1) id
  split
  · have := H h' B' tk v F' kB.le
    rwa [Int.min_eq_right (by omega)] at this
  · have := H h' B' tk u F' kB.le
    rwa [Int.min_eq_left (by omega)] at this
end

noncomputable def Fo.prs : Fo → List (Addr × Addr × Nat)
  | .nil => []
  | .cons x k r => (x.a, x.r, k.size) :: r.prs
noncomputable def sumP : List (Addr × Addr × Nat) → Nat
  | [] => 0
  | y :: l => y.2.2 + 1 + sumP l
theorem sumP_app : ∀ (a b : List (Addr × Addr × Nat)), sumP (a ++ b) = sumP a + sumP b
  | [], b => by simp [sumP]
  | y :: a, b => by simp only [List.cons_append, sumP, sumP_app a b]; omega
theorem sumP_prs : ∀ f : Fo, sumP f.prs = f.size
  | .nil => rfl
  | .cons x k r => by simp only [Fo.prs, sumP, Fo.size, sumP_prs r]; omega
theorem refs_prs : ∀ f : Fo, f.refs = f.prs.map fun y => .ref y.1
  | .nil => rfl
  | .cons x k r => by simp [Fo.refs, Fo.prs, refs_prs r]
theorem rrefs_prs : ∀ f : Fo, f.rrefs = f.prs.map fun y => .ref y.2.1
  | .nil => rfl
  | .cons x k r => by simp [Fo.rrefs, Fo.prs, rrefs_prs r]
theorem prs_len : ∀ f : Fo, f.prs.length ≤ f.size
  | .nil => Nat.le_refl _
  | .cons x k r => by have := prs_len r; simp only [Fo.prs, Fo.size, List.length_cons]; omega
/-- n and r are a node (or the root) and its row (or the tree) -/
def PairOk (w : World) (h : Heap) (y : Addr × Addr × Nat) : Prop := ∃ C dd c rc ks, Cls C ∧ Nd h C y.1 dd c ∧ ListAt h c ks.refs ∧ RowAt h y.2.1 rc ∧ ListAt h rc ks.rrefs ∧ Tr w h y.1 ks ∧ ks.size = y.2.2 ∧ ks.size ≤ 40
theorem PairOk.le {w : World} {h h' : Heap} {y} (x : PairOk w h y) (k : Le h h') : PairOk w h' y :=
  let ⟨C, dd, c, rc, ks, a, b, c', d, e, f, g⟩ := x; ⟨C, dd, c, rc, ks, a, b.mv fun _ _ _ e => k _ _ e, c'.le k, d.le k, e.le k, f.mv fun _ _ _ e => k _ _ e, g⟩
theorem Tr.pairs {w : World} {h : Heap} : ∀ {p : Addr} {f : Fo}, Tr w h p f → f.size ≤ 40 → ∀ y ∈ f.prs, PairOk w h y
  | _, .nil, _, _, y, hy => by simp [Fo.prs] at hy
  | p, .cons x ks r, ⟨q1, q2, q3, q4, q5⟩, hs, y, hy => by
    simp only [Fo.size] at hs
    simp only [Fo.prs, List.mem_cons] at hy
    rcases hy with rfl | hy
    · exact ⟨80, x.d, x.c, x.rc, ks, .inr rfl, q1.Nd, q2, q1.rowAt, q3, q4, rfl, by omega⟩
    · exact q5.pairs (by omega) y hy
def PairT (h : Heap) (y : Addr × Addr × Nat) (v : Value) : Prop := ∃ T, v = .ref T ∧ TupAt h T [.ref y.1, .ref y.2.1]
theorem PairT.mv {h h' : Heap} {y v} (x : PairT h y v) (k : ∀ T xs, TupAt h T xs → TupAt h' T xs) : PairT h' y v := let ⟨T, a, b⟩ := x; ⟨T, a, k _ _ b⟩
theorem TupAt.ne_list {h : Heap} {a b : Addr} {xs ys : List Value} (x : TupAt h a xs) (y : ListAt h b ys) : a ≠ b := fun q => by
  obtain ⟨n, e⟩ := x; obtain ⟨k, e'⟩ := y; rw [q, e'] at e; have e1 := congrArg (fun o => o.map (·.cls)) e; simp at e1
theorem TupAt.ne_cell {h : Heap} {a b : Addr} {xs : List Value} {v} (x : TupAt h a xs) (y : h.IsCell b v) : a ≠ b := fun q => by
  obtain ⟨n, e⟩ := x; obtain ⟨o, e', d⟩ := y; rw [q, e'] at e; cases e; cases d
theorem ListAt.ne_cell {h : Heap} {a b : Addr} {xs : List Value} {v} (x : ListAt h a xs) (y : h.IsCell b v) : a ≠ b := fun q => by
  obtain ⟨n, e⟩ := x; obtain ⟨o, e', d⟩ := y; rw [q, e'] at e; cases e; cases d
theorem ValsAre.app {α : Type} {P : α → Value → Prop} : ∀ {xs ys : List α} {vs us : List Value}, ValsAre P xs vs → ValsAre P ys us → ValsAre P (xs ++ ys) (vs ++ us)
  | [], _, [], _, _, h => h
  | x :: xs, _, v :: vs, _, a, h => ⟨a.1, ValsAre.app a.2 h⟩
  | [], _, _ :: _, _, h, _ => h.elim
  | _ :: _, _, [], _, h, _ => h.elim
section
variable {w : World} {z : Nat} {A : Around} {E : Value → Shared → Prop} {B h : Heap} {L : Addr} {m : Str → Option Value} {g : Array GenState} {d : Drawn} {t : Nat} {o : OsState}
theorem lExtend {a b : Addr} {xs ys : List Value} {Q : Value → Shared → Prop} (F : Fm B L h m) (hl : ListAt B a xs) (hy : ListAt B b ys) (hz : xs.length + ys.length ≤ 900)
    (H : ∀ h' B', Fm B' L h' m → Kp (fun b => b = a) B B' → ListAt B' a (xs ++ ys) → Q .none ⟨h', g, d, t, o⟩) :
    wpAny (model pr w) A (call (.builtin "list.extend") [.ref a, .ref b]) Q E ⟨h, g, d, t, o⟩ := by
  obtain ⟨n2, e2⟩ := hy
  have e2' := F.keep _ _ e2
  obtain ⟨n, e⟩ := hl
  have e' := F.keep _ _ e
  have hg : ∃ n', (h.update a (Obj.mapSeq fun x => x ++ ys.toArray)).get? a = some { cls := .type "list", data := .seq (xs ++ ys).toArray n' } := by
    refine ⟨if (xs.toArray ++ ys.toArray).size == xs.toArray.size then n else n + 1, ?_⟩
    rw [Heap.get?_update_self (Obj.mapSeq fun x => x ++ ys.toArray) e' (by simp only [Obj.mapSeq]; rfl)]
    simp [Obj.mapSeq]
  obtain ⟨n', hg⟩ := hg
  obtain ⟨B', F', hs', hg'⟩ := F.mut e (Heap.SameBut.update ..) hg
  refine call_meets PySem.F.slot_list_extend ⟨_, e', rfl⟩ PySem.F.entry_list_extend (PySem.F.args_list_extend_2 _ _) (PySem.AutoSeq1.list_extend_list_list_0 a xs.toArray n b ys.toArray n2 ?_ ?_ ?_) ⟨e', e2', H _ B' F' (.of_same hs') ⟨n', hg'⟩⟩
  · simp only [Builtin.List.listTooLong, List.size_toArray, sizeLine_eq, Bool.and_eq_true, decide_eq_true_eq, not_and]; omega
  · rw [sizeLine_eq, List.size_toArray]; omega
  · rw [sizeLine_eq, List.size_toArray, List.size_toArray]; omega
end
/-- what a turn of _law_pairs' loop keeps -/
inductive PwJ (w : World) (h₀ h : Heap) (g : Array GenState) (o : OsState) (D : Addr) (n : Nat) (s : Shared) : Prop
  | mk (i : Nat) (vs : List Value) (ps : List (Addr × Addr × Nat)) (B' h' : Heap) (g' : Array GenState) (d' : Drawn) (t' : Nat) (tk : Tok) (m' : Str → Option Value) (e : s = ⟨h', g', d', t', o⟩) (F : Fm B' h.objs.size h' m')
    (m1 : m' (Str.ofString "found") = some (.ref D)) (m2 : m' (Str.ofString "at") = some (.int (i : Int) tk)) (l : ListAt B' D vs) (v : ValsAre (PairT B') ps vs) (po : ∀ y ∈ ps, PairOk w h₀ y) (c1 : ∃ v1, B'.IsCell (h.objs.size + 1) v1) (c2 : ∃ v2, B'.IsCell (h.objs.size + 2) v2)
    (k : Le h B') (kg : KpG noneG g g') (hi : i ≤ ps.length) (hn : n = sumP (ps.drop i)) (hs : i + n ≤ 41) : PwJ w h₀ h g o D n s
section
variable {w : World} {z : Nat} {A : Around} {E : Value → Shared → Prop} {h : Heap} {g : Array GenState} {d : Drawn} {t : Nat} {o : OsState}
theorem pairs_spec {R : Rad} {f : Fo} {h₀ : Heap} {Q : Value → Shared → Prop} (G : Grd w z h) (r : Rm A 10) (X : Whole w z h₀ R f) (l0 : Le h₀ h)
    (H : ∀ D h' g' d' t' ps vs, Le h h' → KpG noneG g g' → ListAt h' D vs → ValsAre (PairT h') ps vs → (∀ y ∈ ps, PairOk w h₀ y) → h.get? D = none → vs.length ≤ 41 → Q (.ref D) ⟨h', g', d', t', o⟩) :
    wpAny (model pr w) A (call (.ref 118) [.ref R.rt, .ref R.tr]) Q E ⟨h, g, d, t, o⟩ := by
  refine callFC (binds := [(Str.ofString "root", .ref R.rt), (Str.ofString "tree", .ref R.tr)]) G rfl rfl rfl rfl (by have := r.dp; omega) rfl rfl rfl rfl rfl rfl ?_
  intro h₁ B₁ t₁ F₁ K₁ cf env A'
  have rA : Rm A' 9 := r.deeper
  have G₁ := G.le K₁
  have c1 : B₁.IsCell (h.objs.size + 1) none ∧ h.get? (h.objs.size + 1) = none ∧ z ≤ h.objs.size + 1 := cf (Str.ofString "node") _ rfl
  have c2 : B₁.IsCell (h.objs.size + 2) none ∧ h.get? (h.objs.size + 2) = none ∧ z ≤ h.objs.size + 2 := cf (Str.ofString "row") _ rfl
  repeat' walk1
  rename_i T h₂ B₂ F₂ K₂ lT nT nhT zzT K₂' D h₃ B₃ F₃ K₃ lD nD nhD zzD K₃' h₄ t₄ F₄ tk t₅ h₅ t₆ F₅
  have nDh : h.get? D = none := none_of (fun b ob e => K₂ b ob (K₁ b ob e)) nD
  refine wpAny_While (codeAny_whileLoop (PwJ w h₀ h g o D) ?turn (f.size + 1) ?init)
  case init =>
    have PO : PairOk w h₀ (R.rt, R.tr, f.size) := ⟨59, R.rd, R.rc, R.trc, f, .inl rfl, X.nd, X.kids, X.rowAt, X.rws, X.tr, rfl, X.sz⟩
    have le13 : Le B₁ B₃ := fun b ob e => K₃ _ _ (K₂ _ _ e)
    refine ⟨0, [.ref T], [(R.rt, R.tr, f.size)], B₃, h₅, g, d, _, tk, _, rfl, F₅, ?_, if_pos rfl, lD, ⟨⟨T, rfl, lT.mv fun _ e => K₃ _ _ e⟩, trivial⟩, ?_, ⟨_, c1.1.keeps le13⟩, ⟨_, c2.1.keeps le13⟩, K₁.trans le13, .refl _ _, by simp, by simp [sumP], by have := X.sz; omega⟩
    · show (if _ then _ else _) = _
      rw [if_neg (by decide)]; exact if_pos rfl
    · intro y hy
      rw [List.mem_singleton] at hy
      subst hy; exact PO
  case turn =>
    rintro n s ⟨i, vs, ps, B', h', g', d', t', tk', m', rfl, F', mf, ma, lD', va, po, ⟨v1, hc1⟩, ⟨v2, hc2⟩, le', kg', hi, hn, hle⟩
    have G' := G.le le'
    have vl := va.len
    have sl : ∀ l : List (Addr × Addr × Nat), l.length ≤ sumP l := fun l => by
      induction l with
      | nil => exact Nat.le_refl _
      | cons y l ih => simp only [List.length_cons, sumP]; omega
    have sl1 := sl (ps.drop i)
    rw [List.length_drop] at sl1
    repeat' walk1
    · rename_i tk2 t2 hlt
      have hlt' : i < ps.length := by omega
      obtain ⟨y, hy⟩ : ∃ y, ps[i]? = some y := ⟨_, List.getElem?_eq_getElem hlt'⟩
      obtain ⟨v, hv, T', rfl, tT⟩ := va.at _ _ hy
      obtain ⟨C, dd, c, rc, ks, hC, nd, lc, ⟨ra1, ra2, ra3, lr⟩, lrc, tr, hks, hk40⟩ := po y (List.mem_of_getElem? hy)
      refine eItem F' lD' (by omega) (by omega) (v := .ref T') (by simpa using hv) (by with_unfolding_all rfl) ?_
      refine kUnpack2 rA.hh F' tT fun h₆ B₆ F₆ K₆ => ?_
      refine kStoreC F₆ (hc1.keeps K₆) rfl rfl rfl fun h₇ B₇ F₇ K₇ c7 => ?_
      refine kStoreC F₇ (IsCell.kp (hc2.keeps K₆) K₇ (show ¬ h.objs.size + 2 = h.objs.size + 1 by omega)) rfl rfl rfl fun h₈ B₈ F₈ K₈ c8 => ?_
      have c7' := IsCell.kp c7 K₈ (show ¬ h.objs.size + 1 = h.objs.size + 2 by omega)
      have k68 : ∀ b ob, b ≠ h.objs.size + 1 → b ≠ h.objs.size + 2 → B'.get? b = some ob → B₈.get? b = some ob := fun b ob n1 n2 e => K₈ b ob n2 (K₇ b ob n1 (K₆ b ob e))
      have le8 : Le h B₈ := fun b ob e => k68 b ob (ne_of e c1.2.1) (ne_of e c2.2.1) (le' b ob e)
      have lD₈ : ListAt B₈ D vs := lD'.mv fun o e => k68 _ _ (lD'.ne_cell hc1) (lD'.ne_cell hc2) e
      have va₈ : ValsAre (PairT B₈) ps vs := va.mono fun y v ⟨T, a, b⟩ => ⟨T, a, b.mv fun o e => k68 _ _ (b.ne_cell hc1) (b.ne_cell hc2) e⟩
      have G₈ := G.le le8
      have le08 := l0.trans le8
      have nd₈ := nd.mv fun b ob _ e => le08 b ob e
      have lc₈ := lc.le le08
      have lr₈ := lr.le le08
      have lrc₈ := lrc.le le08
      clear lr lrc lc nd F' lD' va hc1 hc2 G' F₆ F₇ c7 K₆ K₇ K₈ k68 tT hv F₅ F₄ F₃ F₂ lD lT F₁ K₁ K₂ K₃ K₂' K₃' G₁ le'
      have e1 : ks.rrefs.length = ks.prs.length := by rw [rrefs_prs, List.length_map]
      have e2 : ks.refs.length = ks.prs.length := by rw [refs_prs, List.length_map]
      have e3 := prs_len ks
      have rA1 : A'.handled = none := rA.hh
      repeat' walk1
      refine lcRule (L := h.objs.size) rfl rfl rfl rfl (fun _ => rfl) ?_
      repeat' walk1
      rename_i u1 t9 u2 t10 t11 u3 t12
      have hmin : min ((ks.rrefs.length : Nat) : Int) ((ks.refs.length : Nat) : Int) = ((ks.prs.length : Nat) : Int) := by rw [e1, e2]; exact Int.min_eq_left (Int.le_refl _)
      refine kMin rA1 F₈ fun h₉ B₉ t₁₃ u4 F₉ K₉ => spliced_nil ?_
      rw [hmin]
      refine kRange F₉ fun rg h₁₀ B₁₀ t₁₄ F₁₀ K₁₀ rgA nrg => ?_
      refine kIterR F₁₀ rgA (by omega) fun it h₁₁ B₁₁ F₁₁ K₁₁ k₁₁ nit I₁₁ => ?_
      have up11 : ∀ b ob, B₈.get? b = some ob → B₁₁.get? b = some ob ∧ b ≠ it := fun b ob e =>
        ⟨K₁₁ _ _ (K₁₀ _ _ (K₉ _ _ e)), fun q => by have := F₁₀.keep _ _ (K₁₀ _ _ (K₉ _ _ e)); rw [q, nit] at this; cases this⟩
      obtain ⟨oL, eL⟩ := F₁₀.there
      have nLit : ¬ h.objs.size = it := fun q => by rw [q, nit] at eL; cases eL
      rw [List.range_eq_range'] at I₁₁
      clear F₈ F₉ F₁₀ rgA nit K₁₁ K₁₀ K₉ eL hmin
      refine ⟨_, _, _, (List.range' 0 ks.prs.length).map (fun k : Nat => (k : Int)), none1, fun b => b = it, noneG, B₁₁, m', fun rem ys Ft B₁ => RgJ ks.prs.length (fun j ys => ValsAre (fun y v => ∃ T, v = .ref T ∧ Ft T ∧ TupAt B₁ T [.ref y.1, .ref y.2.1]) (ks.prs.take j) ys) rem ys ∧ ∀ b, Ft b → ∃ o, B₁.get? b = some o, itr_range rA1, I₁₁, F₁₁, nLit, fun _ _ _ q _ => wpAny_pure q, ?_, ?_, fun B₁ => ⟨⟨0, Nat.zero_le _, rfl, trivial⟩, fun b q => q.elim⟩, ?_, ?_⟩
      · rintro rem ys Ft B₁ B₂ ⟨⟨j, e, e', v⟩, th⟩ k
        exact ⟨⟨j, e, e', v.mono fun x v ⟨T, a, b, c⟩ => ⟨T, a, b, c.mv fun o e => k _ o b e⟩⟩, fun b q => let ⟨o, e⟩ := th b q; ⟨o, k b o q e⟩⟩
      · rintro rem ys Ft B₁ ⟨⟨j, e, e', v⟩, th⟩
        have := v.len
        rw [List.length_take] at this
        rw [sizeLine_eq]; omega
      · rintro C' x rem ys v R' Ft B₁ hh gg dd' tt m₁ ⟨⟨j, hj, hr, va'⟩, th⟩ F₁' k₁ ⟨⟨tv, rfl⟩, _⟩
        have le1 : Le B₈ B₁ := fun b ob e => k₁ b ob (up11 b ob e).2 (up11 b ob e).1
        have hj' : j < ks.prs.length := by
          rcases Nat.lt_or_ge j ks.prs.length with q | q
          · exact q
          · rw [show ks.prs.length - j = 0 by omega] at hr; simp at hr
        rw [show ks.prs.length - j = (ks.prs.length - (j + 1)) + 1 by omega, List.range'_succ, List.map_cons, List.cons.injEq] at hr
        obtain ⟨rfl, rfl⟩ := hr
        obtain ⟨yk, hyk⟩ : ∃ yk, ks.prs[j]? = some yk := ⟨_, List.getElem?_eq_getElem hj'⟩
        have r1 : ks.refs[((j : Nat) : Int).toNat]? = some (.ref yk.1) := by rw [refs_prs, List.getElem?_map]; simp [hyk]
        have r2 : ks.rrefs[((j : Nat) : Int).toNat]? = some (.ref yk.2.1) := by rw [rrefs_prs, List.getElem?_map]; simp [hyk]
        have G₁' := G₈.le le1
        have nd₁' := nd₈.mv fun b ob _ e => le1 b ob e
        have lc₁' := lc₈.le le1
        have lr₁' := lr₈.le le1
        have lrc₁' := lrc₈.le le1
        have cn' := c7'.keeps le1
        have cr' := c8.keeps le1
        refine wpAny_assign_Name (kStore F₁' rfl rfl rfl fun h₂ t₂ F₂ => ?_)
        refine wpAny_pure ?_
        rw [if_pos rfl]
        clear G₈ nd₈ lc₈ lr₈ lrc₈ c7' c8 F₁' F₁₁ I₁₁ va₈ lD₈ le8
        repeat' walk1
        rename_i t15 u5 t16 T₃ h₃ B₃ F₃ K₃ l₃ n₃ nh₃ zz₃ K₃'
        refine ⟨fun b => Ft b ∨ b = T₃, B₃, h₃, gg, dd', _, _, rfl, F₃, K₃', .refl _ _, ⟨⟨j + 1, hj', rfl, ?_⟩, ?_⟩, ?_⟩
        · rw [List.take_add_one, hyk]
          exact (va'.mono fun y v ⟨T, a, b, c⟩ => ⟨T, a, .inl b, c.mv fun o e => K₃ _ o e⟩).snoc ⟨T₃, rfl, .inr rfl, l₃⟩
        · rintro b (hb | rfl)
          · obtain ⟨o, e⟩ := th b hb; exact ⟨o, K₃ _ _ e⟩
          · obtain ⟨q, e⟩ := l₃; exact ⟨_, e⟩
        · rintro b (hb | rfl)
          · obtain ⟨o, e⟩ := th b hb; exact ⟨⟨o, K₃ _ _ e⟩, .inl hb⟩
          · obtain ⟨q, e⟩ := l₃; exact ⟨⟨_, e⟩, .inr n₃⟩
      · rintro ys Ft B₁ D₂ hh gg dd' tt ⟨⟨j, hj, hr, va'⟩, th⟩ F₁' k₁ l₁ nD₂ kg₁
        have hj' : j = ks.prs.length := by
          have := congrArg List.length hr
          simp only [List.length_nil, List.length_map, List.length_range'] at this
          omega
        subst hj'
        rw [List.take_length] at va'
        have le1 : Le B₈ B₁ := fun b ob e => k₁ b ob (up11 b ob e).2 (up11 b ob e).1
        have lD' := lD₈.le le1
        have vl2 := va'.len
        have G₁' := G₈.le le1
        refine lExtend F₁' lD' l₁ (by omega) fun h₁₂ B₁₂ F₁₂ K₁₂ l₁₂ => ?_
        have cn' := IsCell.kp (c7'.keeps le1) K₁₂ (fun q => (lD'.ne_cell (c7'.keeps le1)) q.symm)
        have cr' := IsCell.kp (c8.keeps le1) K₁₂ (fun q => (lD'.ne_cell (c8.keeps le1)) q.symm)
        clear G₈ nd₈ lc₈ lr₈ lrc₈ c7' c8 F₁' F₁₁ I₁₁ l₁ G₁'
        iterate 8 walk1
        rename_i t17 u6 t18 h₁₃ t19 F₁₃
        have hdrop : ps.drop i = y :: ps.drop (i + 1) := by
          rw [List.drop_eq_getElem_cons hlt']
          rw [List.getElem?_eq_getElem hlt'] at hy
          rw [Option.some.inj hy]
        refine ⟨sumP ((ps ++ ks.prs).drop (i + 1)), ?_, i + 1, vs ++ ys, ps ++ ks.prs, B₁₂, h₁₃, gg, dd', _, _, _, rfl, F₁₃, ?_, if_pos rfl, l₁₂, ?_, ?_, ⟨_, cn'⟩, ⟨_, cr'⟩, ?_, ?_, ?_, rfl, ?_⟩
        · rw [List.drop_append_of_le_length (by omega), sumP_app, sumP_prs, hn, hdrop]
          simp only [sumP]; omega
        · show (if _ then _ else _) = _
          rw [if_neg (by decide)]; exact mf
        · have k12 : ∀ T xs, TupAt B₁ T xs → TupAt B₁₂ T xs := fun T xs q => q.kp K₁₂ (q.ne_list lD')
          exact (va₈.mono fun y v ⟨T, a, b⟩ => ⟨T, a, k12 _ _ (b.mv fun o e => le1 _ _ e)⟩).app (va'.mono fun y v ⟨T, a, _, b⟩ => ⟨T, a, k12 _ _ b⟩)
        · intro q hq
          rcases List.mem_append.mp hq with hq | hq
          · exact po q hq
          · exact tr.pairs hk40 q hq
        · exact fun b ob e => K₁₂ b ob (ne_of e nDh) (le1 b ob (le8 b ob e))
        · exact kg'.step kg₁ fun _ q => q.elim
        · rw [List.length_append]; omega
        · rw [List.drop_append_of_le_length (by omega), sumP_app, sumP_prs]
          rw [hn, hdrop] at hle
          simp only [sumP] at hle; omega
    · exact H D h' g' d' _ ps vs (le'.trans F'.keep) kg' (lD'.le F'.keep) (va.mono fun y v ⟨T, a, b⟩ => ⟨T, a, b.mv fun o e => F'.keep _ _ e⟩) po nDh (by omega)
end

theorem TupAt.ne_ns {h : Heap} {a b : Addr} {xs : List Value} {m} (x : TupAt h a xs) (y : h.Ns b m) : a ≠ b := fun q => by
  obtain ⟨n, e⟩ := x; obtain ⟨o, es, ep, e', d, _⟩ := y; rw [q, e'] at e; cases e; cases d
theorem ListAt.ne_ns {h : Heap} {a b : Addr} {xs : List Value} {m} (x : ListAt h a xs) (y : h.Ns b m) : a ≠ b := fun q => by
  obtain ⟨n, e⟩ := x; obtain ⟨o, es, ep, e', d, _⟩ := y; rw [q, e'] at e; cases e; cases d
theorem PairT.zip {h : Heap} : ∀ {ps : List (Addr × Addr × Nat)} {vs : List Value}, ValsAre (PairT h) ps vs → ∃ Ts : List (Addr × Addr × Addr × Nat), Ts.map (fun y => Value.ref y.1) = vs ∧ Ts.map (·.2) = ps ∧ ∀ y ∈ Ts, TupAt h y.1 [.ref y.2.1, .ref y.2.2.1]
  | [], [], _ => ⟨[], rfl, rfl, fun _ q => by cases q⟩
  | p :: ps, v :: vs, ⟨⟨T, e, q⟩, r⟩ => by
    obtain ⟨Ts, a, b, c⟩ := PairT.zip r
    refine ⟨(T, p) :: Ts, by simp [a, e], by simp [b], fun y hy => ?_⟩
    rcases List.mem_cons.mp hy with rfl | hy
    · exact q
    · exact c y hy
  | [], _ :: _, h => h.elim
  | _ :: _, [], h => h.elim
theorem lv_one {w : World} {h : Heap} : ∀ (k : Nat) {p : Addr} {f : Fo} (pc : Addr), Tr w h p f → ∀ x ∈ lv k f pc, ∃ p', One w h p' x.1
  | _, _, .nil, pc, _, x, hx => by simp [lv] at hx
  | 0, p, .cons y ks r, pc, ⟨q1, q2, q3, q4, q5⟩, x, hx => by
    simp only [lv, List.mem_cons] at hx
    rcases hx with rfl | hx
    · exact ⟨p, q1⟩
    · exact lv_one 0 pc q5 x hx
  | k + 1, p, .cons y ks r, pc, ⟨q1, q2, q3, q4, q5⟩, x, hx => by
    simp only [lv, List.mem_append] at hx
    rcases hx with hx | hx
    · exact lv_one k y.c q4 x hx
    · exact lv_one (k + 1) pc q5 x hx
theorem wk_one {w : World} {h : Heap} : ∀ (k : Nat) {p : Addr} {f : Fo} (pc : Addr), Tr w h p f → ∀ x ∈ wk k f pc, ∃ p', One w h p' x.1
  | _, _, .nil, pc, _, x, hx => by simp [wk] at hx
  | 0, p, .cons y ks r, pc, ⟨q1, q2, q3, q4, q5⟩, x, hx => by
    simp only [wk, List.mem_cons] at hx
    rcases hx with rfl | hx
    · exact ⟨p, q1⟩
    · exact wk_one 0 pc q5 x hx
  | k + 1, p, .cons y ks r, pc, ⟨q1, q2, q3, q4, q5⟩, x, hx => by
    simp only [wk, List.mem_append, List.mem_cons] at hx
    rcases hx with hx | rfl | hx
    · exact wk_one k y.c q4 x hx
    · exact ⟨p, q1⟩
    · exact wk_one (k + 1) pc q5 x hx
theorem rows_one {w : World} {h : Heap} : ∀ (j : Int) {p : Addr} {f : Fo}, Tr w h p f → ∀ x ∈ rows j f, ∃ p', One w h p' x.2
  | _, _, .nil, _, x, hx => by simp [rows] at hx
  | j, p, .cons y ks r, ⟨q1, q2, q3, q4, q5⟩, x, hx => by
    simp only [rows, List.mem_append, List.mem_cons] at hx
    rcases hx with hx | rfl | hx
    · exact rows_one (j + 1) q4 x hx
    · exact ⟨p, q1⟩
    · exact rows_one j q5 x hx
theorem lv_len : ∀ (k : Nat) (f : Fo) (pc : Addr), (lv k f pc).length ≤ f.size
  | k, .nil, pc => by simp [lv]
  | 0, .cons x ks r, pc => by have := lv_len 0 r pc; simp only [lv, List.length_cons, Fo.size]; omega
  | k + 1, .cons x ks r, pc => by have := lv_len k ks x.c; have := lv_len (k + 1) r pc; simp only [lv, List.length_append, Fo.size]; omega
theorem wk_len : ∀ (k : Nat) (f : Fo) (pc : Addr), (wk k f pc).length ≤ f.size
  | k, .nil, pc => by simp [wk]
  | 0, .cons x ks r, pc => by have := wk_len 0 r pc; simp only [wk, List.length_cons, Fo.size]; omega
  | k + 1, .cons x ks r, pc => by have := wk_len k ks x.c; have := wk_len (k + 1) r pc; simp only [wk, List.length_append, List.length_cons, Fo.size]; omega
section
variable {w : World} {z : Nat} {A : Around} {E : Value → Shared → Prop} {h : Heap} {g : Array GenState} {d : Drawn} {t : Nat} {o : OsState}
theorem rightCmp {a b : Addr} {xs : List NLab} {ys zs : List Value} {N N' : Addr → Prop} {Q : Value → Shared → Prop} (r : Rm A 5) (ha : ListAt h a ys) (hb : ListAt h b zs) (va : ValsAre (BareT h N) xs ys) (vb : ValsAre (RowT h N') xs zs)
    (ho : ∀ x ∈ xs, ∃ p, One w h p x) (H : Q (.bool false) ⟨h, g, d, t, o⟩) : wpAny (model pr w) A (compareOp .NotEq (.ref a) (.ref b)) Q E ⟨h, g, d, t, o⟩ := by
  have la := va.len
  have lb := vb.len
  have r1 : Rm A.in1 4 := r.in1
  have r2 : Rm A.in1.in1 3 := r1.in1
  have r3 : Rm A.in1.in1.in1 2 := r2.in1
  refine neLists (by have := r.un; omega) ha hb (by rw [la, lb]) (fun j h1 h2 => ?_) H
  obtain ⟨v, hv, T, u1, u2, rfl, -, q1⟩ := va.at j _ (List.getElem?_eq_getElem (by omega))
  obtain ⟨v', hv', T', u3, u4, rfl, -, q2⟩ := vb.at j _ (List.getElem?_eq_getElem (by omega))
  rw [List.getElem?_eq_getElem h1] at hv
  rw [List.getElem?_eq_getElem h2] at hv'
  rw [Option.some.inj hv, Option.some.inj hv']
  obtain ⟨p, one⟩ := ho _ (List.getElem_mem (show j < xs.length by omega))
  refine EqW.tup (by have := r1.un; omega) q1 q2 rfl fun p hp => ?_
  simp only [List.zip_cons_cons, List.zip_nil_right, List.mem_cons, List.not_mem_nil, or_false] at hp
  rcases hp with rfl | rfl | rfl
  · exact EqW.str
  · exact EqW.str
  · exact fun E Q q => eqSets (by have := r2.un; omega) one.s1 one.s2 q
/-- at_depth or walk_up at the root, ready to be walked -/
theorem genIter {fa : Addr} {ls : Nat → Fo → Addr → List (NLab × Addr)} {k : Nat} (S : GenSpec w z fa ls k) {R : Rad} {f : Fo} {tk : Tok} {B : Heap} {L : Addr} {m : Str → Option Value} {Q : Value → Shared → Prop} (G : Grd w z B) (F : Fm B L h m) (r : Rm A (2 * k + 4)) (X : Whole w z B R f) (zL : z ≤ L)
    (H : ∀ ga gi h' t' Rr W GF g' B', GSt w z (2 * k + 2) vl ga gi (ls k f R.rc) Rr W GF h' g' → Fm B' L h' m → Le B B' → KpG noneG g g' → ¬ W L → ¬ Rr L → (∀ b ob, B.get? b = some ob → B'.get? b = some ob ∧ ¬ W b) →
      (∀ b ob, B.get? b = some ob → Rr b → (b < z) ∨ b = R.rt ∨ b = R.rd ∨ b ∈ R.rc :: Rd k f) → (∀ g₁, KpG GF g' g₁ → KpG noneG g g₁) → Q (.ref ga) ⟨h', g', d, t', o⟩) :
    wpAny (model pr w) A (call (.ref fa) [.ref R.rt, .int k tk]) (fun x s => wpAny (model pr w) A (pyIter x) Q E s) E ⟨h, g, d, t, o⟩ := by
  obtain ⟨oL, eL⟩ := F.there
  refine rootGen S (G.le F.keep) (r.le (by omega)) (X.mv F.keep) fun ga h' t' Rr W GF g' S' le gx hw hr hgf => ?_
  refine (itr_gen (w := w) (z := z) (val := vl) (r.le (show 2 * k + 2 + 1 ≤ 2 * k + 4 by omega)) ga g.size).self _ _ _ _ ⟨h', g', d, t', o⟩ _ _ S' ?_
  obtain ⟨B', F', K', up⟩ := F.after (Le.kp le none1) id
  have kk : ∀ g₁, KpG GF g' g₁ → KpG noneG g g₁ := fun g₁ kg => by
    obtain ⟨gx, rfl, gb⟩ := gx
    refine ⟨fun i x _ e => kg.1 i x (fun q => ?_) ?_, fun q => kg.2 ?_⟩
    · rw [hgf i q] at e; simp at e
    · rw [Array.getElem?_push, if_neg (fun q => by rw [q] at e; simp at e)]; exact e
    · intro y hy
      rcases Array.mem_push.mp hy with hy | rfl
      · exact q y hy
      · exact gb
  refine H ga g.size h' t' Rr W GF g' B' S' F' K'.le (kk _ (.refl _ _)) (fun q => by rw [hw L q] at eL; cases eL) (fun q => ?_) (fun b ob e => ⟨K' b ob id e, fun q => by have := F.keep _ _ e; rw [hw b q] at this; cases this⟩) (fun b ob e q => ?_) kk
  · rcases hr L q with c | c | c | c | c
    · exact absurd c (Nat.not_lt.mpr zL)
    · obtain ⟨es, n, i, _⟩ := X.nd.ex
      have := i.ob; rw [← c, F.off] at this; cases this
    · obtain ⟨es, n, i, _⟩ := X.nd.ex
      have := i.dt; rw [← c, F.off] at this; cases this
    · have : ∃ o, B.get? L = some o := by
        rcases List.mem_cons.mp c with rfl | c
        · exact X.kids.there
        · exact X.tr.there L ((rd_sub k f).subset c)
      obtain ⟨o, e⟩ := this
      rw [F.off] at e; cases e
    · rw [c] at eL; cases eL
  · rcases hr b q with c | c | c | c | c
    · exact .inl c
    · exact .inr (.inl c)
    · exact .inr (.inr (.inl c))
    · exact .inr (.inr (.inr c))
    · rw [F.keep _ _ e] at c; cases c
end

section
variable {w : World} {z : Nat} {A : Around} {E : Value → Shared → Prop} {h : Heap} {g : Array GenState} {d : Drawn} {t : Nat} {o : OsState}
theorem right_spec {R : Rad} {f : Fo} {Q : Value → Shared → Prop} (G : Grd w z h) (r : Rm A 200) (X : Whole w z h R f)
    (H : ∀ h' g' d' t', Le h h' → KpG noneG g g' → Q (.bool true) ⟨h', g', d', t', o⟩) :
    wpAny (model pr w) A (call (.ref 130) [.ref R.rt, .ref R.tr]) Q E ⟨h, g, d, t, o⟩ := by
  refine callFC (binds := [(Str.ofString "root", .ref R.rt), (Str.ofString "tree", .ref R.tr)]) G rfl rfl rfl rfl (by have := r.dp; omega) rfl rfl rfl rfl rfl rfl ?_
  intro h₁ B₁ t₁ F₁ K₁ cf env A'
  have rA : Rm A' 199 := r.deeper
  have G₁ := G.le K₁
  have X₁ := X.mv K₁
  have cd : B₁.IsCell (h.objs.size + 1) none := (cf (Str.ofString "depth") _ rfl).1
  have cn : B₁.IsCell (h.objs.size + 2) none := (cf (Str.ofString "node") _ rfl).1
  repeat' walk1
  refine flat_spec (G₁.le F₁.keep) (rA.le (by have := X.sz; omega)) (X₁.mv F₁.keep).rowAt (X₁.mv F₁.keep).rws (X₁.mv F₁.keep).tr.tw (by have := X.sz; omega) fun D₂ vs h₂ g₂ d₂ t₂ le₂ kg₂ l₂ T₂ n₂ => ?_
  obtain ⟨B₂, F₂, K₂, up₂⟩ := F₁.after (Le.kp le₂ none1) id
  obtain ⟨oL, eL⟩ := F₁.there
  have l₂' : ListAt B₂ D₂ vs := let ⟨q, e⟩ := l₂; ⟨q, up₂ _ _ (fun q => by rw [q, eL] at n₂; cases n₂) e⟩
  have T₂' : TupsIn B₂ (fun b => h₁.get? b = none) vs (rows 0 f) := T₂.mv (fun b ob nb e => up₂ b ob (fun q => by rw [q, eL] at nb; cases nb) e) fun _ _ q _ => q
  iterate 14 walk1
  rename_i D₄ h₄ B₄ F₄ K₄ l₄ n₄ nh₄ zz₄ K₄'
  refine kIterT F₄ l₄ fun it h₅ B₅ F₅ K₅ k₅ n₅ e₅ I₅ => ?_
  have zL : z ≤ h.objs.size := G.size
  have cd4 : B₄.IsCell (h.objs.size + 1) none := (cd.keeps fun b ob e => K₂ b ob id e).keeps K₄
  have cn4 : B₄.IsCell (h.objs.size + 2) none := (cn.keeps fun b ob e => K₂ b ob id e).keeps K₄
  have X₄ : Whole w z B₄ R f := (X₁.mv fun b ob e => K₂ b ob id e).mv K₄
  have l₂'' : ListAt B₄ D₂ vs := l₂'.le K₄
  have T₂'' : TupsIn B₄ (fun b => h₁.get? b = none) vs (rows 0 f) := T₂'.mv (fun b ob _ e => K₄ b ob e) fun _ _ q _ => q
  have G₄ : Grd w z B₄ := (G₁.kp K₂ fun b e => e.elim).le K₄
  have leh4 : Le h B₄ := fun b ob e => K₄ b ob (K₂ b ob id (K₁ b ob e))
  have cdh : h.get? (h.objs.size + 1) = none ∧ z ≤ h.objs.size + 1 := (cf (Str.ofString "depth") _ rfl).2
  have cnh : h.get? (h.objs.size + 2) = none ∧ z ≤ h.objs.size + 2 := (cf (Str.ofString "node") _ rfl).2
  have tD : D₄ ≠ h.objs.size := F₄.off_ne (l₄.choose_spec)
  have nitL : ¬ h.objs.size = it := fun q => by obtain ⟨ob, e⟩ := F₄.there; rw [q, n₅] at e; cases e
  have hsz := X.sz
  have cd1 : ∃ ob, h₁.get? (h.objs.size + 1) = some ob := let ⟨o, e, _⟩ := cd; ⟨o, F₁.keep _ _ e⟩
  clear l₂' T₂' T₂ l₂ le₂ F₂ up₂ cd cn X₁ G₁ cf
  have hm : bindL env.kindOf [(Str.ofString "root", Value.ref R.rt), (Str.ofString "tree", Value.ref R.tr)] (fun _ => none) (Str.ofString "root") = some (.ref R.rt) ∧ bindL env.kindOf [(Str.ofString "root", Value.ref R.rt), (Str.ofString "tree", Value.ref R.tr)] (fun _ => none) (Str.ofString "tree") = some (.ref R.tr) := ⟨rfl, rfl⟩
  refine forL (itr_tuple rA.hh e₅) I₅ F₅ (Bb := B₄) K₅ F₄.off (fun b ob e q => by have := F₄.keep _ _ e; rw [q, n₅] at this; cases this) nitL (fun q => tD q.symm) (fun _ b => b = h.objs.size + 1) (fun b => b = h.objs.size + 1) (fun _ _ q => q) (fun b q => let ⟨o, e, _⟩ := cd4; ⟨o, q ▸ e⟩)
    (fun x v R' b hv hb hr => l₄.ne_cell cd4 (((hv.2 b hr).symm.trans hb))) (fun _ _ _ q _ => wpAny_pure q)
    (fun rem N B m => (∀ v ∈ rem, ∃ (k : Nat) (tk : Tok), v = .int (k : Int) tk ∧ k ≤ 14) ∧ m (Str.ofString "root") = some (.ref R.rt) ∧ m (Str.ofString "tree") = some (.ref R.tr) ∧ m (Str.ofString "rows") = some (.ref D₂) ∧ ∃ v, B.IsCell (h.objs.size + 1) v) ?hJ ?j0 (K := fun _ _ => False) ?turn (fun v s q => q.elim) ?done
  case hJ =>
    rintro rem N B B' m ⟨a, b, c, d, v, e⟩ k
    exact ⟨a, b, c, d, v, let ⟨o, e1, e2⟩ := e; ⟨o, k _ _ (.inl (let ⟨o, e, _⟩ := cd4; ⟨o, e⟩)) e1, e2⟩⟩
  case j0 =>
    refine ⟨?_, ?_, ?_, if_pos rfl, _, cd4.keeps K₅⟩
    · intro v hv
      simp only [List.mem_cons, List.not_mem_nil, or_false] at hv
      rcases hv with rfl | rfl | rfl | rfl
      · exact ⟨0, _, rfl, by omega⟩
      · exact ⟨1, _, rfl, by omega⟩
      · exact ⟨3, _, rfl, by omega⟩
      · exact ⟨14, _, rfl, by omega⟩
    · show (if _ then _ else _) = _
      rw [if_neg (by decide)]; exact hm.1
    · show (if _ then _ else _) = _
      rw [if_neg (by decide)]; exact hm.2
  case turn =>
    rintro x rem v N B h₆ g₆ d₆ t₆ m ⟨hrem, mr, mt, mw, vd, hcd⟩ F₆ ⟨R', rfl, hR'⟩ K₆ kg₆ th
    obtain ⟨k, tk, rfl, hk⟩ := hrem v (.head _)
    refine wpAny_assign_Name (kStoreC F₆ hcd rfl rfl rfl fun h₇ B₇ F₇ K₇ c₇ => ?_)
    have K47 : Kp (fun b => b = h.objs.size + 1) B₄ B₇ := K₆.step K₇ fun _ q => q
    have leh7 : Le h B₇ := fun b ob e => K47 b ob (ne_of e cdh.1) (leh4 b ob e)
    have X₇ := X.mv leh7
    have G₇ := G.le leh7
    have l₇ : ListAt B₇ D₂ vs := l₂''.kp K47 (l₂''.ne_cell cd4)
    have T₇ : TupsIn B₇ (fun b => h₁.get? b = none) vs (rows 0 f) := T₂''.mv (fun b ob nb e => K47 b ob (fun q => by rw [q] at nb; obtain ⟨o, e⟩ := cd1; rw [e] at nb; cases nb) e) fun _ _ q _ => q
    have nd₇ := X₇.nd
    have c1 : Cls 59 := .inl rfl
    clear F₆ hcd F₅ F₄ F₁ K₁ K₂ K₄ K₅ K₄' l₂'' T₂'' X₄ G₄ leh4
    iterate 3 walk1
    refine bareComp (w := w) (z := z) (L := h.objs.size) (Bb := B₇) (xs := lv k f R.rc) (by rfl) (by rfl) (by rfl) (by rfl) (by intro _; rfl) (by intro _; rfl) (by intro _; rfl) (by intro _; rfl) (by rfl) (rA.le (by omega)) G₇ (lv_one k _ X₇.tr) (by have := lv_len k f R.rc; omega) ?_
    repeat' walk1
    refine genIter (at_spec k) G₇ F₇ (rA.le (by omega)) X₇ zL fun ga gi h₈ t₈ Rr W GF g₈ B₈ S₈ F₈ K₈ kg₈ hWL hRL up₈ hr₈ kk₈ => ?_
    refine ⟨ga, gi, 2 * k + 2, Rr, W, GF, B₈, m, rfl, S₈, rA.le (by omega), F₈, hWL, up₈, fun D₉ h₉ g₉ d₉ t₉ B₉ ys F₉ K₉ l₉ va₉ n₉ kg₉ => ?_⟩
    have X₉ := X₇.mv K₉
    have G₉ := G₇.le K₉
    clear S₈ F₈ hr₈ up₈ hWL hRL
    refine rowComp (w := w) (z := z) (op := .Eq) (ok := fun a b => a == b) (fun A a b u v E Q s q => eq_int q) (L := h.objs.size) (c := h.objs.size + 1) (D₀ := D₂) (k := (k : Int)) (tk := tk) (B := B₉) (m := m) (vs := vs) (l := rows 0 f) (N := fun _ => True)
      (by rfl) (by rfl) (by rfl) (by rfl) (by intro _; rfl) (by intro _; rfl) (by intro _; rfl) (by intro _; rfl) (by intro _; rfl) (by intro _; rfl) (by intro _; rfl) (by rfl) (by rfl) (by rfl) (by rfl) (by rfl) (by rfl) mw rA.hh G₉ F₉ (l₇.le K₉) (T₇.mv (fun b ob _ e => K₉ b ob e) fun _ _ _ _ => trivial) (rows_one 0 X₉.tr) (by rw [rows_len]; omega) (c₇.keeps K₉)
      fun D₁₀ h₁₀ g₁₀ d₁₀ t₁₀ B₁₀ zs F₁₀ K₁₀ lz₁₀ vb n₁₀ kg₁₀ => ?_
    have X₁₀ := X₉.mv K₁₀
    have G₁₀ := G₉.le K₁₀
    have hrl : ((rows 0 f).filter fun y => y.1 == (k : Int)).map (·.2) = (lv k f R.rc).map (·.1) := by
      have := rows_lv k f 0 R.rc
      rwa [Int.zero_add] at this
    rw [hrl] at vb
    have va₁₀ := (va₉.mono (P' := fun x v => BareT h₁₀ (fun _ => True) x.1 v) fun x v ⟨T, u1, u2, a, b, c⟩ => ⟨T, u1, u2, a, b, c.mv fun o e => F₁₀.keep _ _ (K₁₀ _ _ e)⟩).map
    have vb₁₀ := vb.mono (P' := fun x v => RowT h₁₀ (fun _ => True) x v) fun x v ⟨T, u1, u2, a, b, c⟩ => ⟨T, u1, u2, a, b, c.mv fun o e => F₁₀.keep _ _ e⟩
    refine rightCmp (rA.le (by omega)) ((l₉.le K₁₀).le F₁₀.keep) (lz₁₀.le F₁₀.keep) va₁₀ vb₁₀ (fun x hx => ?_) ?_
    · obtain ⟨y, hy, rfl⟩ := List.mem_map.mp hx
      obtain ⟨p, one⟩ := lv_one k _ X₁₀.tr y hy
      exact ⟨p, one.mv fun b ob _ e => F₁₀.keep _ _ e⟩
    have kg₁₀' := (kk₈ _ kg₉).step kg₁₀ fun _ q => q.elim
    have K₁₀' : Le B₇ B₁₀ := K₉.trans K₁₀
    have l₁₀ := l₇.le K₁₀'
    have c₁₀ := c₇.keeps K₁₀'
    have T₁₀ : TupsIn B₁₀ (fun _ => True) vs (rows 0 f) := T₇.mv (fun b ob _ e => K₁₀' b ob e) fun _ _ _ _ => trivial
    clear va₁₀ vb₁₀ vb va₉ l₉ lz₁₀ F₉ kg₉ kg₁₀ kk₈ X₇ X₉ G₇ G₉ F₇ l₇ c₇ T₇ hrl kg₈ n₉ n₁₀
    iterate 6 walk1
    have nd₁₀ := X₁₀.nd
    refine bareComp (w := w) (z := z) (L := h.objs.size) (Bb := B₁₀) (xs := wk k f R.rc) (by rfl) (by rfl) (by rfl) (by rfl) (by intro _; rfl) (by intro _; rfl) (by intro _; rfl) (by intro _; rfl) (by rfl) (rA.le (by omega)) G₁₀ (wk_one k _ X₁₀.tr) (by have := wk_len k f R.rc; omega) ?_
    repeat' walk1
    refine genIter (wk_spec k) G₁₀ F₁₀ (rA.le (by omega)) X₁₀ zL fun ga gi h₁₁ t₁₁ Rr W GF g₁₁ B₁₁ S₁₁ F₁₁ K₁₁ kg₁₁ hWL hRL up₁₁ hr₁₁ kk₁₁ => ?_
    refine ⟨ga, gi, 2 * k + 2, Rr, W, GF, B₁₁, m, rfl, S₁₁, rA.le (by omega), F₁₁, hWL, up₁₁, fun D₁₂ h₁₂ g₁₂ d₁₂ t₁₂ B₁₂ ys F₁₂ K₁₂ l₁₂ va₁₂ n₁₂ kg₁₂ => ?_⟩
    have X₁₂ := X₁₀.mv K₁₂
    have G₁₂ := G₁₀.le K₁₂
    clear S₁₁ F₁₁ hr₁₁ up₁₁ hWL hRL
    refine rowComp (w := w) (z := z) (op := .LtE) (ok := fun a b => decide (a ≤ b)) (fun A a b u v E Q s q => le_int q) (L := h.objs.size) (c := h.objs.size + 1) (D₀ := D₂) (k := (k : Int)) (tk := tk) (B := B₁₂) (m := m) (vs := vs) (l := rows 0 f) (N := fun _ => True)
      (by rfl) (by rfl) (by rfl) (by rfl) (by intro _; rfl) (by intro _; rfl) (by intro _; rfl) (by intro _; rfl) (by intro _; rfl) (by intro _; rfl) (by intro _; rfl) (by rfl) (by rfl) (by rfl) (by rfl) (by rfl) (by rfl) mw rA.hh G₁₂ F₁₂ (l₁₀.le K₁₂) (T₁₀.mv (fun b ob _ e => K₁₂ b ob e) fun _ _ _ _ => trivial) (rows_one 0 X₁₂.tr) (by rw [rows_len]; omega) (c₁₀.keeps K₁₂)
      fun D₁₃ h₁₃ g₁₃ d₁₃ t₁₃ B₁₃ zs F₁₃ K₁₃ lz₁₃ vb n₁₃ kg₁₃ => ?_
    have X₁₃ := X₁₂.mv K₁₃
    have G₁₃ := G₁₂.le K₁₃
    have hrl : ((rows 0 f).filter fun y => decide (y.1 ≤ (k : Int))).map (·.2) = (wk k f R.rc).map (·.1) := by
      have := rows_wk k f 0 R.rc
      rwa [Int.zero_add] at this
    rw [hrl] at vb
    have va₁₃ := (va₁₂.mono (P' := fun x v => BareT h₁₃ (fun _ => True) x.1 v) fun x v ⟨T, u1, u2, a, b, c⟩ => ⟨T, u1, u2, a, b, c.mv fun o e => F₁₃.keep _ _ (K₁₃ _ _ e)⟩).map
    have vb₁₃ := vb.mono (P' := fun x v => RowT h₁₃ (fun _ => True) x v) fun x v ⟨T, u1, u2, a, b, c⟩ => ⟨T, u1, u2, a, b, c.mv fun o e => F₁₃.keep _ _ e⟩
    refine rightCmp (rA.le (by omega)) ((l₁₂.le K₁₃).le F₁₃.keep) (lz₁₃.le F₁₃.keep) va₁₃ vb₁₃ (fun x hx => ?_) ?_
    · obtain ⟨y, hy, rfl⟩ := List.mem_map.mp hx
      obtain ⟨p, one⟩ := wk_one k _ X₁₃.tr y hy
      exact ⟨p, one.mv fun b ob _ e => F₁₃.keep _ _ e⟩
    have kg₁₃' := (kk₁₁ _ kg₁₂).step kg₁₃ fun _ q => q.elim
    have K₁₃' : Le B₁₀ B₁₃ := K₁₂.trans K₁₃
    have l₁₃ := l₁₀.le K₁₃'
    have c₁₃ := c₁₀.keeps K₁₃'
    have T₁₃ : TupsIn B₁₃ (fun _ => True) vs (rows 0 f) := T₁₀.mv (fun b ob _ e => K₁₃' b ob e) fun _ _ _ _ => trivial
    clear va₁₃ vb₁₃ vb va₁₂ l₁₂ lz₁₃ F₁₂ kg₁₂ kg₁₃ kk₁₁ X₁₀ X₁₂ G₁₀ G₁₂ F₁₀ l₁₀ c₁₀ T₁₀ hrl kg₁₁ n₁₂ n₁₃
    iterate 4 walk1
    have kgz := kg₁₀'.step kg₁₃' fun _ q => q.elim
    exact .next (.inl rfl) F₁₃ (fun b ob n e => K₁₃' b ob (K₁₀' b ob (K₇ b ob n e))) kgz (N' := none1) ⟨fun v hv => hrem v (.tail _ hv), mr, mt, mw, _, c₁₃⟩ (fun b q => q.elim) (fun b q => let ⟨o, e, _⟩ := c₁₃; ⟨o, q ▸ e⟩)
  case done =>
    rintro N B₆ h₆ g₆ d₆ t₆ m ⟨_, mr, mt, mw, vd, hcd⟩ F₆ K₆ kg₆
    have cn₆ : B₆.IsCell (h.objs.size + 2) none := IsCell.kp cn4 K₆ (show ¬ h.objs.size + 2 = h.objs.size + 1 by omega)
    have leh6 : Le h B₆ := fun b ob e => K₆ b ob (ne_of e cdh.1) (leh4 b ob e)
    have G₆ := G.le leh6
    have kgg := kg₂.step kg₆ fun _ q => q.elim
    clear F₅ F₄ F₁ K₁ K₂ K₄ K₅ K₄' l₂'' T₂'' X₄ G₄ leh4 cd4 cn4 hcd I₅ l₄ tD K₆ kg₆ kg₂ nitL
    show wpAny _ A' (execs _ env) _ _ _
    repeat' walk1
    refine pairs_spec (G₆.le F₆.keep) (rA.le (by omega)) X (leh6.trans F₆.keep) fun D₇ h₇ g₇ d₇ t₇ ps vs₇ le₇ kg₇ l₇ va₇ po n₇ hlen => ?_
    obtain ⟨B₇, F₇, K₇, up₇⟩ := F₆.after (Le.kp le₇ none1) id
    obtain ⟨oL6, eL6⟩ := F₆.there
    obtain ⟨Ts, rfl, rfl, hTs⟩ := PairT.zip va₇
    have tup₇ : ∀ y ∈ Ts, TupAt B₇ y.1 [.ref y.2.1, .ref y.2.2.1] := fun y hy => (hTs y hy).mv fun o e => up₇ _ _ ((hTs y hy).ne_ns F₇.ns) e
    have po₇ : ∀ y ∈ Ts, PairOk w h y.2 := fun y hy => po _ (List.mem_map_of_mem hy)
    have l₇' : ListAt B₇ D₇ (Ts.map fun y => Value.ref y.1) := l₇.mv fun o e => up₇ _ _ (l₇.ne_ns F₇.ns) e
    have cn₇ : B₇.IsCell (h.objs.size + 2) none := IsCell.kp cn₆ K₇ id
    have leh7 : Le h B₇ := fun b ob e => K₇ b ob id (leh6 b ob e)
    have kgh := kgg.step kg₇ fun _ q => q.elim
    refine kIterL F₇ l₇' fun it₈ h₈ B₈ F₈ K₈ k₈ n₈ e₈ I₈ => ?_
    have nitL : ¬ h.objs.size = it₈ := fun q => by obtain ⟨ob, e⟩ := F₇.there; rw [q, n₈] at e; cases e
    clear kgg kg₇ F₆ G₆ leh6 cn₆ le₇ l₇ va₇ po K₇ up₇ eL6 hTs n₇
    refine forL ((itr_list rA.hh e₈).map fun y : Addr × Addr × Addr × Nat => Value.ref y.1) I₈ F₈ (Bb := B₇) K₈ F₇.off (fun b ob e q => by have := F₇.keep _ _ e; rw [q, n₈] at this; cases this) nitL (fun q => F₇.off_ne l₇'.choose_spec q.symm) (fun _ b => b = h.objs.size + 2) (fun b => b = h.objs.size + 2) (fun _ _ q => q) (fun b q => let ⟨o, e, _⟩ := cn₇; ⟨o, q ▸ e⟩)
      (fun x v R' b hv hb hr => l₇'.ne_cell cn₇ (((hv.2 b hr).symm.trans hb))) ?hlet
      (fun rem N B m => (∀ y ∈ rem, TupAt B₇ y.1 [.ref y.2.1, .ref y.2.2.1] ∧ PairOk w h y.2) ∧ ∃ v, B.IsCell (h.objs.size + 2) v) ?hJ ⟨fun y hy => ⟨tup₇ y hy, po₇ y hy⟩, _, cn₇.keeps K₈⟩ (K := fun _ _ => False) ?turn (fun v s q => q.elim) ?done
    case hlet =>
      rintro v s Q q ⟨x, xs, R, W, GF, ⟨rfl, _⟩, -, -, -, i, items, hi, _⟩
      exact wpAny_letOwnedTupleGo_listiter hi q
    case hJ =>
      rintro rem N B B' m ⟨a, v, e⟩ k
      exact ⟨a, v, let ⟨o, e1, e2⟩ := e; ⟨o, k _ _ (.inl (let ⟨o, e, _⟩ := cn₇; ⟨o, e⟩)) e1, e2⟩⟩
    case done =>
      rintro N B h₉ g₉ d₉ t₉ m₉ ⟨_, v, hc⟩ F₉ K₉ kg₉
      show wpAny _ A' (execs _ env) _ _ _
      repeat' walk1
      exact H h₉ g₉ d₉ _ (fun b ob e => F₉.keep b ob (K₉ b ob (ne_of e cnh.1) (leh7 b ob e))) (kgh.step kg₉ fun _ q => q.elim)
    case turn =>
      rintro x rem v N B h₉ g₉ d₉ t₉ m₉ ⟨hrem, vc, hc⟩ F₉ ⟨R', rfl, hR'⟩ K₉ kg₉ th
      obtain ⟨tT, pok⟩ := hrem x (.head _)
      obtain ⟨C, dd, c, rc, ks, hC, nd, lc, ⟨ra1, ra2, ra3, lr⟩, lrc, tr, hks, hk40⟩ := pok
      refine kUnpack2 rA.hh F₉ (tT.kp K₉ (tT.ne_cell cn₇)) fun h₁₀ B₁₀ F₁₀ K₁₀ => ?_
      refine kStoreC F₁₀ (hc.keeps K₁₀) rfl rfl rfl fun h₁₁ B₁₁ F₁₁ K₁₁ c₁₁ => ?_
      refine kStore F₁₁ rfl rfl rfl fun h₁₂ t₁₂ F₁₂ => ?_
      have leh11 : Le h B₁₁ := fun b ob e => K₁₁ b ob (ne_of e cnh.1) (K₁₀ b ob (K₉ b ob (ne_of e cnh.1) (leh7 b ob e)))
      have G₁₁ := G.le leh11
      have nd₁₁ := nd.mv fun b ob _ e => leh11 b ob e
      have lc₁₁ := lc.le leh11
      have lr₁₁ := lr.le leh11
      have lrc₁₁ := lrc.le leh11
      have tr₁₁ : Tr w B₁₁ x.2.1 ks := tr.mv fun b ob _ e => leh11 b ob e
      have e1 : ks.rrefs.length = ks.refs.length := by rw [rrefs_prs, refs_prs, List.length_map, List.length_map]
      have e3 := refs_le ks
      clear hc F₉ F₁₀ F₁₁ lc lr lrc tr nd tT I₈ F₇ F₈ tup₇ po₇ l₇'
      repeat' walk1
      all_goals try (exfalso; omega)
      refine lcRule (L := h.objs.size) (by rfl) (by rfl) (by rfl) (by rfl) (by intro _; rfl) ?_
      repeat' walk1
      rename_i t13 u1 t14 u2 t15 u3 t16 heq t17 it₁₃ h₁₃ B₁₃ F₁₃ K₁₃ k₁₃ n₁₃ e₁₃ I₁₃ K₁₃'
      have up13 : ∀ b ob, B₁₁.get? b = some ob → B₁₃.get? b = some ob ∧ ¬ b = it₁₃ := fun b ob e => ⟨K₁₃ b ob e, fun q => by have := F₁₂.keep _ _ e; rw [q, n₁₃] at this; cases this⟩
      have nitL' : ¬ h.objs.size = it₁₃ := fun q => by obtain ⟨ob, e⟩ := F₁₂.there; rw [q, n₁₃] at e; cases e
      refine ⟨_, _, _, ks.refs, _, _, _, B₁₃, _, fun rem ys Ft B₁ => ys = [] ∧ ∃ fr : Fo, rem = fr.refs ∧ Tr w B₁₁ x.2.1 fr, itr_list rA.hh e₁₃, I₁₃, F₁₃, nitL', fun _ _ _ q _ => wpAny_pure q, ?_, ?_, fun B₁ => ⟨rfl, ks, rfl, tr₁₁⟩, ?_, ?_⟩
      · exact fun _ _ _ _ _ q _ => q
      · rintro rem ys Ft B₁ ⟨rfl, _⟩; rw [sizeLine_eq]; simp
      · rintro C' v rem ys v' R' Ft B₁ hh gg dd' tt m₁ ⟨rfl, fr, hfr, trf⟩ F₁' k₁ ⟨rfl, _⟩
        cases fr with
        | nil => simp [Fo.refs] at hfr
        | cons y ky r' =>
          simp only [Fo.refs, List.cons.injEq] at hfr
          obtain ⟨rfl, rfl⟩ := hfr
          obtain ⟨q1, q2, q3, q4, q5⟩ := trf
          have le1 : Le B₁₁ B₁ := fun b ob e => k₁ b ob (up13 b ob e).2 (up13 b ob e).1
          have G₁' := G₁₁.le le1
          have one₁ : One w B₁ x.2.1 y := q1.mv fun b ob _ e => le1 b ob e
          have c₁' := c₁₁.keeps le1
          clear G₁₁ nd₁₁ lc₁₁ lr₁₁ lrc₁₁ F₁₃ F₁₂ I₁₃ c₁₁
          refine wpAny_assign_Name (kStore F₁' rfl rfl rfl fun h₂ t₂ F₂ => ?_)
          repeat' walk1
          exact ⟨none1, B₁, h₂, gg, dd', _, _, rfl, F₂, Kp.refl _ _, .refl _ _, ⟨rfl, r', rfl, q5⟩, fun b q => q.elim⟩
      · rintro ys Ft B₁ D hh gg dd' tt ⟨rfl, _⟩ F₁' k₁ l₁ nD kg₁
        have le1 : Le B₁₁ B₁ := fun b ob e => k₁ b ob (up13 b ob e).2 (up13 b ob e).1
        have c₁' := c₁₁.keeps le1
        clear G₁₁ nd₁₁ lc₁₁ lr₁₁ lrc₁₁ F₁₃ F₁₂ I₁₃ c₁₁
        iterate 3 walk1
        rename_i D₂' h₂' B₂' F₂' K₂' l₂' n₂' nh₂' zz₂' K₂''
        refine neNil (by have := rA.un; omega) ((l₁.le K₂').le F₂'.keep) (l₂'.le F₂'.keep) ?_
        repeat' walk1
        refine .next (.inl rfl) F₂' (fun b ob n e => K₂' b ob (le1 b ob (K₁₁ b ob n (K₁₀ b ob e)))) kg₁ (N' := none1) ⟨fun y hy => hrem y (.tail _ hy), _, c₁'.keeps K₂'⟩ (fun b q => q.elim) (fun b q => ?_)
        subst q
        obtain ⟨o, e, _⟩ := c₁'
        exact ⟨o, K₂' _ _ e⟩
end

section
variable {w : World} {A : Around} {E : Value → Shared → Prop}
theorem codeAny_forItr2 {α : Type} {target : Expr} {body : List Stmt} {env : Env} {I : Value} {val : α → Value → (Addr → Prop) → Prop} {St} (it : Itr w A I val St) {L : Addr} (g₀ : Array GenState) (GF₀ : Nat → Prop) (Mt : α → Addr → Prop)
    (J : List α → (Addr → Prop) → Heap → (Str → Option Value) → Prop) (hJ : ∀ xs Ft B B' m, J xs Ft B m → (∀ b o, Ft b → B.get? b = some o → B'.get? b = some o) → J xs Ft B' m)
    (Nx : Addr → Prop) (hNx : ∀ xs Ft B m, J xs Ft B m → ∀ b, Nx b → Ft b)
    (hM : ∀ x xs v R' Ft B m, J (x :: xs) Ft B m → val x v R' → ∀ b, Mt x b → Ft b ∧ (¬ R' b ∨ Nx b))
    (hlet : ∀ v s (Q : Unit → Shared → Prop), Q () s → (∃ x xs R W GF, val x v R ∧ St xs R W GF s.heap s.gens) → wpAny (model pr w) A (letOwnedTupleGo target I v) Q (fun _ _ => False) s) {K : Flow → Shared → Prop} {o : OsState}
    (turn : ∀ x xs v R' Ft B h g d t m, J (x :: xs) Ft B m → Fm B L h m → val x v R' → KpG GF₀ g₀ g → (∀ b, Ft b → b ≠ L → ∃ o, B.get? b = some o) →
      wpAny (model pr w) A (assign target env v) (fun _ s₁ => wpAny (model pr w) A (execs body env) (TurnI B L g o (Mt x) Ft (J xs) K) (fun _ _ => False) s₁) (fun _ _ => False) ⟨h, g, d, t, o⟩)
    (done : ∀ Ft B h g d t m, J [] Ft B m → Fm B L h m → KpG GF₀ g₀ g → K .next ⟨h, g, d, t, o⟩) :
    ∀ (xs : List α) (Ft : Addr → Prop) (B h : Heap) (g : Array GenState) (d : Drawn) (t : Nat) (m : Str → Option Value), J xs Ft B m → Fm B L h m → Apart St Ft g₀ GF₀ (fun b => b = L ∨ Nx b) xs h g →
      codeAny (model pr w) A (.forLoop target I body [] env) (fun r s' => match r with | .ok f => K f s' | .error _ => False) ⟨h, g, d, t, o⟩ := by
  intro xs
  induction xs with
  | nil =>
    intro Ft B h g d t m j F ⟨⟨R, W, GF, st, hC, hWn, hRn, hCG⟩, nth, th, gth⟩
    have hWL := hWn L (.inl rfl)
    have hRL := hRn L (.inl rfl)
    refine codeAny_of_tree ?_
    rw [Around.under_of_weight (by rfl) (by rfl)]
    show wpAny _ A ((forTurn target I body [] env).onRaise _) _ _ _
    refine noRaise ?_
    unfold forTurn
    refine wpAny_bind (wpAny_standAt (wpAny_bind (noRaise (it.done R W GF h g d t o _ _ st fun h' g' d' t' k kg => ?_))))
    refine wpAny_pure ⟨rfl, codeAny_of_tree ?_⟩
    rw [Around.under_of_weight (by rfl) (by rfl)]
    show wpAny _ A (Sem.onRaise (execs [] env) _ >>= _) _ _ _
    refine wpAny_bind (noRaise (wpAny_execs_nil (wpAny_pure ?_)))
    obtain ⟨B', F', kB, up⟩ := F.after k hWL
    exact done Ft B' h' g' d' t' m (hJ _ _ _ _ _ j fun b o hb e => kB b o (hC b hb) e) F' (gth.step kg hCG)
  | cons x xs ih =>
    intro Ft B h g d t m j F ⟨⟨R, W, GF, st, hC, hWn, hRn, hCG⟩, nth, th, gth⟩
    have hWL := hWn L (.inl rfl)
    have hRL := hRn L (.inl rfl)
    refine codeAny_of_tree ?_
    rw [Around.under_of_weight (by rfl) (by rfl)]
    show wpAny _ A ((forTurn target I body [] env).onRaise _) _ _ _
    refine noRaise ?_
    unfold forTurn
    refine wpAny_bind (wpAny_standAt (wpAny_bind (noRaise (it.item x xs R W GF h g d t o _ _ st fun v R' W' GF' h₁ g₁ d₁ t₁ hv st₁ k kg hW hR hG => ?_))))
    obtain ⟨B₁, F₁, kB, up⟩ := F.after k hWL
    have thL : ∃ o, h.get? L = some o := F.there
    have th₁ : ∀ b, Ft b → ∃ o, h₁.get? b = some o := fun b hb => let ⟨o, e⟩ := th b hb; ⟨o, k b o (hC b hb) e⟩
    have gth₁ : KpG GF₀ g₀ g₁ := gth.step kg hCG
    have hC₁ : ∀ b, Ft b → ¬ W' b := fun b hb hw => (hW b hw).elim (hC b hb) fun q => by obtain ⟨o, e⟩ := th b hb; rw [q] at e; cases e
    have hWL₁ : ¬ W' L := fun hw => (hW L hw).elim hWL fun q => by obtain ⟨o, e⟩ := thL; rw [q] at e; cases e
    have hCG₁ : ∀ i, GF' i → GF₀ i ∨ g₀[i]? = none := fun i hw => (hG i hw).elim (hCG i) fun q => by
      by_cases hi : GF₀ i
      · exact .inl hi
      · cases e : g₀[i]? with
        | none => exact .inr rfl
        | some y => have := gth.1 i y hi e; rw [q] at this; cases this
    have hRL₁ : ¬ R' L := fun q => (hR L q).elim hRL fun e => e.elim hWL fun e => by obtain ⟨o, e'⟩ := thL; rw [e] at e'; cases e'
    have j₁ := hJ _ _ _ B₁ _ j fun b o hb e => kB b o (hC b hb) e
    have hNR₁ : ∀ b, Nx b → ¬ R' b := fun b nx q => (hR b q).elim (hRn b (.inr nx)) fun e => e.elim (hWn b (.inr nx)) fun e => by obtain ⟨o, e'⟩ := nth b (.inr nx); rw [e] at e'; cases e'
    refine wpAny_bind (hlet v _ _ ?_ ⟨x, xs, R', W', GF', hv, st₁⟩)
    refine wpAny_bind (wpAny_mono (turn x xs v R' Ft B₁ h₁ g₁ d₁ t₁ m j₁ F₁ hv gth₁ fun b hb hn => let ⟨o, e⟩ := th₁ b hb; ⟨o, up b o hn e⟩) (fun _ s₁ q₁ => wpAny_bind (wpAny_mono q₁ (fun f s₂ q₂ => ?_) fun _ _ x => x)) fun _ _ x => x)
    cases q₂ with
    | next hf F₂ k₂ kg₂ j₂ ft₂ =>
      rename_i Ft' B' h' g' d' t' m'
      have hW₂ : ∀ b, Ft' b → ¬ W' b := fun b hb hw => by
        rcases (ft₂ b hb).2 with q | q
        · exact hC₁ b q hw
        · obtain ⟨o₁, e₁⟩ := it.own _ _ _ _ _ _ st₁ b hw
          have hbL : b ≠ L := fun e => hWL₁ (e ▸ hw)
          rw [up b o₁ hbL e₁] at q; cases q
      have fin : wpAny (model pr w) A (again (.forLoop target I body [] env)) (fun fin s' => match fin with | .done f => K f s' | .again c' => c'.quiet = true ∧ codeAny (model pr w) A c' (fun r s' => match r with | .ok f => K f s' | .error _ => False) s') (fun _ _ => False) ⟨h', g', d', t', o⟩ := by
        refine wpAny_pure ⟨rfl, ih Ft' B' h' g' d' t' m' j₂ F₂ ⟨⟨R', W', GF', ?_, hW₂, fun b e => e.elim (fun e => by rw [e]; exact hWL₁) (fun nx => hW₂ b (hNx _ _ _ _ j₂ b nx)), fun b e => e.elim (fun e => by rw [e]; exact hRL₁) (hNR₁ b), hCG₁⟩, fun b e => e.elim (fun e => by rw [e]; exact F₂.there) (fun nx => let ⟨o, e⟩ := (ft₂ b (hNx _ _ _ _ j₂ b nx)).1; ⟨o, F₂.keep b o e⟩), ?_, ?_⟩⟩
        · refine it.frame xs R' W' GF' h₁ h' g₁ g' st₁ (fun b o hb e => ?_) fun i y hi e => kg₂.1 i y id e
          have hbL : b ≠ L := fun q => hb.elim (fun r => hRL₁ (q ▸ r)) fun r => hWL₁ (q ▸ r)
          exact F₂.keep b o (k₂ b o (fun hm => by
            have z := hM x xs v R' Ft B₁ m j₁ hv b hm
            exact hb.elim (fun r => z.2.elim (fun q => q r) fun nx => hNR₁ b nx r) (hC₁ b z.1)) (up b o hbL e))
        · exact fun b hb => let ⟨o, e⟩ := (ft₂ b hb).1; ⟨o, F₂.keep b o e⟩
        · exact (gth₁.step kg₂ fun _ q => q.elim)
      rcases hf with rfl | rfl <;> exact fin
    | out k₂ => exact wpAny_pure k₂

theorem forL2 {target : Expr} {body : List Stmt} {env : Env} {I : Value} {α : Type} {val : α → Value → (Addr → Prop) → Prop} {St} (itr : Itr w A I val St) {xs : List α} {R W : Addr → Prop} {GF : Nat → Prop} {Bb B h : Heap} {L : Addr} {g : Array GenState} {d : Drawn} {t : Nat} {o : OsState} {m : Str → Option Value} (st : St xs R W GF h g) (F : Fm B L h m)
    (KB : Le Bb B) (nL : Bb.get? L = none) (hW : ∀ b ob, Bb.get? b = some ob → ¬ W b) (hWL : ¬ W L) (hRL : ¬ R L) (mu : α → Addr → Prop) (mutA : Addr → Prop) (hmA : ∀ x b, mu x b → mutA b)
    (hmut : ∀ b, mutA b → ∃ ob, Bb.get? b = some ob) (Nx : Addr → Prop) (hNb : ∀ b, Nx b → ∃ ob, Bb.get? b = some ob) (hNR : ∀ b, Nx b → ¬ R b) (hR : ∀ x v R' b, val x v R' → mu x b → ¬ R' b ∨ Nx b)
    (hlet : ∀ v s (Q : Unit → Shared → Prop), Q () s → (∃ x xs R W GF, val x v R ∧ St xs R W GF s.heap s.gens) → wpAny (model pr w) A (letOwnedTupleGo target I v) Q (fun _ _ => False) s)
    (J : List α → (Addr → Prop) → Heap → (Str → Option Value) → Prop) (hJ : ∀ xs N B B' m, J xs N B m → (∀ b o, ((∃ ob, Bb.get? b = some ob) ∨ N b) → B.get? b = some o → B'.get? b = some o) → J xs N B' m)
    (j₀ : J xs none1 B m) {K : Value → Shared → Prop} {R₁ : Result → Shared → Prop}
    (turn : ∀ x xs v N B h g' d t m, J (x :: xs) N B m → Fm B L h m → (∃ R', val x v R') → Kp mutA Bb B → KpG GF g g' → (∀ b, N b → b ≠ L → ∃ o, B.get? b = some o) →
      wpAny (model pr w) A (assign target env v) (fun _ s₁ => wpAny (model pr w) A (execs body env) (EndT B L g' o (mu x) N (J xs) K) (fun _ _ => False) s₁) (fun _ _ => False) ⟨h, g', d, t, o⟩)
    (ret : ∀ v s, K v s → R₁ (.ok (.ret v)) s)
    (done : ∀ N B h g' d t m, J [] N B m → Fm B L h m → Kp mutA Bb B → KpG GF g g' → R₁ (.ok .next) ⟨h, g', d, t, o⟩) :
    codeAny (model pr w) A (.forLoop target I body [] env) R₁ ⟨h, g, d, t, o⟩ := by
  refine codeAny_mono (codeAny_forItr2 itr g GF mu (fun xs Ft B m => ∃ N, J xs N B m ∧ Kp mutA Bb B ∧ ∀ b, Ft b ↔ (∃ ob, Bb.get? b = some ob) ∨ N b) ?hJ Nx ?hNx ?hM hlet (K := fun fl s' => R₁ (.ok fl) s') ?turn ?done xs (fun b => (∃ ob, Bb.get? b = some ob) ∨ none1 b) B h g d t m ⟨none1, j₀, fun b ob _ e => KB b ob e, fun _ => Iff.rfl⟩ F
    ⟨⟨R, W, GF, st, fun b q => q.elim (fun ⟨ob, e⟩ => hW b ob e) False.elim, fun b e => e.elim (fun e => by rw [e]; exact hWL) (fun nx => let ⟨ob, e⟩ := hNb b nx; hW b ob e), fun b e => e.elim (fun e => by rw [e]; exact hRL) (hNR b), fun i q => .inl q⟩, fun b e => e.elim (fun e => by rw [e]; exact F.there) (fun nx => let ⟨ob, e⟩ := hNb b nx; ⟨ob, F.keep _ _ (KB _ _ e)⟩), fun b q => q.elim (fun ⟨ob, e⟩ => ⟨ob, F.keep _ _ (KB _ _ e)⟩) False.elim, .refl _ _⟩) ?post
  case hJ =>
    rintro xs Ft B B' m ⟨N, j, k, hf⟩ kk
    exact ⟨N, hJ _ _ _ _ _ j fun b ob q e => kk b ob ((hf b).mpr q) e, fun b ob n e => kk b ob ((hf b).mpr (.inl ⟨ob, e⟩)) (k b ob n e), hf⟩
  case hNx =>
    rintro xs Ft B m ⟨N, j, k, hf⟩ b nx
    exact (hf b).mpr (.inl (hNb b nx))
  case hM =>
    rintro x xs v R' Ft B m ⟨N, j, k, hf⟩ hv b hb
    exact ⟨(hf b).mpr (.inl (hmut b (hmA x b hb))), hR x v R' b hv hb⟩
  case turn =>
    rintro x xs v R' Ft B h g' d t m ⟨N, j, k, hf⟩ F hv kg th
    refine wpAny_mono (turn x xs v N B h g' d t m j F ⟨R', hv⟩ k kg fun b q n => th b ((hf b).mpr (.inr q)) n) (fun _ s₁ q₁ => wpAny_mono q₁ (fun f s₂ q₂ => ?_) fun _ _ x => x) fun _ _ x => x
    cases q₂ with
    | next hf' F' k' kg' j' n' lv' =>
      rename_i N' B' h' g'' d' t' m'
      refine .next hf' F' k' kg' (Ft' := fun b => (∃ ob, Bb.get? b = some ob) ∨ N' b) ⟨N', j', k.step k' (fun b q => hmA x b q), fun _ => Iff.rfl⟩ fun b q => ?_
      rcases q with ⟨ob, e⟩ | q
      · refine ⟨?_, .inl ((hf b).mpr (.inl ⟨ob, e⟩))⟩
        by_cases hb : mu x b
        · exact lv' b hb
        · obtain ⟨ob', e'⟩ := th b ((hf b).mpr (.inl ⟨ob, e⟩)) (fun q => by rw [q, nL] at e; cases e)
          exact ⟨ob', k' b ob' hb e'⟩
      · exact ⟨(n' b q).1, (n' b q).2.imp (fun q => (hf b).mpr (.inr q)) id⟩
    | out q => exact .out (ret _ _ q)
  case done =>
    rintro Ft B h g' d t m ⟨N, j, k, hf⟩ F kg
    exact done N B h g' d t m j F k kg
  case post =>
    rintro r s' q
    cases r with
    | error _ => exact q.elim
    | ok f => exact q
end

noncomputable def Fo.tops : Fo → List NLab
  | .nil => []
  | .cons x _ r => x :: r.tops
theorem refs_tops : ∀ f : Fo, f.refs = f.tops.map fun y => .ref y.a
  | .nil => rfl
  | .cons x k r => by simp [Fo.refs, Fo.tops, refs_tops r]
theorem rrefs_tops : ∀ f : Fo, f.rrefs = f.tops.map fun y => .ref y.r
  | .nil => rfl
  | .cons x k r => by simp [Fo.rrefs, Fo.tops, rrefs_tops r]
noncomputable def nodes : Fo → List NLab
  | .nil => []
  | .cons x ks r => x :: (nodes ks ++ nodes r)
noncomputable def own (x : NLab) : List Addr := [x.a, x.d, x.c, x.hs, x.r, x.rc, x.ts]
theorem adr_own : ∀ f : Fo, adr f = (nodes f).flatMap own
  | .nil => rfl
  | .cons x ks r => by simp [adr, nodes, own, adr_own ks, adr_own r]
theorem tops_nodes : ∀ f : Fo, ∀ x ∈ f.tops, x ∈ nodes f
  | .nil, x, h => by simp [Fo.tops] at h
  | .cons y ks r, x, h => by
    simp only [Fo.tops, List.mem_cons] at h
    simp only [nodes, List.mem_cons, List.mem_append]
    rcases h with rfl | h
    · exact .inl rfl
    · exact .inr (.inr (tops_nodes r x h))
/-- all nodes, each with its parent and the forest below it -/
noncomputable def nds : Addr → Fo → List (Addr × NLab × Fo)
  | _, .nil => []
  | p, .cons x ks r => (p, x, ks) :: (nds x.a ks ++ nds p r)
theorem nds_nodes : ∀ (p : Addr) (f : Fo), (nds p f).map (·.2.1) = nodes f
  | _, .nil => rfl
  | p, .cons x ks r => by simp [nds, nodes, nds_nodes x.a ks, nds_nodes p r]
theorem tr_iff {w : World} {h : Heap} : ∀ {p : Addr} {f : Fo}, Tr w h p f ↔ ∀ y ∈ nds p f, One w h y.1 y.2.1 ∧ ListAt h y.2.1.c y.2.2.refs ∧ ListAt h y.2.1.rc y.2.2.rrefs
  | _, .nil => by simp [Tr, nds]
  | p, .cons x ks r => by
    simp only [Tr, nds, List.forall_mem_cons, List.forall_mem_append, tr_iff (p := x.a) (f := ks), tr_iff (p := p) (f := r)]
    constructor
    · rintro ⟨a, b, c, d, e⟩; exact ⟨⟨a, b, c⟩, d, e⟩
    · rintro ⟨⟨a, b, c⟩, d, e⟩; exact ⟨a, b, c, d, e⟩
theorem nds_tr {w : World} {h : Heap} : ∀ {p : Addr} {f : Fo}, Tr w h p f → ∀ y ∈ nds p f, Tr w h y.2.1.a y.2.2
  | _, .nil, _, y, hy => by simp [nds] at hy
  | p, .cons x ks r, ⟨q1, q2, q3, q4, q5⟩, y, hy => by
    simp only [nds, List.mem_cons, List.mem_append] at hy
    rcases hy with rfl | hy | hy
    · exact q4
    · exact nds_tr q4 y hy
    · exact nds_tr q5 y hy
theorem nds_sub : ∀ {p : Addr} {f : Fo}, ∀ y ∈ nds p f, (adr y.2.2).Sublist (adr f)
  | _, .nil, y, hy => by simp [nds] at hy
  | p, .cons x ks r, y, hy => by
    simp only [nds, List.mem_cons, List.mem_append] at hy
    have e : ∀ l : List Addr, l.Sublist (adr ks ++ adr r) → l.Sublist (adr (.cons x ks r)) := fun l q => by
      simp only [adr]
      exact .cons _ (.cons _ (.cons _ (.cons _ (.cons _ (.cons _ (.cons _ q))))))
    rcases hy with rfl | hy | hy
    · exact e _ (List.sublist_append_left _ _)
    · exact e _ ((nds_sub y hy).trans (List.sublist_append_left _ _))
    · exact e _ ((nds_sub y hy).trans (List.sublist_append_right _ _))
theorem nds_size : ∀ {p : Addr} {f : Fo}, ∀ y ∈ nds p f, y.2.2.size < f.size
  | _, .nil, y, hy => by simp [nds] at hy
  | p, .cons x ks r, y, hy => by
    simp only [nds, List.mem_cons, List.mem_append] at hy
    simp only [Fo.size]
    rcases hy with rfl | hy | hy
    · show ks.size < _; omega
    · have := nds_size y hy; omega
    · have := nds_size y hy; omega
/-- the lists of the tree: whose, where, of which forest -/
noncomputable def lsts (n c : Addr) (f : Fo) : List (Addr × Addr × Fo) := (n, c, f) :: (nds n f).map fun y => (y.2.1.a, y.2.1.c, y.2.2)
theorem lv0_tops : ∀ (f : Fo) (c : Addr), ∀ x ∈ lv 0 f c, x.2 = c ∧ x.1 ∈ f.tops
  | .nil, c, x, hx => by simp [lv] at hx
  | .cons y ks r, c, x, hx => by
    simp only [lv, List.mem_cons] at hx
    rcases hx with rfl | hx
    · exact ⟨rfl, .head _⟩
    · have := lv0_tops r c x hx
      exact ⟨this.1, .tail _ this.2⟩
theorem lv1_lsts : ∀ (k : Nat) (f : Fo) (n c : Addr), ∀ x ∈ lv (k + 1) f c, ∃ m ks, (m, x.2, ks) ∈ (nds n f).map (fun y => (y.2.1.a, y.2.1.c, y.2.2)) ∧ x.1 ∈ ks.tops
  | k, .nil, n, c, x, hx => by simp [lv] at hx
  | k, .cons y ks r, n, c, x, hx => by
    simp only [lv, List.mem_append] at hx
    simp only [nds, List.map_cons, List.map_append, List.mem_cons, List.mem_append]
    rcases hx with hx | hx
    · cases k with
      | zero =>
        have := lv0_tops ks y.c x hx
        exact ⟨y.a, ks, .inl (by rw [this.1]), this.2⟩
      | succ k =>
        obtain ⟨m, k', h1, h2⟩ := lv1_lsts k ks y.a y.c x hx
        exact ⟨m, k', .inr (.inl h1), h2⟩
    · obtain ⟨m, k', h1, h2⟩ := lv1_lsts k r n c x hx
      exact ⟨m, k', .inr (.inr h1), h2⟩
theorem lv_lsts (k : Nat) (f : Fo) (n c : Addr) : ∀ x ∈ lv k f c, ∃ m ks, (m, x.2, ks) ∈ lsts n c f ∧ x.1 ∈ ks.tops := by
  intro x hx
  cases k with
  | zero =>
    have := lv0_tops f c x hx
    exact ⟨n, f, by rw [this.1]; exact .head _, this.2⟩
  | succ k =>
    obtain ⟨m, ks, h1, h2⟩ := lv1_lsts k f n c x hx
    exact ⟨m, ks, .tail _ h1, h2⟩
theorem lsts_tr {w : World} {h : Heap} {n c : Addr} {f : Fo} (T : Tr w h n f) : ∀ e ∈ lsts n c f, Tr w h e.1 e.2.2 := by
  intro e he
  rcases List.mem_cons.mp he with rfl | he
  · exact T
  · obtain ⟨y, hy, rfl⟩ := List.mem_map.mp he
    exact nds_tr T y hy
theorem lsts_list {w : World} {h : Heap} {n c : Addr} {f : Fo} (T : Tr w h n f) (l : ListAt h c f.refs) : ∀ e ∈ lsts n c f, ListAt h e.2.1 e.2.2.refs := by
  intro e he
  rcases List.mem_cons.mp he with rfl | he
  · exact l
  · obtain ⟨y, hy, rfl⟩ := List.mem_map.mp he
    exact (tr_iff.mp T y hy).2.1
theorem lsts_sub {n c : Addr} {f : Fo} : ∀ e ∈ lsts n c f, (adr e.2.2).Sublist (adr f) := by
  intro e he
  rcases List.mem_cons.mp he with rfl | he
  · exact .refl _
  · obtain ⟨y, hy, rfl⟩ := List.mem_map.mp he
    exact nds_sub y hy
theorem lsts_size {n c : Addr} {f : Fo} : ∀ e ∈ lsts n c f, e.2.2.size ≤ f.size := by
  intro e he
  rcases List.mem_cons.mp he with rfl | he
  · exact Nat.le_refl _
  · obtain ⟨y, hy, rfl⟩ := List.mem_map.mp he
    exact Nat.le_of_lt (nds_size y hy)
theorem nodup_inj {α β : Type} {g : α → β} : ∀ {l : List α}, (l.map g).Nodup → ∀ x ∈ l, ∀ y ∈ l, g x = g y → x = y
  | [], _, x, hx, _, _, _ => by cases hx
  | a :: l, n, x, hx, y, hy, e => by
    rw [List.map_cons, List.nodup_cons] at n
    rcases List.mem_cons.mp hx with rfl | hx' <;> rcases List.mem_cons.mp hy with rfl | hy'
    · rfl
    · exact absurd (List.mem_map.mpr ⟨y, hy', e.symm⟩) n.1
    · exact absurd (List.mem_map.mpr ⟨x, hx', e⟩) n.1
    · exact nodup_inj n.2 x hx' y hy' e
theorem flat_inj {α β : Type} {g : α → List β} : ∀ {l : List α}, (l.flatMap g).Nodup → ∀ x ∈ l, ∀ y ∈ l, ∀ b, b ∈ g x → b ∈ g y → x = y
  | [], _, x, hx, _, _, _, _, _ => by cases hx
  | a :: l, n, x, hx, y, hy, b, e1, e2 => by
    rw [List.flatMap_cons, List.nodup_append] at n
    rcases List.mem_cons.mp hx with rfl | hx' <;> rcases List.mem_cons.mp hy with rfl | hy'
    · rfl
    · exact absurd rfl (n.2.2 b e1 b (List.mem_flatMap.mpr ⟨y, hy', e2⟩))
    · exact absurd rfl (n.2.2 b e2 b (List.mem_flatMap.mpr ⟨x, hx', e1⟩))
    · exact flat_inj n.2.1 x hx' y hy' b e1 e2
theorem flat_own {α β : Type} {g : α → List β} : ∀ {l : List α}, (l.flatMap g).Nodup → ∀ x ∈ l, (g x).Nodup
  | [], _, x, hx => by cases hx
  | a :: l, n, x, hx => by
    rw [List.flatMap_cons, List.nodup_append] at n
    rcases List.mem_cons.mp hx with rfl | hx
    · exact n.1
    · exact flat_own n.2.1 x hx
theorem mem_own {f : Fo} {x : NLab} (hx : x ∈ nodes f) {b : Addr} (hb : b ∈ own x) : b ∈ adr f := by
  rw [adr_own]; exact List.mem_flatMap.mpr ⟨x, hx, hb⟩
/-- an address of a node stands for that node alone -/
theorem own_inj {f : Fo} (n : (adr f).Nodup) {x y : NLab} (hx : x ∈ nodes f) (hy : y ∈ nodes f) {b : Addr} (h1 : b ∈ own x) (h2 : b ∈ own y) : x = y := by
  rw [adr_own] at n; exact flat_inj n x hx y hy b h1 h2
theorem own_nodup {f : Fo} (n : (adr f).Nodup) {x : NLab} (hx : x ∈ nodes f) : (own x).Nodup := by
  rw [adr_own] at n; exact flat_own n x hx
theorem lsts_owner {n c : Addr} {f : Fo} : ((lsts n c f).map (·.1)) = n :: (nodes f).map (·.a) := by
  simp only [lsts, List.map_cons, List.map_map, ← nds_nodes n f, Function.comp_def]
theorem lsts_place {n c : Addr} {f : Fo} : ((lsts n c f).map (·.2.1)) = c :: (nodes f).map (·.c) := by
  simp only [lsts, List.map_cons, List.map_map, ← nds_nodes n f, Function.comp_def]
theorem sub_map {g : NLab → Addr} (hg : ∀ x, g x ∈ own x) : ∀ l : List NLab, (l.map g).Sublist (l.flatMap own)
  | [] => .slnil
  | x :: l => by
    rw [List.map_cons, List.flatMap_cons]
    exact ((List.singleton_sublist.mpr (hg x)).append (sub_map hg l))
theorem nodup_map {f : Fo} (n : (adr f).Nodup) {g : NLab → Addr} (hg : ∀ x, g x ∈ own x) : ((nodes f).map g).Nodup := by
  rw [adr_own] at n; exact (sub_map hg _).nodup n
theorem tops_sub : ∀ f : Fo, f.tops.Sublist (nodes f)
  | .nil => .slnil
  | .cons x ks r => by
    simp only [Fo.tops, nodes]
    exact .cons_cons _ ((tops_sub r).trans (List.sublist_append_right _ _))
theorem tops_nodup {f : Fo} (n : (adr f).Nodup) {g : NLab → Addr} (hg : ∀ x, g x ∈ own x) : (f.tops.map g).Nodup := ((tops_sub f).map g).nodup (nodup_map n hg)
/-- the forest without the nodes that p names; each node's row list anew -/
noncomputable def cutm (p : NLab → Bool) (ρ : NLab → Addr) : Fo → Fo
  | .nil => .nil
  | .cons x ks r => if p x then cutm p ρ r else .cons { x with rc := ρ x } (cutm p ρ ks) (cutm p ρ r)
theorem cutm_refs (p : NLab → Bool) (ρ : NLab → Addr) : ∀ f : Fo, (cutm p ρ f).refs = (f.tops.filter fun y => !p y).map fun y => .ref y.a
  | .nil => rfl
  | .cons x ks r => by
    unfold cutm
    cases hp : p x with
    | true => rw [if_pos rfl]; simp [Fo.tops, hp, cutm_refs p ρ r]
    | false => rw [if_neg Bool.false_ne_true]; simp [Fo.tops, Fo.refs, hp, cutm_refs p ρ r]
theorem cutm_rrefs (p : NLab → Bool) (ρ : NLab → Addr) : ∀ f : Fo, (cutm p ρ f).rrefs = (f.tops.filter fun y => !p y).map fun y => .ref y.r
  | .nil => rfl
  | .cons x ks r => by
    unfold cutm
    cases hp : p x with
    | true => rw [if_pos rfl]; simp [Fo.tops, hp, cutm_rrefs p ρ r]
    | false => rw [if_neg Bool.false_ne_true]; simp [Fo.tops, Fo.rrefs, hp, cutm_rrefs p ρ r]
theorem cutm_size (p : NLab → Bool) (ρ : NLab → Addr) : ∀ f : Fo, (cutm p ρ f).size ≤ f.size
  | .nil => Nat.le_refl _
  | .cons x ks r => by
    have h1 := cutm_size p ρ ks
    have h2 := cutm_size p ρ r
    unfold cutm
    split <;> simp only [Fo.size] <;> omega
theorem cutm_tr {w : World} {h : Heap} (p : NLab → Bool) (ρ : NLab → Addr) : ∀ {q : Addr} {f : Fo},
    (∀ y ∈ nds q f, One w h y.1 { y.2.1 with rc := ρ y.2.1 } ∧ ListAt h y.2.1.c ((y.2.2.tops.filter fun y => !p y).map fun y => .ref y.a) ∧ ListAt h (ρ y.2.1) ((y.2.2.tops.filter fun y => !p y).map fun y => .ref y.r)) → Tr w h q (cutm p ρ f)
  | _, .nil, _ => trivial
  | q, .cons x ks r, H => by
    simp only [nds, List.forall_mem_cons, List.forall_mem_append] at H
    obtain ⟨⟨h1, h2, h3⟩, h4, h5⟩ := H
    unfold cutm
    split
    · exact cutm_tr p ρ h5
    · exact ⟨h1, by rw [cutm_refs]; exact h2, by rw [cutm_rrefs]; exact h3, cutm_tr p ρ h4, cutm_tr p ρ h5⟩
theorem cutm_mem (p : NLab → Bool) (ρ : NLab → Addr) : ∀ {f : Fo} {b : Addr}, b ∈ adr (cutm p ρ f) → b ∈ adr f ∨ ∃ x ∈ nodes f, b = ρ x
  | .nil, b, hb => by simp [cutm, adr] at hb
  | .cons x ks r, b, hb => by
    have k1 := @cutm_mem p ρ ks b
    have k2 := @cutm_mem p ρ r b
    unfold cutm at hb
    simp only [adr, nodes, List.mem_cons, List.mem_append]
    split at hb
    · rcases k2 hb with q | ⟨y, q, e⟩
      · exact .inl (by simp [q])
      · exact .inr ⟨y, by simp [q], e⟩
    · simp only [adr, List.mem_cons, List.mem_append] at hb
      rcases hb with rfl | rfl | rfl | rfl | rfl | rfl | rfl | hb | hb
      · simp
      · simp
      · simp
      · simp
      · simp
      · exact .inr ⟨x, .inl rfl, rfl⟩
      · simp
      · rcases k1 hb with q | ⟨y, q, e⟩
        · exact .inl (by simp [q])
        · exact .inr ⟨y, by simp [q], e⟩
      · rcases k2 hb with q | ⟨y, q, e⟩
        · exact .inl (by simp [q])
        · exact .inr ⟨y, by simp [q], e⟩
theorem cutm_sub (p : NLab → Bool) : ∀ f : Fo, (adr (cutm p (·.rc) f)).Sublist (adr f)
  | .nil => .slnil
  | .cons x ks r => by
    have k1 := cutm_sub p ks
    have k2 := cutm_sub p r
    unfold cutm
    split
    · simp only [adr]
      exact .cons _ (.cons _ (.cons _ (.cons _ (.cons _ (.cons _ (.cons _ (k2.trans (List.sublist_append_right _ _))))))))
    · simp only [adr]
      exact .cons_cons _ (.cons_cons _ (.cons_cons _ (.cons_cons _ (.cons_cons _ (.cons_cons _ (.cons_cons _ (k1.append k2)))))))
theorem cutm_nodup (p : NLab → Bool) (ρ : NLab → Addr) : ∀ {f : Fo}, (adr f).Nodup → (∀ x ∈ nodes f, ∀ y ∈ nodes f, ρ x = ρ y → x = y) → (∀ x ∈ nodes f, ρ x ∉ adr f) → (adr (cutm p ρ f)).Nodup
  | .nil, _, _, _ => by simp [cutm, adr]
  | .cons x ks r, n, inj, nw => by
    have k1 : (∀ x ∈ nodes ks, ∀ y ∈ nodes ks, ρ x = ρ y → x = y) := fun a ha b hb => inj a (by simp [nodes, ha]) b (by simp [nodes, hb])
    have k2 : (∀ x ∈ nodes r, ∀ y ∈ nodes r, ρ x = ρ y → x = y) := fun a ha b hb => inj a (by simp [nodes, ha]) b (by simp [nodes, hb])
    have m1 : ∀ x ∈ nodes ks, ρ x ∉ adr ks := fun a ha q => nw a (by simp [nodes, ha]) (by simp [adr, q])
    have m2 : ∀ x ∈ nodes r, ρ x ∉ adr r := fun a ha q => nw a (by simp [nodes, ha]) (by simp [adr, q])
    have n0 := n
    simp only [adr, List.nodup_cons, List.mem_cons, List.mem_append, not_or, List.nodup_append] at n
    obtain ⟨a1, a2, a3, a4, a5, a6, a7, n1, n2, n3⟩ := n
    have K1 := cutm_nodup p ρ n1 k1 m1
    have K2 := cutm_nodup p ρ n2 k2 m2
    unfold cutm
    split
    · exact K2
    have old : ∀ b, b ∈ [x.a, x.d, x.c, x.hs, x.r, x.ts] → b ∉ adr (cutm p ρ ks) ∧ b ∉ adr (cutm p ρ r) ∧ b ≠ ρ x := fun b hb => by
      have hb' : b ∈ adr (.cons x ks r) := by simp only [adr, List.mem_cons] at hb ⊢; simp at hb; rcases hb with q | q | q | q | q | q <;> simp [q]
      have nb : b ∉ adr ks ∧ b ∉ adr r := by
        simp only [List.mem_cons, List.not_mem_nil, or_false] at hb
        rcases hb with rfl | rfl | rfl | rfl | rfl | rfl
        · exact a1.2.2.2.2.2.2
        · exact a2.2.2.2.2.2
        · exact a3.2.2.2.2
        · exact a4.2.2.2
        · exact a5.2.2
        · exact a7
      refine ⟨fun q => ?_, fun q => ?_, fun q => nw x (.head _) (q ▸ hb')⟩
      · rcases cutm_mem p ρ q with q | ⟨y, q, e⟩
        · exact nb.1 q
        · exact nw y (by simp [nodes, q]) (e ▸ hb')
      · rcases cutm_mem p ρ q with q | ⟨y, q, e⟩
        · exact nb.2 q
        · exact nw y (by simp [nodes, q]) (e ▸ hb')
    have rho : ρ x ∉ adr (cutm p ρ ks) ∧ ρ x ∉ adr (cutm p ρ r) := by
      have hx : x.a ∉ adr ks ∧ x.a ∉ adr r := a1.2.2.2.2.2.2
      refine ⟨fun q => ?_, fun q => ?_⟩
      · rcases cutm_mem p ρ q with q | ⟨y, q, e⟩
        · exact nw x (.head _) (by simp [adr, q])
        · have := inj x (.head _) y (by simp [nodes, q]) e
          subst this
          exact hx.1 (mem_own q (.head _))
      · rcases cutm_mem p ρ q with q | ⟨y, q, e⟩
        · exact nw x (.head _) (by simp [adr, q])
        · have := inj x (.head _) y (by simp [nodes, q]) e
          subst this
          exact hx.2 (mem_own q (.head _))
    have dj : ∀ a ∈ adr (cutm p ρ ks), ∀ b ∈ adr (cutm p ρ r), a ≠ b := fun a ha b hb e => by
      subst e
      rcases cutm_mem p ρ ha with q | ⟨y, q, e⟩ <;> rcases cutm_mem p ρ hb with q' | ⟨y', q', e'⟩
      · exact n3 a q a q' rfl
      · exact nw y' (by simp [nodes, q']) (by rw [← e']; simp [adr, q])
      · exact nw y (by simp [nodes, q]) (by rw [← e]; simp [adr, q'])
      · have := inj y (by simp [nodes, q]) y' (by simp [nodes, q']) (e.symm.trans e')
        subst this
        exact n3 y.a (mem_own q (.head _)) y.a (mem_own q' (.head _)) rfl
    have o1 := old x.a (by simp)
    have o2 := old x.d (by simp)
    have o3 := old x.c (by simp)
    have o4 := old x.hs (by simp)
    have o5 := old x.r (by simp)
    have o6 := old x.ts (by simp)
    simp only [adr, List.nodup_cons, List.mem_cons, List.mem_append, not_or, List.nodup_append]
    exact ⟨⟨a1.1, a1.2.1, a1.2.2.1, a1.2.2.2.1, o1.2.2, a1.2.2.2.2.2.1, o1.1, o1.2.1⟩, ⟨a2.1, a2.2.1, a2.2.2.1, o2.2.2, a2.2.2.2.2.1, o2.1, o2.2.1⟩, ⟨a3.1, a3.2.1, o3.2.2, a3.2.2.2.1, o3.1, o3.2.1⟩,
      ⟨a4.1, o4.2.2, a4.2.2.1, o4.1, o4.2.1⟩, ⟨o5.2.2, a5.2.1, o5.1, o5.2.1⟩, ⟨fun q => o6.2.2 q.symm, rho.1, rho.2⟩, ⟨o6.1, o6.2.1⟩, K1, K2, dj⟩

noncomputable abbrev wadr (R : Rad) (f : Fo) : List Addr := R.rt :: R.rd :: R.rc :: R.tr :: R.trc :: adr f
theorem nds_mem {p : Addr} {f : Fo} {y : Addr × NLab × Fo} (hy : y ∈ nds p f) : y.2.1 ∈ nodes f := by
  rw [← nds_nodes p f]; exact List.mem_map_of_mem hy
section
variable {w : World} {z : Nat} {h : Heap} {R : Rad} {f : Fo}
theorem Whole.nodA (X : Whole w z h R f) : (adr f).Nodup := by
  have := X.nod
  simp only [List.nodup_cons] at this
  exact this.2.2.2.2.2
theorem lsts_cases {n c : Addr} {e : Addr × Addr × Fo} (he : e ∈ lsts n c f) : e = (n, c, f) ∨ ∃ p x ks, (p, x, ks) ∈ nds n f ∧ e = (x.a, x.c, ks) := by
  rcases List.mem_cons.mp he with rfl | he
  · exact .inl rfl
  · obtain ⟨y, hy, rfl⟩ := List.mem_map.mp he
    exact .inr ⟨y.1, y.2.1, y.2.2, hy, rfl⟩
theorem Whole.one_ne (X : Whole w z h R f) {x : NLab} (hx : x ∈ nodes f) {b : Addr} (hb : b ∈ [x.a, x.d, x.hs, x.r, x.rc, x.ts]) : ∀ e ∈ lsts R.rt R.rc f, b ≠ e.2.1 := by
  intro e he q
  have bo : b ∈ own x := by
    simp only [List.mem_cons, List.not_mem_nil, or_false] at hb
    simp only [own, List.mem_cons, List.not_mem_nil, or_false]
    rcases hb with h | h | h | h | h | h <;> simp [h]
  rcases lsts_cases he with rfl | ⟨p, y, ks, hy, rfl⟩
  · have nod := X.nod
    simp only [List.nodup_cons, List.mem_cons, not_or] at nod
    have m := mem_own hx bo
    rw [q] at m
    exact nod.2.2.1.2.2 m
  · have := own_inj X.nodA hx (nds_mem hy) bo (q ▸ (by simp [own]))
    subst this
    have nd := own_nodup X.nodA hx
    simp only [own, List.nodup_cons, List.mem_cons, List.not_mem_nil, or_false, not_or] at nd
    dsimp only at q
    simp only [List.mem_cons, List.not_mem_nil, or_false] at hb
    rcases hb with h | h | h | h | h | h
    · exact nd.1.2.1 (h ▸ q)
    · exact nd.2.1.1 (h ▸ q)
    · exact nd.2.2.1.1 (h ▸ q).symm
    · exact nd.2.2.1.2.1 (h ▸ q).symm
    · exact nd.2.2.1.2.2.1 (h ▸ q).symm
    · exact nd.2.2.1.2.2.2 (h ▸ q).symm
theorem Whole.place (X : Whole w z h R f) : ∀ e ∈ lsts R.rt R.rc f, ∃ C dd, Cls C ∧ Nd h C e.1 dd e.2.1 ∧ ListAt h e.2.1 e.2.2.refs ∧ Tr w h e.1 e.2.2 ∧ ∀ e' ∈ lsts R.rt R.rc f, e.1 ≠ e'.2.1 ∧ dd ≠ e'.2.1 := by
  intro e he
  have tr := lsts_tr X.tr e he
  have li := lsts_list X.tr X.kids e he
  rcases lsts_cases he with rfl | ⟨p, y, ks, hy, rfl⟩
  · refine ⟨59, R.rd, .inl rfl, X.nd, li, tr, fun e' he' => ?_⟩
    have nod := X.nod
    simp only [List.nodup_cons, List.mem_cons, not_or] at nod
    rcases lsts_cases he' with rfl | ⟨p, y, ks, hy, rfl⟩
    · exact ⟨nod.1.2.1, nod.2.1.1⟩
    · have m : y.c ∈ adr f := mem_own (nds_mem hy) (by simp [own])
      exact ⟨fun q => nod.1.2.2.2.2 ((show R.rt = y.c from q) ▸ m), fun q => nod.2.1.2.2.2 ((show R.rd = y.c from q) ▸ m)⟩
  · have o := (tr_iff.mp X.tr _ hy).1
    exact ⟨80, y.d, .inr rfl, o.Nd, li, tr, fun e' he' => ⟨X.one_ne (nds_mem hy) (by simp) e' he', X.one_ne (nds_mem hy) (by simp) e' he'⟩⟩
theorem Whole.same_place (X : Whole w z h R f) {e e' : Addr × Addr × Fo} (he : e ∈ lsts R.rt R.rc f) (he' : e' ∈ lsts R.rt R.rc f) (q : e.2.1 = e'.2.1) : e = e' := by
  refine nodup_inj (g := fun e : Addr × Addr × Fo => e.2.1) ?_ e he e' he' q
  rw [lsts_place, List.nodup_cons]
  have nod := X.nod
  simp only [List.nodup_cons, List.mem_cons, not_or] at nod
  refine ⟨fun m => ?_, nodup_map X.nodA fun x => by simp [own]⟩
  obtain ⟨x, hx, e⟩ := List.mem_map.mp m
  exact nod.2.2.1.2.2 (e ▸ mem_own hx (by simp [own]))
theorem Whole.same_owner (X : Whole w z h R f) {e e' : Addr × Addr × Fo} (he : e ∈ lsts R.rt R.rc f) (he' : e' ∈ lsts R.rt R.rc f) (q : e.1 = e'.1) : e = e' := by
  refine nodup_inj (g := fun e : Addr × Addr × Fo => e.1) ?_ e he e' he' q
  rw [lsts_owner, List.nodup_cons]
  have nod := X.nod
  simp only [List.nodup_cons, List.mem_cons, not_or] at nod
  refine ⟨fun m => ?_, nodup_map X.nodA fun x => by simp [own]⟩
  obtain ⟨x, hx, e⟩ := List.mem_map.mp m
  exact nod.1.2.2.2.2 (e ▸ mem_own hx (by simp [own]))
theorem One.parent_inj {m m' : Addr} {x y : NLab} (o : One w h m x) (o' : One w h m' y) (q : x.a = y.a) : m = m' := by
  obtain ⟨es, n, t1, t2, i, _, _, _, _, _, _, e, _⟩ := o.nd
  obtain ⟨es', n', t1', t2', i', _, _, _, _, _, _, e', _⟩ := o'.nd
  have a := i.ob; have a' := i'.ob
  rw [q, a'] at a
  have d : x.d = y.d := by have := congrArg Obj.dict (Option.some.inj a); simpa [instObj] using this.symm
  have b := i.dt; have b' := i'.dt
  rw [d, b'] at b
  have es : es' = es := by have := congrArg Obj.data (Option.some.inj b); simpa [dictOf] using (Data.dict.inj this).1
  rw [← es, e'] at e
  cases e; rfl
theorem tops_one : ∀ {p : Addr} {f : Fo}, Tr w h p f → ∀ x ∈ f.tops, One w h p x
  | _, .nil, _, x, hx => by simp [Fo.tops] at hx
  | p, .cons y ks r, ⟨q1, _, _, _, q5⟩, x, hx => by
    rcases List.mem_cons.mp hx with rfl | hx
    · exact q1
    · exact tops_one q5 x hx
/-- a node stands in one list alone -/
theorem Whole.same_list (X : Whole w z h R f) {e e' : Addr × Addr × Fo} (he : e ∈ lsts R.rt R.rc f) (he' : e' ∈ lsts R.rt R.rc f) {x y : NLab} (hx : x ∈ e.2.2.tops) (hy : y ∈ e'.2.2.tops) (q : x.a = y.a) : e = e' :=
  X.same_owner he he' ((tops_one (lsts_tr X.tr e he) x hx).parent_inj (tops_one (lsts_tr X.tr e' he') y hy) q)
theorem nds_subn : ∀ {p : Addr} {f : Fo}, ∀ y ∈ nds p f, ∀ x ∈ nodes y.2.2, x ∈ nodes f
  | _, .nil, y, hy, _, _ => by simp [nds] at hy
  | p, .cons x ks r, y, hy, v, hv => by
    simp only [nds, List.mem_cons, List.mem_append] at hy
    simp only [nodes, List.mem_cons, List.mem_append]
    rcases hy with rfl | hy | hy
    · exact .inr (.inl hv)
    · exact .inr (.inl (nds_subn y hy v hv))
    · exact .inr (.inr (nds_subn y hy v hv))
theorem lsts_nodes {n c : Addr} {e : Addr × Addr × Fo} (he : e ∈ lsts n c f) : ∀ x ∈ e.2.2.tops, x ∈ nodes f := by
  intro x hx
  rcases lsts_cases he with rfl | ⟨p, y, ks, hy, rfl⟩
  · exact tops_nodes f x hx
  · exact nds_subn _ hy x (tops_nodes ks x hx)
end
/-- one that is met by its key alone is taken out: what is left -/
theorem erase_filter : ∀ {l : List NLab}, (l.map (·.a)).Nodup → ∀ x ∈ l, ∃ j, l[j]? = some x ∧ (∀ m, m < j → ∃ y, l[m]? = some y ∧ y.a ≠ x.a) ∧ l.eraseIdx j = l.filter fun y => !decide (y.a = x.a)
  | [], _, x, hx => by cases hx
  | v :: l, n, x, hx => by
    rw [List.map_cons, List.nodup_cons] at n
    by_cases q : v.a = x.a
    · have e : v = x := by
        rcases List.mem_cons.mp hx with e | hx'
        · exact e.symm
        · exact absurd (List.mem_map.mpr ⟨x, hx', q.symm⟩) n.1
      subst e
      refine ⟨0, rfl, fun m hm => absurd hm (Nat.not_lt_zero _), ?_⟩
      rw [List.eraseIdx_zero, List.tail_cons, List.filter_cons]
      rw [if_neg (by simp)]
      symm
      rw [List.filter_eq_self]
      intro y hy
      simp only [Bool.not_eq_true', decide_eq_false_iff_not]
      exact fun e => n.1 (List.mem_map.mpr ⟨y, hy, e⟩)
    · have hx' : x ∈ l := by
        rcases List.mem_cons.mp hx with e | hx'
        · exact absurd (by rw [e]) q
        · exact hx'
      obtain ⟨j, h1, h2, h3⟩ := erase_filter n.2 x hx'
      refine ⟨j + 1, by simpa using h1, fun m hm => ?_, ?_⟩
      · cases m with
        | zero => exact ⟨v, rfl, q⟩
        | succ m =>
          obtain ⟨y, a, b⟩ := h2 m (by omega)
          exact ⟨y, by simpa using a, b⟩
      · rw [List.eraseIdx_cons_succ, h3, List.filter_cons]
        rw [if_pos (by simp [q])]
/-- of a list, those at the places with the given rest -/
noncomputable def sel {α : Type} (wh : Int) : Nat → List α → List α
  | _, [] => []
  | n, x :: xs => if (n : Int) % 2 = wh then x :: sel wh (n + 1) xs else sel wh (n + 1) xs
theorem sel_app {α : Type} (wh : Int) : ∀ (n : Nat) (l : List α) (x : α), sel wh n (l ++ [x]) = sel wh n l ++ (if ((n + l.length : Nat) : Int) % 2 = wh then [x] else [])
  | n, [], x => by simp [sel]
  | n, y :: l, x => by
    simp only [List.cons_append, sel, List.length_cons]
    rw [sel_app wh (n + 1) l x]
    have : n + 1 + l.length = n + (l.length + 1) := by omega
    rw [this]
    split <;> simp
theorem sel_map {α β : Type} (wh : Int) (g : α → β) : ∀ (n : Nat) (l : List α), sel wh n (l.map g) = (sel wh n l).map g
  | n, [] => rfl
  | n, y :: l => by
    simp only [List.map_cons, sel, sel_map wh g (n + 1) l]
    split <;> simp
theorem sel_sub {α : Type} (wh : Int) : ∀ (n : Nat) (l : List α), (sel wh n l).Sublist l
  | n, [] => .slnil
  | n, y :: l => by
    unfold sel
    split
    · exact .cons_cons _ (sel_sub wh (n + 1) l)
    · exact .cons _ (sel_sub wh (n + 1) l)
theorem Whole.there {w : World} {z : Nat} {h : Heap} {R : Rad} {f : Fo} (X : Whole w z h R f) : ∀ b ∈ wadr R f, ∃ o, h.get? b = some o := by
  intro b hb
  simp only [List.mem_cons] at hb
  obtain ⟨es, n, i, _⟩ := X.nd.ex
  rcases hb with rfl | rfl | rfl | rfl | rfl | hb
  · exact ⟨_, i.ob⟩
  · exact ⟨_, i.dt⟩
  · exact X.kids.there
  · obtain ⟨_, _, l⟩ := X.row; exact l.there
  · exact X.rws.there
  · exact X.tr.there b hb
theorem lsts_wadr {R : Rad} {f : Fo} : ∀ e ∈ lsts R.rt R.rc f, e.1 ∈ wadr R f ∧ e.2.1 ∈ wadr R f := by
  intro e he
  rcases lsts_cases he with rfl | ⟨p, y, ks, hy, rfl⟩
  · simp
  · have m1 : y.a ∈ adr f := mem_own (nds_mem hy) (by simp [own])
    have m2 : y.c ∈ adr f := mem_own (nds_mem hy) (by simp [own])
    simp [m1, m2]
/-- of what a list of nodes names by place, the nodes' own mark -/
noncomputable def goneP (wh : Int) (dn : List (NLab × Addr)) (y : NLab) : Bool := decide (y.a ∈ (sel wh 0 dn).map (·.1.a))
theorem goneP_snoc (wh : Int) (dn : List (NLab × Addr)) (x : NLab × Addr) (y : NLab) : goneP wh (dn ++ [x]) y = (goneP wh dn y || (decide ((dn.length : Int) % 2 = wh) && decide (y.a = x.1.a))) := by
  unfold goneP
  rw [sel_app, Nat.zero_add, List.map_append, Bool.eq_iff_iff]
  split
  · rename_i h
    simp only [List.mem_append, List.map_cons, List.map_nil, List.mem_singleton, h, decide_true, Bool.true_and, Bool.or_eq_true, decide_eq_true_eq]
  · rename_i h
    simp only [List.map_nil, List.append_nil, h, decide_false, Bool.false_and, Bool.or_false, decide_eq_true_eq]
theorem lv_sub : ∀ (k : Nat) (f : Fo) (pc : Addr), ((lv k f pc).map (·.1)).Sublist (nodes f)
  | k, .nil, pc => by cases k <;> simp [lv, nodes]
  | 0, .cons x ks r, pc => by
    simp only [lv, nodes, List.map_cons]
    exact .cons_cons _ ((lv_sub 0 r pc).trans (List.sublist_append_right _ _))
  | k + 1, .cons x ks r, pc => by
    simp only [lv, nodes, List.map_append]
    exact .cons _ ((lv_sub k ks x.c).append (lv_sub (k + 1) r pc))
theorem gone_same {wh : Int} {dn : List (NLab × Addr)} {x : NLab × Addr} {l : List NLab} (hl : ∀ y ∈ l, ¬ ((dn.length : Int) % 2 = wh ∧ y.a = x.1.a)) : (l.filter fun y => !goneP wh (dn ++ [x]) y) = l.filter fun y => !goneP wh dn y := by
  refine List.filter_congr fun y hy => ?_
  rw [goneP_snoc]
  have := hl y hy
  cases goneP wh dn y with
  | true => simp
  | false =>
    simp only [Bool.false_or, Bool.not_false, Bool.not_eq_true', Bool.and_eq_false_iff, decide_eq_false_iff_not]
    by_cases q : (dn.length : Int) % 2 = wh
    · exact .inr fun e => this ⟨q, e⟩
    · exact .inl q
theorem gone_more {wh : Int} {dn : List (NLab × Addr)} {x : NLab × Addr} {l : List NLab} (hw : (dn.length : Int) % 2 = wh) : ((l.filter fun y => !goneP wh dn y).filter fun y => !decide (y.a = x.1.a)) = l.filter fun y => !goneP wh (dn ++ [x]) y := by
  rw [List.filter_filter]
  refine List.filter_congr fun y hy => ?_
  rw [goneP_snoc]
  simp only [hw, decide_true, Bool.true_and, Bool.not_or]
  rw [Bool.and_comm]
theorem sel_range (wh : Int) (n : Nat) : sel wh 0 (List.range (n + 1)) = sel wh 0 (List.range n) ++ (if (n : Int) % 2 = wh then [n] else []) := by
  rw [List.range_succ, sel_app, List.length_range, Nat.zero_add]
theorem map_erase {α β : Type} (g : α → β) : ∀ (l : List α) (j : Nat), (l.map g).eraseIdx j = (l.eraseIdx j).map g
  | [], j => by simp
  | x :: l, 0 => by simp
  | x :: l, j + 1 => by simp [map_erase g l j]
theorem tops_len : ∀ f : Fo, f.tops.length ≤ f.size
  | .nil => Nat.le_refl _
  | .cons x k r => by have := tops_len r; simp only [Fo.tops, Fo.size, List.length_cons]; omega

section
variable {w : World} {z : Nat} {A : Around} {E : Value → Shared → Prop} {B h : Heap} {L : Addr} {m : Str → Option Value} {g : Array GenState} {d : Drawn} {t : Nat} {o : OsState}
theorem kAddL {a b : Addr} {xs ys : List Value} {Q : Value → Shared → Prop} (F : Fm B L h m) (ha : ListAt B a xs) (hb : ListAt B b ys) (hz : xs.length + ys.length ≤ 900)
    (H : ∀ D h' B', Fm B' L h' m → Le B B' → ListAt B' D (xs ++ ys) → h.get? D = none → Q (.ref D) ⟨h', g, d, t, o⟩) :
    wpAny (model pr w) A (binaryOp .Add (.ref a) (.ref b)) Q E ⟨h, g, d, t, o⟩ := by
  obtain ⟨n, e⟩ := ha
  obtain ⟨n2, e2⟩ := hb
  refine P.add_list (F.keep _ _ e) (F.keep _ _ e2) ?_ (by rw [sizeLine_eq, List.size_toArray, List.size_toArray]; omega)
  rw [show xs.toArray ++ ys.toArray = (xs ++ ys).toArray by simp]
  obtain ⟨B', F', l', s1, n1, n2⟩ := kPush (ob := { cls := .type "list", data := .seq (xs ++ ys).toArray }) F rfl
  exact H _ _ B' F' l' ⟨0, s1⟩ n2
theorem eqInts {a b : Addr} {xs ys : List Value} {is : List Nat} {Q : Value → Shared → Prop} (hu : A.units < cLine) (ha : ListAt h a xs) (hb : ListAt h b ys) (va : ValsAre (fun (j : Nat) v => ∃ t, v = .int (j : Int) t) is xs) (vb : ValsAre (fun (j : Nat) v => ∃ t, v = .int (j : Int) t) is ys) (H : Q (.bool true) ⟨h, g, d, t, o⟩) :
    wpAny (model pr w) A (compareOp .Eq (.ref a) (.ref b)) Q E ⟨h, g, d, t, o⟩ := by
  obtain ⟨n, e1⟩ := ha
  obtain ⟨n2, e2⟩ := hb
  have la := va.len
  have lb := vb.len
  refine cmp_ofEq (richCompare_meets_room (op := .Eq) (T := "list") ⟨_, e1, rfl⟩ ⟨_, e2, rfl⟩ F.slot_list_eq F.entry_list_eq (F.args_list_eq_2 _ _) (SeqAt.list_eqAt a b xs.toArray ys.toArray n n2 none none #[] #[] (by rw [List.size_toArray, List.size_toArray, la, lb]) fun _ => true)
      ⟨e1, e2, fun j h1 h2 => ?_, (fun e => nomatch e), by rw [show ((List.range xs.toArray.size).all fun _ => true) = true from List.all_eq_true.mpr fun _ _ => rfl]; exact H⟩ hu)
  rw [List.size_toArray] at h1 h2
  obtain ⟨v, hv, t1, rfl⟩ := va.at j _ (List.getElem?_eq_getElem (by omega))
  obtain ⟨v', hv', t2, rfl⟩ := vb.at j _ (List.getElem?_eq_getElem (by omega))
  rw [List.getElem?_eq_getElem h1] at hv
  rw [List.getElem?_eq_getElem h2] at hv'
  simp only [List.getElem_toArray]
  rw [Option.some.inj hv, Option.some.inj hv']
  intro prog w E Q hq
  exact wpAny_eqBool_int (by simpa using hq)
theorem kIsRef {a b : Addr} {xs ys : List Value} {Q : Value → Shared → Prop} (ha : ListAt h a xs) (hb : ListAt h b ys) (H : Q (.bool (decide (a = b))) ⟨h, g, d, t, o⟩) :
    wpAny (model pr w) A (compareOp .Is (.ref a) (.ref b)) Q E ⟨h, g, d, t, o⟩ := by
  by_cases q : a = b
  · subst q
    exact wpAny_is_ref_self (by simpa using H)
  · obtain ⟨n, e1⟩ := ha
    obtain ⟨n2, e2⟩ := hb
    exact wpAny_is_ref_other q e1 e2 (by simp) (by simpa [q] using H)
end
section
variable {w : World} {z : Nat} {A : Around} {E : Value → Shared → Prop} {h : Heap} {g : Array GenState} {d : Drawn} {t : Nat} {o : OsState}
theorem isComp {scope : Scope} {pos p1 p2 p3 p4 p5 p6 : Pos} {env : Env} {cl : List (Str × Addr)} {L cc ct Dt cr : Addr} {Q : Value → Shared → Prop} {B : Heap} {m : Str → Option Value} {ts : List Addr} {cx : List Value}
    (hclos : closureFor scope env = pure cl) (hcell : (scope.names.all fun x => x.2 != .cell) = true) (hkind : scope.kind = .function)
    (hnames : (scope.names.all fun x => x.2 != .local || scope.names.lookup x.1 == some .local) = true) (hs : ∀ x, foldedSetIterable (.Name (Str.ofString "taken") p3) env x = pure x)
    (ho : ∀ C, (compEnvC scope cl C env).kindOf (Str.ofString "one") = some .local) (hc : ∀ C, (compEnvC scope cl C env).kindOf (Str.ofString "child") = some .cell) (hcc : ∀ C, (compEnvC scope cl C env).cells.lookup (Str.ofString "child") = some cc) (hk : ∀ C, (compEnvC scope cl C env).scope.kind = .function)
    (hek : env.scope.kind = .function) (het : env.kindOf (Str.ofString "taken") = some .cell) (hct : env.cells.lookup (Str.ofString "taken") = some ct)
    (hh : A.handled = none) (F : Fm B L h m) (ctk : B.IsCell ct (some (.ref Dt))) (lt : ListAt B Dt (ts.map Value.ref)) (tl : ∀ a ∈ ts, ∃ xs, ListAt B a xs) (cch : B.IsCell cc (some (.ref cr))) (lc : ListAt B cr cx) (hz : ts.length ≤ 900)
    (H : ∀ D h' g' d' t' B₁, Fm B₁ L h' m → Le B B₁ → ListAt B₁ D ((ts.filter fun a => decide (a = cr)).map Value.ref) → h.get? D = none → KpG noneG g g' → Q (.ref D) ⟨h', g', d', t', o⟩) :
    wpAny (model pr w) A (eval (.ListComp (.Name (Str.ofString "one") p1) [⟨.Name (Str.ofString "one") p2, .Name (Str.ofString "taken") p3, [.Compare (.Name (Str.ofString "one") p4) [.Is] [.Name (Str.ofString "child") p5] p6], 0⟩] scope pos) env) Q E ⟨h, g, d, t, o⟩ := by
  refine lcRule (L := L) hclos hcell hkind hnames hs ?_
  refine eCell3 het hct hek rfl F ctk ?_
  refine kIterL F lt fun it h₂ B₂ F₂ K₂ k₂ n₂ e₂ I₂ => ?_
  have itL : ¬ L = it := fun q => by obtain ⟨ob, e⟩ := F.there; rw [q, n₂] at e; cases e
  have upB : ∀ b ob, B.get? b = some ob → B₂.get? b = some ob ∧ ¬ b = it := fun b ob e => ⟨K₂ b ob e, fun q => by have := F.keep _ _ e; rw [q, n₂] at this; cases this⟩
  refine ⟨_, _, _, ts, _, _, _, B₂, m, fun rem ys Ft B₁ => ∃ dn, dn ++ rem = ts ∧ ys = (dn.filter fun a => decide (a = cr)).map Value.ref, (itr_list hh e₂).map Value.ref, I₂, F₂, itL, fun _ _ _ q _ => wpAny_pure q, fun _ _ _ _ _ q _ => q, ?_, fun B₁ => ⟨[], rfl, rfl⟩, ?_, ?_⟩
  · rintro rem ys Ft B₁ ⟨dn, e, rfl⟩
    have h1 := List.length_filter_le (fun a => decide (a = cr)) dn
    have h2 := congrArg List.length e
    rw [List.length_append] at h2
    rw [List.length_map, sizeLine_eq]; omega
  · rintro C x rem ys v R' Ft B₁ h₃ g₃ d₃ t₃ m₁ ⟨dn, e, rfl⟩ F₁ k₁ ⟨rfl, _⟩
    have le1 : Le B B₁ := fun b ob e => k₁ b ob (upB b ob e).2 (upB b ob e).1
    obtain ⟨xl, lx⟩ := tl x (by rw [← e]; simp)
    refine wpAny_assign_Name (kStore F₁ rfl (hk C) (ho C) fun h₅ t₅ F₅ => ?_)
    show wpAny _ A (ForIn.forIn _ _ _) _ _ _
    rw [List.forIn_cons]
    simp only [if_true]
    refine wpAny_bind (wpAny_bind (wpAny_isTrue_Compare1 (eLocal3 (ho C) F₅ rfl (hk C) (if_pos rfl) rfl (eCell3 (hc C) (hcc C) (hk C) rfl F₅ (cch.keeps le1) (kIsRef ((lx.le le1).le F₅.keep) ((lc.le le1).le F₅.keep) (wpAny_truthy_bool ?_)))) rfl))
    refine wpAny_pure ?_
    show wpAny _ A (ForIn.forIn _ _ _) _ _ _
    rw [List.forIn_nil]
    refine wpAny_pure ?_
    have fil : (((dn ++ [x]).filter fun a => decide (a = cr)).map Value.ref) = ((dn.filter fun a => decide (a = cr)).map Value.ref) ++ (if x = cr then [Value.ref x] else []) := by
      rw [List.filter_append, List.map_append]
      by_cases q : x = cr <;> simp [q]
    cases hok : decide (x = cr) with
    | false =>
      have hok' := of_decide_eq_false hok
      rw [if_neg Bool.false_ne_true]
      refine ⟨none1, B₁, h₅, g₃, d₃, t₅, _, rfl, F₅, .refl _ _, .refl _ _, ⟨dn ++ [x], by simpa using e, ?_⟩, fun b q => q.elim⟩
      rw [fil, if_neg hok', List.append_nil]
    | true =>
      have hok' := of_decide_eq_true hok
      rw [if_pos rfl]
      refine eLocal3 (ho C) F₅ rfl (hk C) (if_pos rfl) rfl ?_
      refine ⟨none1, B₁, h₅, g₃, d₃, t₅, _, rfl, F₅, .refl _ _, .refl _ _, ⟨dn ++ [x], by simpa using e, ?_⟩, fun b q => q.elim⟩
      rw [fil, if_pos hok']
  · rintro ys Ft B₁ D h g d t ⟨dn, e, rfl⟩ F₁ k₁ l₁ nD kg
    rw [List.append_nil] at e
    subst e
    exact H D h g d t B₁ F₁ (fun b ob e => k₁ b ob (upB b ob e).2 (upB b ob e).1) l₁ (none_of k₂ nD) kg
end
section
variable {w : World} {A : Around} {E : Value → Shared → Prop}
/-- a comprehension whose scope has one cell -/
noncomputable def compEnvX (scope : Scope) (x : Str) (cl : List (Str × Addr)) (C : Addr) (env : Env) : Env := compEnvC scope ((x, C + 1) :: cl) C env
theorem lcCoreC {elt target iter : Expr} {ifs : List Expr} {rest : List Comprehension} {scope : Scope} {pos : Pos} {env : Env} {cl : List (Str × Addr)} {x : Str} {Q : Value → Shared → Prop} {s : Shared}
    (hclos : closureFor scope env = pure cl) (hpc : ∀ h, pushCells h scope.names = h.push { cls := .type "cell", data := .cell none }) (hcf : ∀ n acc, cellsFrom n scope.names acc = (x, n) :: acc) (hkind : scope.kind = .function)
    (hnames : (scope.names.all fun x => x.2 != .local || scope.names.lookup x.1 == some .local) = true) (hs : ∀ x, foldedSetIterable iter env x = pure x)
    (H : wpAny (model pr w) A (eval iter env) (fun v s₁ => wpAny (model pr w) A (pyIter v) (fun I s₂ =>
      (∀ (h : Heap) (d' : Drawn) (t' : Nat) (Q' : Value → Shared → Prop), (∀ b o, s₂.heap.get? b = some o → h.get? b = some o) → Q' I ⟨h, s₂.gens, d', t', s₂.os⟩ → wpAny (model pr w) A (pyIter I) Q' (fun _ _ => False) ⟨h, s₂.gens, d', t', s₂.os⟩) ∧
      ∀ (C D : Addr) (h₄ : Heap) (t₄ : Nat), h₄.Ns C (fun _ => none) → (∀ b o, s₂.heap.get? b = some o → h₄.get? b = some o) → ListAt h₄ D [] → h₄.IsCell (C + 1) none → s₂.heap.get? C = none → s₂.heap.get? D = none → s₂.heap.get? (C + 1) = none → D ≠ C → D ≠ C + 1 → s₂.heap.objs.size ≤ D →
        codeAny (model pr w) A (.compLoop (.ListComp elt (⟨target, iter, ifs, 0⟩ :: rest) scope pos) 0 I (.ref D) (compEnvX scope x cl C env)) (fun r s' => ∃ fl mC, r = .ok fl ∧ s'.heap.Ns C mC ∧ ∀ h₅, Heap.SameBut C s'.heap h₅ → Q (.ref D) { s' with heap := h₅ }) ⟨h₄, s₂.gens, s₂.drawn, t₄, s₂.os⟩) E s₁) E s) :
    wpAny (model pr w) A (eval (.ListComp elt (⟨target, iter, ifs, 0⟩ :: rest) scope pos) env) Q E s := by
  rw [eval_ListComp]
  refine wpAny_comprehension_free (use := none) rfl hs hclos hkind (fun x hx hl => ?_) (wpAny_mono H (fun x s₁ h₁ => wpAny_mono h₁ (fun I s₂ h₂ => ?_) fun _ _ e => e) fun _ _ e => e)
  · have := List.all_eq_true.mp hnames x hx
    simpa [hl] using this
  obtain ⟨self, go⟩ := h₂
  obtain ⟨h, g, d, t, o⟩ := s₂
  dsimp only at self go
  have hnone : h.get? h.objs.size = none := get_new
  refine wpAny_newObj_type ?_ (by size_fits)
  simp only [newFunctionEnv, Option.isSome_some, if_true]
  refine wpAny_bind (wpAny_alloc ?_)
  refine wpAny_bind (wpAny_layCells _ (fun name kind cells => by cases kind == NameKind.cell <;> simp) _ _ _ _ ?_)
  rw [hcf, hpc]
  refine wpAny_bind ?_
  rw [List.forIn_nil]
  refine wpAny_pure (wpAny_pure ?_)
  dsimp only
  have sC : (h.push { cls := .type "list", data := .seq #[] }).objs.size = h.objs.size + 1 := Heap.size_push ..
  have sC1 : ((h.push { cls := .type "list", data := .seq #[] }).push { cls := .type "dict", data := .dict #[] }).objs.size = h.objs.size + 1 + 1 := by rw [Heap.size_push, sC]
  have up : ∀ b ob, h.get? b = some ob → (((h.push { cls := .type "list", data := .seq #[] }).push { cls := .type "dict", data := .dict #[] }).push { cls := .type "cell", data := .cell none }).get? b = some ob := fun b ob e => Heap.get?_push_of_some _ (Heap.get?_push_of_some _ (Heap.get?_push_of_some _ e))
  have beyond : ∀ b, h.objs.size ≤ b → h.get? b = none := fun b hb => by
    cases q : h.get? b with
    | none => rfl
    | some ob => exact absurd (Heap.lt_size q) (Nat.not_lt.mpr hb)
  have n1 : (((h.push { cls := .type "list", data := .seq #[] }).push { cls := .type "dict", data := .dict #[] }).push { cls := .type "cell", data := .cell none }).Ns (h.objs.size + 1) (fun _ => none) := by
    have := (Heap.Ns.new (h.push { cls := .type "list", data := .seq #[] }) (.type "dict")).keeps (h' := ((h.push { cls := .type "list", data := .seq #[] }).push { cls := .type "dict", data := .dict #[] }).push { cls := .type "cell", data := .cell none }) fun b o e => Heap.get?_push_of_some _ e
    rwa [sC] at this
  have n2 : (((h.push { cls := .type "list", data := .seq #[] }).push { cls := .type "dict", data := .dict #[] }).push { cls := .type "cell", data := .cell none }).IsCell (h.objs.size + 1 + 1) none := by
    refine ⟨{ cls := .type "cell", data := .cell none }, ?_, rfl⟩
    have := Heap.get?_push_size ((h.push { cls := .type "list", data := .seq #[] }).push { cls := .type "dict", data := .dict #[] }) (o := { cls := .type "cell", data := .cell none }) rfl
    rwa [sC1] at this
  have n3 : ListAt (((h.push { cls := .type "list", data := .seq #[] }).push { cls := .type "dict", data := .dict #[] }).push { cls := .type "cell", data := .cell none }) h.objs.size [] :=
    ⟨0, Heap.get?_push_of_some _ (Heap.get?_push_of_some _ (Heap.get?_push_size _ rfl))⟩
  rw [sC1, sC]
  generalize ((h.push { cls := .type "list", data := .seq #[] }).push { cls := .type "dict", data := .dict #[] }).push { cls := .type "cell", data := .cell none } = h₄ at up n1 n2 n3 ⊢
  refine compStart_go (fun Q' q => self _ _ _ _ up q) ?_
  refine codeAny_mono (go (h.objs.size + 1) h.objs.size h₄ t n1 up n3 n2 (beyond _ (Nat.le_succ _)) hnone (beyond _ (Nat.le_succ_of_le (Nat.le_succ _))) (Nat.ne_of_lt (Nat.lt_succ_self _)) (Nat.ne_of_lt (Nat.lt_succ_of_lt (Nat.lt_succ_self _))) (Nat.le_refl _)) fun r s' q => ?_
  obtain ⟨fl, mC, rfl, n, q⟩ := q
  exact ⟨mC, n, q⟩
end
section
variable {w : World} {A : Around} {E : Value → Shared → Prop}
theorem sweepLoop {it0 : Expr} {isc scope : Scope} {pos p1 p2 p3 q1 q2 q3 q4 q5 q6 q7 : Pos} {env : Env} {cl : List (Str × Addr)} {C D I l cc ct Dt : Addr} {items : Array Value} {ts : List Addr} {Bb : Heap} {g₀ : Array GenState} {R : Result → Shared → Prop}
    (hh : A.handled = none) (hu : A.units < cLine) (hC : env.locals = C) (hk : env.scope.kind = .function) (hl : env.kindOf (Str.ofString "child") = some .cell) (hcc : env.cells.lookup (Str.ofString "child") = some cc) (het : env.kindOf (Str.ofString "taken") = some .cell) (hct : env.cells.lookup (Str.ofString "taken") = some ct)
    (hclos : closureFor isc env = pure cl) (hcell : (isc.names.all fun x => x.2 != .cell) = true) (hkind : isc.kind = .function)
    (hnames : (isc.names.all fun x => x.2 != .local || isc.names.lookup x.1 == some .local) = true) (hs : ∀ x, foldedSetIterable (.Name (Str.ofString "taken") q3) env x = pure x)
    (ho : ∀ C, (compEnvC isc cl C env).kindOf (Str.ofString "one") = some .local) (hc : ∀ C, (compEnvC isc cl C env).kindOf (Str.ofString "child") = some .cell) (hcc' : ∀ C, (compEnvC isc cl C env).cells.lookup (Str.ofString "child") = some cc) (hk' : ∀ C, (compEnvC isc cl C env).scope.kind = .function)
    (nD : Bb.get? D = none) (nI : Bb.get? I = none) (ncc : Bb.get? cc = none) (nDI : D ≠ I) (nDcc : D ≠ cc) (nIcc : I ≠ cc)
    (ctk : Bb.IsCell ct (some (.ref Dt))) (lt : ListAt Bb Dt (ts.map Value.ref)) (tl : ∀ a ∈ ts, ∃ xs, ListAt Bb a xs) (htz : ts.length ≤ 900) (hli : Bb.IsList l items) :
    ∀ (ws acc : List Addr) (i : Nat) (h : Heap) (g : Array GenState) (d : Drawn) (t : Nat) (o : OsState) (B : Heap) (m : Str → Option Value) (v₀ : Option Value), Fm B C h m → Le Bb B → ListAt B D (acc.map Value.ref) → B.IsListIter I l i → B.IsCell cc v₀ → items.toList.drop i = ws.map Value.ref → (∀ a ∈ ws, ∃ xs, ListAt Bb a xs) →
      (acc ++ ws).length ≤ 900 → KpG noneG g₀ g →
      (∀ h' g' d' t' B' m', Fm B' C h' m' → Le Bb B' → KpG noneG g₀ g' → ListAt B' D ((acc ++ ws.filter fun a => !decide (a ∈ ts)).map Value.ref) → R (.ok .next) ⟨h', g', d', t', o⟩) →
      codeAny (model pr w) A (.compLoop (.ListComp (.Name (Str.ofString "child") p1) [⟨.Name (Str.ofString "child") p2, it0, [.UnaryOp .Not (.ListComp (.Name (Str.ofString "one") q1) [⟨.Name (Str.ofString "one") q2, .Name (Str.ofString "taken") q3, [.Compare (.Name (Str.ofString "one") q4) [.Is] [.Name (Str.ofString "child") q5] q6], 0⟩] isc q7) p3], 0⟩] scope pos) 0 (.ref I) (.ref D) env) R ⟨h, g, d, t, o⟩ := by
  intro ws
  induction ws with
  | nil =>
    intro acc i h g d t o B m v₀ F leB lD hi hcv hw hwl hz kg H
    refine codeAny_of_tree ?_
    rw [Around.under_of_weight (by rfl) (by rfl)]
    show wpAny _ A ((compTurn _ 0 (.ref I) (.ref D) env).onRaise _) _ _ _
    refine noRaise ?_
    rw [compTurn_list]
    have e1 : items[i]? = none := by
      have : items.toList[i]? = none := by rw [← List.head?_drop, hw]; rfl
      simpa using this
    obtain ⟨oi, f1, f2⟩ := id hi
    obtain ⟨ol, l1, l2⟩ := id hli
    refine wpAny_bind (wpAny_standAt (wpAny_bind (wpAny_pyNext_list_end hh ⟨oi, F.keep _ _ f1, f2⟩ ⟨ol, F.keep _ _ (leB _ _ l1), l2⟩ e1 fun h' hs => ?_)))
    refine wpAny_pure ?_
    have nIC : I ≠ C := F.off_ne f1
    obtain ⟨B', F', kB, up⟩ := F.after (W := fun b => b = I) (fun b ob n e => hs b ob n e) (fun q => nIC q.symm)
    exact H h' g d t B' m F' (fun b ob e => kB b ob (ne_of e nI) (leB b ob e)) kg (by simpa using lD.kp kB nDI)
  | cons v ws ih =>
    intro acc i h g d t o B m v₀ F leB lD hi hcv hw hwl hz kg H
    refine codeAny_of_tree ?_
    rw [Around.under_of_weight (by rfl) (by rfl)]
    show wpAny _ A ((compTurn _ 0 (.ref I) (.ref D) env).onRaise _) _ _ _
    refine noRaise ?_
    rw [compTurn_list]
    have e1 : items[i]? = some (.ref v) := by
      have : items.toList[i]? = some (.ref v) := by rw [← List.head?_drop, hw]; rfl
      simpa using this
    obtain ⟨oi, f1, f2, f3⟩ := id hi
    obtain ⟨ol, l1, l2⟩ := id hli
    refine wpAny_bind (wpAny_standAt (wpAny_bind (wpAny_pyNext_list_item (⟨oi, F.keep _ _ f1, f2, f3⟩) (⟨ol, F.keep _ _ (leB _ _ l1), l2⟩) e1 fun h' hi' hsb => ?_)))
    have nIC : I ≠ C := F.off_ne f1
    obtain ⟨B', F', kB, up⟩ := F.after (W := fun b => b = I) (fun b ob n e => (hsb.2 b n).trans e) (fun q => nIC q.symm)
    refine wpAny_bind (wpAny_pure ?_)
    have cv' : B'.IsCell cc v₀ := IsCell.kp hcv kB (fun q => nIcc q.symm)
    refine wpAny_bind (wpAny_assign_Name (kStoreC F' cv' hcc hk hl fun h₂ B₂ F₂ K₂ c₂ => ?_))
    have leB2 : Le Bb B₂ := fun b ob e => K₂ b ob (ne_of e ncc) (kB b ob (ne_of e nI) (leB b ob e))
    have lD₂ : ListAt B₂ D (acc.map Value.ref) := (lD.kp kB nDI).kp K₂ nDcc
    obtain ⟨oi', g1, g2, g3⟩ := hi'
    have i₂ : B₂.IsListIter I l (i + 1) := ⟨oi', K₂ _ _ nIcc (up _ _ nIC g1), g2, g3⟩
    obtain ⟨vx, lv⟩ := hwl v (.head _)
    have fin : ∀ (acc' : List Addr) h₃ g₃ d₃ t₃ B₃ m₃, Fm B₃ C h₃ m₃ → Le Bb B₃ → ListAt B₃ D (acc'.map Value.ref) → B₃.IsListIter I l (i + 1) → B₃.IsCell cc (some (.ref v)) → KpG noneG g₀ g₃ → (acc' ++ ws).length ≤ 900 → (acc' ++ ws.filter fun a => !decide (a ∈ ts)) = (acc ++ (v :: ws).filter fun a => !decide (a ∈ ts)) →
        wpAny (model pr w) A (again (.compLoop (.ListComp (.Name (Str.ofString "child") p1) [⟨.Name (Str.ofString "child") p2, it0, [.UnaryOp .Not (.ListComp (.Name (Str.ofString "one") q1) [⟨.Name (Str.ofString "one") q2, .Name (Str.ofString "taken") q3, [.Compare (.Name (Str.ofString "one") q4) [.Is] [.Name (Str.ofString "child") q5] q6], 0⟩] isc q7) p3], 0⟩] scope pos) 0 (.ref I) (.ref D) env))
          (fun fin s' => match fin with | .done f => R (.ok f) s' | .again c' => c'.quiet = true ∧ codeAny (model pr w) A c' R s') (fun _ _ => False) ⟨h₃, g₃, d₃, t₃, o⟩ := by
      intro acc' h₃ g₃ d₃ t₃ B₃ m₃ F₃ le₃ l₃ i₃ c₃ kg₃ hz₃ he
      refine wpAny_pure ⟨rfl, ih acc' (i + 1) h₃ g₃ d₃ t₃ o B₃ m₃ _ F₃ le₃ l₃ i₃ c₃ (by rw [← List.tail_drop, hw]; rfl) (fun a ha => hwl a (.tail _ ha)) hz₃ kg₃ fun h' g' d' t' B' m' F' le' kg' l' => ?_⟩
      rw [he] at l'
      exact H h' g' d' t' B' m' F' le' kg' l'
    have hz' : (acc ++ ws).length ≤ 900 := by simp only [List.length_append, List.length_cons] at hz ⊢; omega
    show wpAny _ A (ForIn.forIn _ _ _ >>= _) _ _ _
    rw [List.forIn_cons]
    simp only [if_true]
    refine wpAny_bind (wpAny_bind (wpAny_bind (isTrue_not (isTrue_plain (isComp hclos hcell hkind hnames hs ho hc hcc' hk' hk het hct hh F₂ (ctk.keeps leB2) (lt.le leB2) (fun a ha => let ⟨xs, q⟩ := tl a ha; ⟨xs, q.le leB2⟩) c₂ (lv.le leB2) htz fun D' h₃ g₃ d₃ t₃ B₃ F₃ K₃ l₃ n₃ kg₃ => ?_)))))
    refine kTruthyL F₃ l₃ (by have := List.length_filter_le (fun a => decide (a = v)) ts; rw [List.length_map]; omega) fun t₄ => ?_
    refine wpAny_pure ?_
    show wpAny _ A (ForIn.forIn _ _ _) _ _ _
    rw [List.forIn_nil]
    refine wpAny_pure ?_
    have kg3 := kg.step kg₃ fun _ q => q.elim
    have le3 : Le Bb B₃ := leB2.trans K₃
    have i₃ : B₃.IsListIter I l (i + 1) := let ⟨oi', a, b⟩ := i₂; ⟨oi', K₃ _ _ a, b⟩
    have emp : (!(!((ts.filter fun a => decide (a = v)).map Value.ref).isEmpty)) = !decide (v ∈ ts) := by
      by_cases q : v ∈ ts
      · have : (ts.filter fun a => decide (a = v)) ≠ [] := fun e => by
          have := List.filter_eq_nil_iff.mp e v q
          simp at this
        cases hq : (ts.filter fun a => decide (a = v)) with
        | nil => exact absurd hq this
        | cons _ _ => simp [q]
      · have : (ts.filter fun a => decide (a = v)) = [] := List.filter_eq_nil_iff.mpr fun a ha => by
          simp only [decide_eq_true_eq]; exact fun e => q (e ▸ ha)
        rw [this]; simp [q]
    rw [emp]
    by_cases q : v ∈ ts
    · rw [show (!decide (v ∈ ts)) = false by simp [q]]
      exact fin acc h₃ g₃ d₃ t₄ B₃ m F₃ le3 (lD₂.le K₃) i₃ (c₂.keeps K₃) kg3 hz' (by rw [List.filter_cons, if_neg (by simp [q])])
    · rw [show (!decide (v ∈ ts)) = true by simp [q]]
      refine wpAny_bind (wpAny_bind (eCell3 hl hcc hk rfl F₃ (c₂.keeps K₃) ?_))
      refine wpAny_bind (lAppend F₃ (lD₂.le K₃) (by rw [sizeLine_eq, List.length_map]; simp only [List.length_append] at hz'; omega) fun h₅ B₅ F₅ K₅ l₅ => wpAny_pure ?_)
      refine fin (acc ++ [v]) h₅ g₃ d₃ t₄ B₅ m F₅ (fun b ob e => K₅ b ob (ne_of e nD) (le3 b ob e)) (by simpa using l₅) (let ⟨oi', a, b⟩ := i₃; ⟨oi', K₅ _ _ (fun q => nDI q.symm) a, b⟩) (IsCell.kp (c₂.keeps K₃) K₅ fun q => nDcc q.symm) kg3 (by simp only [List.length_append, List.length_cons, List.length_nil] at hz ⊢; omega) (by rw [List.filter_cons, if_pos (by simp [q])]; simp)
end

section
variable {w : World} {z : Nat} {A : Around} {E : Value → Shared → Prop} {h : Heap} {g : Array GenState} {d : Drawn} {t : Nat} {o : OsState}
/-- behind a comprehension: the caller's frame -/
theorem comp_out {B h B' h' h₅ : Heap} {L C : Addr} {m m' : Str → Option Value} (F : Fm B L h m) (F' : Fm B' C h' m') (k : Le h B') (hs : Heap.SameBut C h' h₅) : ∃ B₅, Fm B₅ L h₅ m ∧ Le B B₅ ∧ ∀ b o, b ≠ L → B'.get? b = some o → B₅.get? b = some o := by
  have k5 : ∀ b ob, B'.get? b = some ob → h₅.get? b = some ob := fun b ob e => (hs.2 b (F'.off_ne e)).trans (F'.keep _ _ e)
  refine ⟨B'.hide L, ⟨F.ns.keeps fun b ob e => k5 b ob (k b ob e), fun b ob e => k5 b ob (Heap.of_hide e), Heap.hide_self _ _⟩, fun b ob e => (Heap.hide_ne _ (F.off_ne e)).trans (k b ob (F.keep _ _ e)), fun b ob n e => (Heap.hide_ne _ n).trans e⟩
theorem sweepComp {it0 : Expr} {isc scope : Scope} {pos p1 p2 p3 q1 q2 q3 q4 q5 q6 q7 : Pos} {env : Env} {cl : List (Str × Addr)} {ich : Addr → List (Str × Addr)} {L l ct Dt : Addr} {ws ts : List Addr} {B : Heap} {m : Str → Option Value} {Q : Value → Shared → Prop}
    (hclos : closureFor scope env = pure cl) (hpc : ∀ h, pushCells h scope.names = h.push { cls := .type "cell", data := .cell none }) (hcf : ∀ n acc, cellsFrom n scope.names acc = (Str.ofString "child", n) :: acc) (hkind : scope.kind = .function)
    (hnames : (scope.names.all fun x => x.2 != .local || scope.names.lookup x.1 == some .local) = true) (hs : ∀ x, foldedSetIterable it0 env x = pure x)
    (hk : ∀ C, (compEnvX scope (Str.ofString "child") cl C env).scope.kind = .function) (hl : ∀ C, (compEnvX scope (Str.ofString "child") cl C env).kindOf (Str.ofString "child") = some .cell) (het : ∀ C, (compEnvX scope (Str.ofString "child") cl C env).kindOf (Str.ofString "taken") = some .cell)
    (hcc : ∀ C, (compEnvX scope (Str.ofString "child") cl C env).cells.lookup (Str.ofString "child") = some (C + 1)) (hct : ∀ C, (compEnvX scope (Str.ofString "child") cl C env).cells.lookup (Str.ofString "taken") = some ct)
    (iclos : ∀ C, closureFor isc (compEnvX scope (Str.ofString "child") cl C env) = pure (ich C)) (icell : (isc.names.all fun x => x.2 != .cell) = true) (ikind : isc.kind = .function)
    (inames : (isc.names.all fun x => x.2 != .local || isc.names.lookup x.1 == some .local) = true) (ihs : ∀ C x, foldedSetIterable (.Name (Str.ofString "taken") q3) (compEnvX scope (Str.ofString "child") cl C env) x = pure x)
    (io : ∀ C C', (compEnvC isc (ich C) C' (compEnvX scope (Str.ofString "child") cl C env)).kindOf (Str.ofString "one") = some .local) (ic : ∀ C C', (compEnvC isc (ich C) C' (compEnvX scope (Str.ofString "child") cl C env)).kindOf (Str.ofString "child") = some .cell)
    (icc : ∀ C C', (compEnvC isc (ich C) C' (compEnvX scope (Str.ofString "child") cl C env)).cells.lookup (Str.ofString "child") = some (C + 1)) (ik : ∀ C C', (compEnvC isc (ich C) C' (compEnvX scope (Str.ofString "child") cl C env)).scope.kind = .function)
    (hh : A.handled = none) (hu : A.units < cLine) (G : Grd w z B) (F : Fm B L h m) (ll : ListAt B l (ws.map Value.ref)) (wl : ∀ a ∈ ws, ∃ xs, ListAt B a xs) (hwz : ws.length ≤ 900)
    (ctk : B.IsCell ct (some (.ref Dt))) (lt : ListAt B Dt (ts.map Value.ref)) (tl : ∀ a ∈ ts, ∃ xs, ListAt B a xs) (htz : ts.length ≤ 900)
    (Hi : ∀ (Q' : Value → Shared → Prop), (∀ t', Q' (.ref l) ⟨h, g, d, t', o⟩) → wpAny (model pr w) A (eval it0 env) Q' E ⟨h, g, d, t, o⟩)
    (H : ∀ D h' g' d' t' B', Fm B' L h' m → Le B B' → KpG noneG g g' → ListAt B' D ((ws.filter fun a => !decide (a ∈ ts)).map Value.ref) → h.get? D = none → z ≤ D → D ≠ L → Q (.ref D) ⟨h', g', d', t', o⟩) :
    wpAny (model pr w) A (eval (.ListComp (.Name (Str.ofString "child") p1) [⟨.Name (Str.ofString "child") p2, it0, [.UnaryOp .Not (.ListComp (.Name (Str.ofString "one") q1) [⟨.Name (Str.ofString "one") q2, .Name (Str.ofString "taken") q3, [.Compare (.Name (Str.ofString "one") q4) [.Is] [.Name (Str.ofString "child") q5] q6], 0⟩] isc q7) p3], 0⟩] scope pos) env) Q E ⟨h, g, d, t, o⟩ := by
  refine lcCoreC hclos hpc hcf hkind hnames hs (Hi _ fun t' => ?_)
  refine kIterL F ll fun it h₂ B₂ F₂ K₂ k₂ n₂ e₂ I₂ => ⟨?_, ?_⟩
  · intro hx dx tx Qx kx qx
    exact (itr_list (w := w) hh e₂).self _ _ _ _ _ _ _ ((itr_list (w := w) hh e₂).frame _ _ _ _ _ _ _ _ I₂ (fun b o _ e => kx b o e) (fun _ _ _ e => e)) qx
  · intro C D h₄ t₄ nsC k₄ lD cc nC nD nC1 nDC nDC1 zD
    dsimp only at k₄ nC nD nC1 zD ⊢
    obtain ⟨-, -, -, i₀, items, hi, ⟨ol, l1, l2⟩, hdr⟩ := I₂
    obtain ⟨oi, i1, i2⟩ := id hi
    have nDit : D ≠ it := fun q => by rw [q, i1] at nD; cases nD
    have nCit : it ≠ C := ne_of i1 nC
    have nC1it : it ≠ C + 1 := ne_of i1 nC1
    have le2 : Le h (h₄.hide C) := fun b ob e => (Heap.hide_ne _ (ne_of (k₂ b ob e) nC)).trans (k₄ b ob (k₂ b ob e))
    have lk : ListAt h l (ws.map Value.ref) := ll.le F.keep
    have hli : h.IsList l items := by
      obtain ⟨n, e⟩ := lk
      have e3 := k₂ _ _ e
      rw [e3] at l1; cases l1
      exact ⟨_, e, l2⟩
    have cc4 : (h₄.hide C).IsCell (C + 1) none := let ⟨oc, e, r⟩ := cc; ⟨oc, (Heap.hide_ne _ (Nat.succ_ne_self C)).trans e, r⟩
    refine sweepLoop (C := C) (D := D) (I := it) (l := l) (cc := C + 1) (ct := ct) (Dt := Dt) (items := items) (ts := ts) (Bb := h) (g₀ := g) hh hu rfl (hk C) (hl C) (hcc C) (het C) (hct C) (iclos C) icell ikind inames (ihs C) (io C) (ic C) (icc C) (ik C)
      (none_of k₂ nD) n₂ (none_of k₂ nC1) nDit nDC1 nC1it (ctk.keeps F.keep) (lt.le F.keep) (fun a ha => let ⟨xs, q⟩ := tl a ha; ⟨xs, q.le F.keep⟩) htz hli ws [] i₀ h₄ g d t₄ o (h₄.hide C) _ none (Fm.hide nsC) le2
      (let ⟨n, e⟩ := lD; ⟨n, (Heap.hide_ne _ nDC).trans e⟩) ⟨oi, (Heap.hide_ne _ nCit).trans (k₄ _ _ i1), i2⟩ cc4 hdr (fun a ha => let ⟨xs, q⟩ := wl a ha; ⟨xs, q.le F.keep⟩) (by simpa using hwz) (.refl _ _) fun h' g' d' t' B' m' F' le' kg' l' => ?_
    refine ⟨_, m', rfl, F'.ns, fun h₅ hs₅ => ?_⟩
    obtain ⟨B₅, F₅, K₅, up₅⟩ := comp_out F F' le' hs₅
    have nDh : h.get? D = none := none_of k₂ nD
    have nDL : D ≠ L := fun q => by obtain ⟨ob, e⟩ := F.there; rw [← q, nDh] at e; cases e
    exact H D h₅ g' d' t' B₅ F₅ K₅ kg' (by rw [List.nil_append] at l'; exact l'.mv fun o e => up₅ _ _ nDL e) nDh (Nat.le_trans ((G.le F.keep).le k₂).size zD) nDL
end

/-- the rows of a forest, each with its list and what is below, in the order of rows -/
noncomputable def rowsF : Fo → List (Addr × Addr × Fo)
  | .nil => []
  | .cons x ks r => rowsF ks ++ (x.r, x.rc, ks) :: rowsF r
theorem rowsF_rows : ∀ (j : Int) (f : Fo), (rowsF f).map (·.1) = (rows j f).map (·.2.r)
  | _, .nil => rfl
  | j, .cons x ks r => by simp [rowsF, rows, rowsF_rows (j + 1) ks, rowsF_rows j r]
theorem rowsF_perm : ∀ (p : Addr) (f : Fo), (rowsF f).Perm ((nds p f).map fun y => (y.2.1.r, y.2.1.rc, y.2.2))
  | _, .nil => .refl _
  | p, .cons x ks r => by
    simp only [rowsF, nds, List.map_cons, List.map_append]
    exact List.perm_middle.trans (.cons _ ((rowsF_perm x.a ks).append (rowsF_perm p r)))
section
variable {w : World} {z : Nat} {h : Heap} {R : Rad} {f : Fo}
noncomputable def rlst (R : Rad) (f : Fo) : List (Addr × Addr × Fo) := (R.tr, R.trc, f) :: rowsF f
theorem rlst_cases {y : Addr × Addr × Fo} (hy : y ∈ rlst R f) : y = (R.tr, R.trc, f) ∨ ∃ p x ks, (p, x, ks) ∈ nds R.rt f ∧ y = (x.r, x.rc, ks) := by
  rcases List.mem_cons.mp hy with rfl | hy
  · exact .inl rfl
  · obtain ⟨y', hy', rfl⟩ := List.mem_map.mp ((rowsF_perm R.rt f).subset hy)
    exact .inr ⟨y'.1, y'.2.1, y'.2.2, hy', rfl⟩
theorem rlst_nds {p : Addr} {x : NLab} {ks : Fo} (hy : (p, x, ks) ∈ nds R.rt f) : (x.r, x.rc, ks) ∈ rlst R f :=
  .tail _ ((rowsF_perm R.rt f).symm.subset (List.mem_map.mpr ⟨_, hy, rfl⟩))
theorem rlst_nodup (X : Whole w z h R f) : ((rlst R f).map (·.1)).Nodup := by
  have e : ((rowsF f).map (·.1)).Perm ((nodes f).map (·.r)) := by
    have := (rowsF_perm R.rt f).map (·.1)
    rw [List.map_map] at this
    have e2 : (nodes f).map (·.r) = (nds R.rt f).map fun y => y.2.1.r := by rw [← nds_nodes R.rt f, List.map_map]; rfl
    rw [e2]; exact this
  have nod := X.nod
  simp only [List.nodup_cons, List.mem_cons, not_or] at nod
  show (R.tr :: (rowsF f).map (·.1)).Nodup
  rw [List.nodup_cons]
  refine ⟨fun q => ?_, (List.Perm.nodup_iff e).mpr (nodup_map X.nodA fun x => by simp [own])⟩
  obtain ⟨x, hx, e'⟩ := List.mem_map.mp (e.subset q)
  exact nod.2.2.2.1.2 (e' ▸ mem_own hx (by simp [own]))
theorem Whole.rowOf (X : Whole w z h R f) : ∀ y ∈ rlst R f, (∃ a1 a2 a3, ListAt h y.1 [a1, a2, a3, .ref y.2.1]) ∧ ListAt h y.2.1 y.2.2.rrefs ∧ Tr w h (if y.1 = R.tr then R.rt else R.rt) .nil ∧ y.1 ∈ wadr R f ∧ y.2.1 ∈ wadr R f ∧ y.2.2.size ≤ f.size ∧ ∀ x ∈ y.2.2.tops, x ∈ nodes f := by
  intro y hy
  rcases rlst_cases hy with rfl | ⟨p, x, ks, hx, rfl⟩
  · obtain ⟨_, _, l⟩ := X.row
    exact ⟨⟨_, _, _, l⟩, X.rws, trivial, by simp, by simp, Nat.le_refl _, fun x hx => tops_nodes f x hx⟩
  · obtain ⟨o, _, l⟩ := tr_iff.mp X.tr _ hx
    obtain ⟨_, _, lr⟩ := o.row
    have m1 : x.r ∈ adr f := mem_own (nds_mem hx) (by simp [own])
    have m2 : x.rc ∈ adr f := mem_own (nds_mem hx) (by simp [own])
    exact ⟨⟨_, _, _, lr⟩, l, trivial, by simp [m1], by simp [m2], Nat.le_of_lt (nds_size _ hx), fun v hv => nds_subn _ hx v (tops_nodes ks v hv)⟩
theorem rad_mem : ∀ {f : Fo} {b : Addr}, b ∈ rad f → ∃ x ∈ nodes f, b = x.r ∨ b = x.rc
  | .nil, b, hb => by simp [rad] at hb
  | .cons x ks r, b, hb => by
    simp only [rad, List.mem_cons, List.mem_append] at hb
    simp only [nodes, List.mem_cons, List.mem_append]
    rcases hb with rfl | rfl | hb | hb
    · exact ⟨x, .inl rfl, .inl rfl⟩
    · exact ⟨x, .inl rfl, .inr rfl⟩
    · obtain ⟨y, hy, e⟩ := rad_mem hb; exact ⟨y, .inr (.inl hy), e⟩
    · obtain ⟨y, hy, e⟩ := rad_mem hb; exact ⟨y, .inr (.inr hy), e⟩
theorem Whole.rads_ne (X : Whole w z h R f) : ∀ b, b = R.tr ∨ b = R.trc ∨ b ∈ rad f → ∀ e ∈ lsts R.rt R.rc f, b ≠ e.2.1 := by
  intro b hb
  have nod := X.nod
  simp only [List.nodup_cons, List.mem_cons, not_or] at nod
  have cm : ∀ {x : NLab}, x ∈ nodes f → x.c ∈ adr f := fun hx => mem_own hx (by simp [own])
  rcases hb with rfl | rfl | hb
  · intro e he q
    rcases lsts_cases he with rfl | ⟨p, y, ks, hy, rfl⟩
    · exact nod.2.2.1.1 q.symm
    · exact nod.2.2.2.1.2 ((show R.tr = y.c from q) ▸ cm (nds_mem hy))
  · intro e he q
    rcases lsts_cases he with rfl | ⟨p, y, ks, hy, rfl⟩
    · exact nod.2.2.1.2.1 q.symm
    · exact nod.2.2.2.2.1 ((show R.trc = y.c from q) ▸ cm (nds_mem hy))
  · obtain ⟨x, hx, e⟩ := rad_mem hb
    exact X.one_ne hx (by rcases e with rfl | rfl <;> simp)
end
/-- the rows taken -/
theorem lvr_sel (wh : Int) (k : Nat) (f : Fo) (pc : Addr) : sel wh 0 (lvr k f) = ((sel wh 0 (lv k f pc)).map (·.1.r)).map Value.ref := by
  have e : lvr k f = (lv k f pc).map fun y => Value.ref y.1.r := by
    have := lv_pc k f 0 pc
    unfold lvr
    have e1 : ∀ l : List (NLab × Addr), l.map (fun y => Value.ref y.1.r) = (l.map (·.1)).map (fun y => Value.ref y.r) := fun l => by simp [List.map_map, Function.comp_def]
    rw [e1, e1, this]
  rw [e, sel_map, List.map_map]; rfl
theorem taken_iff {w : World} {z : Nat} {h : Heap} {R : Rad} {f : Fo} (X : Whole w z h R f) {wh : Int} {k : Nat} {y : NLab} (hy : y ∈ nodes f) : decide (y.r ∈ (sel wh 0 (lv k f R.rc)).map (·.1.r)) = goneP wh (lv k f R.rc) y := by
  unfold goneP
  rw [decide_eq_decide]
  have nd : ∀ x ∈ sel wh 0 (lv k f R.rc), x.1 ∈ nodes f := fun x hx => (lv_sub k f R.rc).subset (List.mem_map_of_mem ((sel_sub wh 0 _).subset hx))
  constructor
  · intro q
    obtain ⟨x, hx, e⟩ := List.mem_map.mp q
    have : x.1 = y := own_inj X.nodA (nd x hx) hy (b := y.r) (by rw [← e]; simp [own]) (by simp [own])
    exact List.mem_map.mpr ⟨x, hx, by rw [this]⟩
  · intro q
    obtain ⟨x, hx, e⟩ := List.mem_map.mp q
    have : x.1 = y := own_inj X.nodA (nd x hx) hy (b := y.a) (by rw [← e]; simp [own]) (by simp [own])
    exact List.mem_map.mpr ⟨x, hx, by rw [this]⟩
theorem taken_filter {w : World} {z : Nat} {h : Heap} {R : Rad} {f : Fo} (X : Whole w z h R f) {wh : Int} {k : Nat} {l : List NLab} (hl : ∀ y ∈ l, y ∈ nodes f) :
    ((l.map (·.r)).filter fun a => !decide (a ∈ (sel wh 0 (lv k f R.rc)).map (·.1.r))) = (l.filter fun y => !goneP wh (lv k f R.rc) y).map (·.r) := by
  rw [List.filter_map]
  congr 1
  refine List.filter_congr fun y hy => ?_
  rw [← taken_iff X (hl y hy)]; rfl
theorem sel_take {α : Type} (wh : Int) (l : List α) {j : Nat} {x : α} (hx : l[j]? = some x) : sel wh 0 (l.take (j + 1)) = sel wh 0 (l.take j) ++ (if (j : Int) % 2 = wh then [x] else []) := by
  have hl : j < l.length := (List.getElem?_eq_some_iff.mp hx).1
  rw [List.take_add_one, hx]
  show sel wh 0 (l.take j ++ [x]) = _
  rw [sel_app, List.length_take, Nat.zero_add, Nat.min_eq_left (by omega)]
section
variable {w : World} {z : Nat} {h : Heap} {R : Rad} {f : Fo}
theorem nodes_nds {p : Addr} {f : Fo} {x : NLab} (hx : x ∈ nodes f) : ∃ q ks, (q, x, ks) ∈ nds p f := by
  rw [← nds_nodes p f] at hx
  obtain ⟨y, hy, e⟩ := List.mem_map.mp hx
  exact ⟨y.1, y.2.2, by rw [← e]; exact hy⟩
theorem Whole.rlst_ne (X : Whole w z h R f) {y : Addr × Addr × Fo} (hy : y ∈ rlst R f) : (∀ e ∈ lsts R.rt R.rc f, y.1 ≠ e.2.1) ∧ ∀ e ∈ lsts R.rt R.rc f, y.2.1 ≠ e.2.1 := by
  rcases rlst_cases hy with rfl | ⟨p, x, ks, hx, rfl⟩
  · exact ⟨X.rads_ne _ (.inl rfl), X.rads_ne _ (.inr (.inl rfl))⟩
  · exact ⟨X.one_ne (nds_mem hx) (by simp), X.one_ne (nds_mem hx) (by simp)⟩
theorem Whole.rlst_rc (X : Whole w z h R f) {y y' : Addr × Addr × Fo} (hy : y ∈ rlst R f) (hy' : y' ∈ rlst R f) : y.2.1 ≠ y'.1 := by
  have nod := X.nod
  simp only [List.nodup_cons, List.mem_cons, not_or] at nod
  have mr : ∀ {x : NLab}, x ∈ nodes f → x.r ∈ adr f := fun hx => mem_own hx (by simp [own])
  have mc : ∀ {x : NLab}, x ∈ nodes f → x.rc ∈ adr f := fun hx => mem_own hx (by simp [own])
  intro q
  rcases rlst_cases hy with rfl | ⟨p, x, ks, hx, rfl⟩ <;> rcases rlst_cases hy' with rfl | ⟨p', x', ks', hx', rfl⟩
  · exact nod.2.2.2.1.1 q.symm
  · exact nod.2.2.2.2.1 ((show R.trc = x'.r from q) ▸ mr (nds_mem hx'))
  · exact nod.2.2.2.1.2 ((show x.rc = R.tr from q) ▸ mc (nds_mem hx))
  · have := own_inj X.nodA (nds_mem hx) (nds_mem hx') (b := x.rc) (by simp [own]) ((show x.rc = x'.r from q) ▸ by simp [own])
    subst this
    have nd := own_nodup X.nodA (nds_mem hx)
    simp only [own, List.nodup_cons, List.mem_cons, List.not_mem_nil, or_false, not_or] at nd
    exact nd.2.2.2.2.1.1 (show x.rc = x.r from q).symm
theorem rlst_inj (X : Whole w z h R f) {y y' : Addr × Addr × Fo} (hy : y ∈ rlst R f) (hy' : y' ∈ rlst R f) (q : y.1 = y'.1) : y = y' := nodup_inj (rlst_nodup X) y hy y' hy' q
end

section
variable {w : World} {z : Nat} {h : Heap} {R : Rad} {f : Fo}
theorem Whole.one_row (X : Whole w z h R f) {x : NLab} (hx : x ∈ nodes f) {b : Addr} (hb : b ∈ [x.a, x.d, x.c, x.hs, x.ts]) : ∀ y ∈ rlst R f, b ≠ y.1 := by
  intro y hy q
  have bo : b ∈ own x := by
    simp only [List.mem_cons, List.not_mem_nil, or_false] at hb
    simp only [own, List.mem_cons, List.not_mem_nil, or_false]
    rcases hb with h | h | h | h | h <;> simp [h]
  rcases rlst_cases hy with rfl | ⟨p, v, ks, hv, rfl⟩
  · have nod := X.nod
    simp only [List.nodup_cons, List.mem_cons, not_or] at nod
    have m := mem_own hx bo
    rw [q] at m
    exact nod.2.2.2.1.2 m
  · have := own_inj X.nodA hx (nds_mem hv) bo ((show b = v.r from q) ▸ (by simp [own]))
    subst this
    have nd := own_nodup X.nodA hx
    simp only [own, List.nodup_cons, List.mem_cons, List.not_mem_nil, or_false, not_or] at nd
    have q' : b = x.r := q
    simp only [List.mem_cons, List.not_mem_nil, or_false] at hb
    rcases hb with h | h | h | h | h
    · exact nd.1.2.2.2.1 (h ▸ q')
    · exact nd.2.1.2.2.1 (h ▸ q')
    · exact nd.2.2.1.2.1 (h ▸ q')
    · exact nd.2.2.2.1.1 (h ▸ q')
    · exact nd.2.2.2.2.1.2 (h ▸ q').symm
theorem Whole.root_row (X : Whole w z h R f) {b : Addr} (hb : b = R.rt ∨ b = R.rd ∨ b = R.rc) : ∀ y ∈ rlst R f, b ≠ y.1 := by
  intro y hy q
  have nod := X.nod
  simp only [List.nodup_cons, List.mem_cons, not_or] at nod
  rcases rlst_cases hy with rfl | ⟨p, v, ks, hv, rfl⟩
  · rcases hb with rfl | rfl | rfl
    · exact nod.1.2.2.1 q
    · exact nod.2.1.2.1 q
    · exact nod.2.2.1.1 q
  · have m : v.r ∈ adr f := mem_own (nds_mem hv) (by simp [own])
    have q' : b = v.r := q
    rcases hb with rfl | rfl | rfl
    · exact nod.1.2.2.2.2 (q' ▸ m)
    · exact nod.2.1.2.2.2 (q' ▸ m)
    · exact nod.2.2.1.2.2 (q' ▸ m)
theorem Whole.root_ne (X : Whole w z h R f) {b : Addr} (hb : b = R.rt ∨ b = R.rd) : ∀ e ∈ lsts R.rt R.rc f, b ≠ e.2.1 := by
  intro e he q
  have nod := X.nod
  simp only [List.nodup_cons, List.mem_cons, not_or] at nod
  rcases lsts_cases he with rfl | ⟨p, v, ks, hv, rfl⟩
  · rcases hb with rfl | rfl
    · exact nod.1.2.1 q
    · exact nod.2.1.1 q
  · have m : v.c ∈ adr f := mem_own (nds_mem hv) (by simp [own])
    have q' : b = v.c := q
    rcases hb with rfl | rfl
    · exact nod.1.2.2.2.2 (q' ▸ m)
    · exact nod.2.1.2.2.2 (q' ▸ m)
theorem ListAt.eq {h : Heap} {a : Addr} {xs ys : List Value} (x : ListAt h a xs) (y : ListAt h a ys) : xs = ys := by
  obtain ⟨n, e⟩ := x; obtain ⟨n', e'⟩ := y
  rw [e] at e'
  have := congrArg Obj.data (Option.some.inj e')
  have := (Data.seq.inj this).1
  simpa using congrArg Array.toList this
/-- the tree behind a sweep -/
theorem sweptWhole (X : Whole w z h R f) {B₁ B : Heap} {p : NLab → Bool} {ρ : Addr → Addr}
    (kh : ∀ b ob, h.get? b = some ob → (∀ e ∈ lsts R.rt R.rc f, b ≠ e.2.1) → B₁.get? b = some ob) (K : Kp (fun b => ∃ x ∈ rlst R f, b = x.1) B₁ B)
    (e8 : ∀ e ∈ lsts R.rt R.rc f, ListAt B₁ e.2.1 ((e.2.2.tops.filter fun y => !p y).map fun y => Value.ref y.a))
    (hr : ∀ y ∈ rlst R f, ∃ a1 a2 a3, ListAt B₁ y.1 [a1, a2, a3, .ref y.2.1] ∧ ListAt B y.1 [a1, a2, a3, .ref (ρ y.1)] ∧ ListAt B (ρ y.1) ((y.2.2.tops.filter fun y => !p y).map fun y => Value.ref y.r) ∧ B₁.get? (ρ y.1) = none ∧ z ≤ ρ y.1)
    (hi : ∀ y ∈ rlst R f, ∀ y' ∈ rlst R f, ρ y.1 = ρ y'.1 → y.1 = y'.1) :
    Whole w z B { R with trc := ρ R.tr } (cutm p (fun x => ρ x.r) f) ∧ ∀ b ∈ wadr { R with trc := ρ R.tr } (cutm p (fun x => ρ x.r) f), b ∈ wadr R f ∨ h.get? b = none := by
  have th1 : ∀ b ob, h.get? b = some ob → ∃ o, B₁.get? b = some o := fun b ob e => by
    by_cases hp : ∃ e ∈ lsts R.rt R.rc f, b = e.2.1
    · obtain ⟨e', he', rfl⟩ := hp; exact (e8 e' he').there
    · exact ⟨ob, kh b ob e fun e he q => hp ⟨e, he, q⟩⟩
  have nw : ∀ y ∈ rlst R f, ∀ b ∈ wadr R f, b ≠ ρ y.1 := fun y hy b hb q => by
    obtain ⟨o, e⟩ := X.there b hb
    obtain ⟨o', e'⟩ := th1 b o e
    obtain ⟨_, _, _, _, _, _, n, _⟩ := hr y hy
    rw [q, n] at e'; cases e'
  have nh : ∀ y ∈ rlst R f, h.get? (ρ y.1) = none := fun y hy => by
    cases q : h.get? (ρ y.1) with
    | none => rfl
    | some ob =>
      obtain ⟨o', e'⟩ := th1 _ ob q
      obtain ⟨_, _, _, _, _, _, n, _⟩ := hr y hy
      rw [n] at e'; cases e'
  have rn : ∀ x ∈ nodes f, ∃ p ks, (p, x, ks) ∈ nds R.rt f ∧ (x.r, x.rc, ks) ∈ rlst R f := fun x hx => by
    obtain ⟨q, ks, hq⟩ := nodes_nds (p := R.rt) hx
    exact ⟨q, ks, hq, rlst_nds hq⟩
  have rt0 : (R.tr, R.trc, f) ∈ rlst R f := .head _
  have kB : ∀ b ob, h.get? b = some ob → (∀ e ∈ lsts R.rt R.rc f, b ≠ e.2.1) → (∀ y ∈ rlst R f, b ≠ y.1) → B.get? b = some ob := fun b ob e h1 h2 => K b ob (fun ⟨x, hx, q⟩ => h2 x hx q) (kh b ob e h1)
  have nod := X.nod
  have memw : ∀ b ∈ wadr { R with trc := ρ R.tr } (cutm p (fun x => ρ x.r) f), b ∈ wadr R f ∨ ∃ y ∈ rlst R f, b = ρ y.1 := fun b hb => by
    simp only [List.mem_cons] at hb
    rcases hb with rfl | rfl | rfl | rfl | rfl | hb
    · exact .inl (by simp)
    · exact .inl (by simp)
    · exact .inl (by simp)
    · exact .inl (by simp)
    · exact .inr ⟨_, rt0, rfl⟩
    · rcases cutm_mem _ _ hb with q | ⟨x, hx, q⟩
      · exact .inl (by simp [q])
      · obtain ⟨p', ks, _, h2⟩ := rn x hx
        exact .inr ⟨_, h2, q⟩
  refine ⟨⟨?_, ?_, ?_, ?_, ?_, ?_, ?_, ?_⟩, fun b hb => (memw b hb).imp id fun ⟨y, hy, q⟩ => q ▸ nh y hy⟩
  · exact X.nd.mv fun b ob hb e => kB b ob e (X.root_ne hb) (X.root_row (hb.imp id .inl))
  · rw [cutm_refs]
    exact (e8 (R.rt, R.rc, f) (.head _)).mv fun o e => K _ o (fun ⟨x, hx, q⟩ => X.root_row (.inr (.inr rfl)) x hx q) e
  · obtain ⟨t1, t2, l⟩ := X.row
    obtain ⟨a1, a2, a3, l1, l2, _⟩ := hr _ rt0
    have l3 : ListAt B₁ R.tr [.str (Str.ofString "") t1, .str (Str.ofString "") t2, .none, .ref R.trc] := l.mv fun o e => kh _ o e (X.rads_ne _ (.inl rfl))
    have := l1.eq l3
    simp only [List.cons.injEq, and_true] at this
    obtain ⟨rfl, rfl, rfl⟩ := this
    exact ⟨t1, t2, l2⟩
  · rw [cutm_rrefs]
    obtain ⟨_, _, _, _, _, l, _⟩ := hr _ rt0
    exact l
  · refine cutm_tr p _ fun y hy => ?_
    obtain ⟨q, x, ks⟩ := y
    have xn := nds_mem hy
    obtain ⟨o, -, -⟩ := tr_iff.mp X.tr _ hy
    dsimp only at xn o ⊢
    obtain ⟨⟨es, n, t1, t2, i, r⟩, ⟨t3, t4, lr⟩, s1, s2⟩ := o
    obtain ⟨a1, a2, a3, l1, l2, l3, _⟩ := hr _ (rlst_nds hy)
    have kx : ∀ b ob, b ∈ [x.a, x.d, x.hs, x.ts] → h.get? b = some ob → B.get? b = some ob := fun b ob hb e => kB b ob e (X.one_ne xn (by
        simp only [List.mem_cons, List.not_mem_nil, or_false] at hb ⊢
        rcases hb with h | h | h | h <;> simp [h])) (X.one_row xn (by
        simp only [List.mem_cons, List.not_mem_nil, or_false] at hb ⊢
        rcases hb with h | h | h | h <;> simp [h]))
    have l4 : ListAt B₁ x.r [.str x.nm t3, .str x.ql t4, .ref x.ts, .ref x.rc] := lr.mv fun o e => kh _ o e (X.one_ne xn (by simp))
    have := l1.eq l4
    simp only [List.cons.injEq, and_true] at this
    obtain ⟨rfl, rfl, rfl⟩ := this
    refine ⟨⟨⟨es, n, t1, t2, ⟨kx _ _ (by simp) i.ob, kx _ _ (by simp) i.dt⟩, r⟩, ⟨t3, t4, l2⟩, s1.mv fun _ e => kx _ _ (by simp) e, s2.mv fun _ e => kx _ _ (by simp) e⟩, ?_, l3⟩
    exact (e8 (x.a, x.c, ks) (.tail _ (List.mem_map.mpr ⟨_, hy, rfl⟩))).mv fun o e => K _ o (fun ⟨y', hy', q⟩ => X.one_row xn (by simp) y' hy' q) e
  · have nA : (adr (cutm p (fun x => ρ x.r) f)).Nodup := by
      refine cutm_nodup p _ X.nodA (fun x hx y hy q => ?_) fun x hx q => ?_
      · obtain ⟨_, _, _, h1⟩ := rn x hx
        obtain ⟨_, _, _, h2⟩ := rn y hy
        have := hi _ h1 _ h2 q
        exact own_inj X.nodA hx hy (b := x.r) (by simp [own]) ((show x.r = y.r from this) ▸ by simp [own])
      · obtain ⟨_, _, _, h1⟩ := rn x hx
        exact nw _ h1 _ (by simp [q]) rfl
    have out : ∀ b ∈ wadr R f, b ∉ adr f → b ∉ adr (cutm p (fun x => ρ x.r) f) := fun b hb hn q => by
      rcases cutm_mem _ _ q with q | ⟨x, hx, q⟩
      · exact hn q
      · obtain ⟨_, _, _, h1⟩ := rn x hx
        exact nw _ h1 b hb q
    have nr : ∀ b ∈ wadr R f, b ≠ ρ R.tr := fun b hb => nw _ rt0 b hb
    have o1 := out R.rt (by simp)
    have o2 := out R.rd (by simp)
    have o3 := out R.rc (by simp)
    have o4 := out R.tr (by simp)
    have r1 := nr R.rt (by simp)
    have r2 := nr R.rd (by simp)
    have r3 := nr R.rc (by simp)
    have r4 := nr R.tr (by simp)
    have r5 : ρ R.tr ∉ adr (cutm p (fun x => ρ x.r) f) := fun q => by
      rcases cutm_mem _ _ q with q | ⟨x, hx, q⟩
      · exact nr _ (by simp [q]) rfl
      · obtain ⟨_, _, _, h1⟩ := rn x hx
        have := hi _ rt0 _ h1 q
        simp only [List.nodup_cons, List.mem_cons, not_or] at nod
        exact nod.2.2.2.1.2 ((show R.tr = x.r from this) ▸ mem_own hx (by simp [own]))
    simp only [List.nodup_cons, List.mem_cons, not_or] at nod ⊢
    exact ⟨⟨nod.1.1, nod.1.2.1, nod.1.2.2.1, r1, o1 nod.1.2.2.2.2⟩, ⟨nod.2.1.1, nod.2.1.2.1, r2, o2 nod.2.1.2.2.2⟩, ⟨nod.2.2.1.1, r3, o3 nod.2.2.1.2.2⟩, ⟨r4, o4 nod.2.2.2.1.2⟩, r5, nA⟩
  · intro b hb
    rcases memw b hb with q | ⟨y, hy, rfl⟩
    · exact X.zz b q
    · obtain ⟨_, _, _, _, _, _, _, h1⟩ := hr y hy; exact h1
  · exact Nat.le_trans (cutm_size _ _ f) X.sz
end
theorem lookup_nodup : ∀ {l : List (Addr × Addr)} {a b : Addr}, (l.map (·.1)).Nodup → (a, b) ∈ l → l.lookup a = some b
  | [], _, _, _, h => by cases h
  | (x, y) :: l, a, b, n, h => by
    rw [List.map_cons, List.nodup_cons] at n
    rcases List.mem_cons.mp h with e | h
    · cases e; simp [List.lookup_cons]
    · have : a ≠ x := fun q => n.1 (q ▸ List.mem_map.mpr ⟨(a, b), h, rfl⟩)
      rw [List.lookup_cons, show (a == x) = false by simpa using this]
      exact lookup_nodup n.2 h

noncomputable def snoc : Fo → NLab → Fo
  | .nil, y => .cons y .nil .nil
  | .cons x ks r, y => .cons x ks (snoc r y)
theorem snoc_refs : ∀ (f : Fo) (y : NLab), (snoc f y).refs = f.refs ++ [.ref y.a]
  | .nil, y => rfl
  | .cons x ks r, y => by simp [snoc, Fo.refs, snoc_refs r y]
theorem snoc_rrefs : ∀ (f : Fo) (y : NLab), (snoc f y).rrefs = f.rrefs ++ [.ref y.r]
  | .nil, y => rfl
  | .cons x ks r, y => by simp [snoc, Fo.rrefs, snoc_rrefs r y]
theorem snoc_size : ∀ (f : Fo) (y : NLab), (snoc f y).size = f.size + 1
  | .nil, y => rfl
  | .cons x ks r, y => by simp only [snoc, Fo.size, snoc_size r y]; omega
theorem snoc_adr : ∀ (f : Fo) (y : NLab), adr (snoc f y) = adr f ++ own y
  | .nil, y => rfl
  | .cons x ks r, y => by simp [snoc, adr, snoc_adr r y]
theorem snoc_tr {w : World} {h : Heap} : ∀ {p : Addr} {f : Fo} {y : NLab}, Tr w h p f → One w h p y → ListAt h y.c [] → ListAt h y.rc [] → Tr w h p (snoc f y)
  | _, .nil, y, _, o, a, b => ⟨o, a, b, trivial, trivial⟩
  | p, .cons x ks r, y, ⟨q1, q2, q3, q4, q5⟩, o, a, b => ⟨q1, q2, q3, q4, snoc_tr q5 o a b⟩
/-- a new node y at the end of the list c -/
noncomputable def insF (c : Addr) (y : NLab) : Fo → Fo
  | .nil => .nil
  | .cons x ks r => .cons x (if x.c = c then snoc (insF c y ks) y else insF c y ks) (insF c y r)
theorem insF_refs (c : Addr) (y : NLab) : ∀ f : Fo, (insF c y f).refs = f.refs
  | .nil => rfl
  | .cons x ks r => by simp [insF, Fo.refs, insF_refs c y r]
theorem insF_rrefs (c : Addr) (y : NLab) : ∀ f : Fo, (insF c y f).rrefs = f.rrefs
  | .nil => rfl
  | .cons x ks r => by simp [insF, Fo.rrefs, insF_rrefs c y r]
theorem insF_same (c : Addr) (y : NLab) : ∀ f : Fo, c ∉ adr f → insF c y f = f
  | .nil, _ => rfl
  | .cons x ks r, h => by
    simp only [adr, List.mem_cons, List.mem_append, not_or] at h
    unfold insF
    rw [if_neg (fun q => h.2.2.1 q.symm), insF_same c y ks h.2.2.2.2.2.2.2.1, insF_same c y r h.2.2.2.2.2.2.2.2]
theorem insF_tr {w : World} {h : Heap} (c : Addr) (y : NLab) : ∀ {q : Addr} {f : Fo},
    (∀ v ∈ nds q f, One w h v.1 v.2.1 ∧ ListAt h v.2.1.c (if v.2.1.c = c then v.2.2.refs ++ [.ref y.a] else v.2.2.refs) ∧ ListAt h v.2.1.rc (if v.2.1.c = c then v.2.2.rrefs ++ [.ref y.r] else v.2.2.rrefs) ∧ (v.2.1.c = c → One w h v.2.1.a y)) →
    ListAt h y.c [] → ListAt h y.rc [] → Tr w h q (insF c y f)
  | _, .nil, _, _, _ => trivial
  | q, .cons x ks r, H, a, b => by
    simp only [nds, List.forall_mem_cons, List.forall_mem_append] at H
    obtain ⟨⟨h1, h2, h3, h6⟩, h4, h5⟩ := H
    have t4 := insF_tr c y h4 a b
    have t5 := insF_tr c y h5 a b
    unfold insF
    by_cases e : x.c = c
    · rw [if_pos e] at h2 h3 ⊢
      exact ⟨h1, by rw [snoc_refs, insF_refs]; exact h2, by rw [snoc_rrefs, insF_rrefs]; exact h3, snoc_tr t4 (h6 e) a b, t5⟩
    · rw [if_neg e] at h2 h3 ⊢
      exact ⟨h1, by rw [insF_refs]; exact h2, by rw [insF_rrefs]; exact h3, t4, t5⟩
theorem insF_new (c : Addr) (y : NLab) : ∀ {f : Fo}, (adr f).Nodup → (∃ x ∈ nodes f, x.c = c) → (adr (insF c y f)).Perm (adr f ++ own y) ∧ (insF c y f).size = f.size + 1
  | .nil, _, ⟨x, hx, _⟩ => by simp [nodes] at hx
  | .cons x ks r, n, ⟨v, hv, e⟩ => by
    have n0 := n
    simp only [adr, List.nodup_cons, List.mem_cons, List.mem_append, not_or, List.nodup_append] at n
    obtain ⟨a1, a2, a3, a4, a5, a6, a7, n1, n2, n3⟩ := n
    have cin : ∀ {g : Fo} {v : NLab}, v ∈ nodes g → v.c ∈ adr g := fun h => mem_own h (by simp [own])
    unfold insF
    by_cases q : x.c = c
    · subst q
      rw [if_pos rfl, insF_same _ _ ks a3.2.2.2.2.1, insF_same _ _ r a3.2.2.2.2.2]
      refine ⟨?_, by simp only [Fo.size, snoc_size]; omega⟩
      simp only [adr, snoc_adr, List.cons_append, List.append_assoc]
      refine .cons _ (.cons _ (.cons _ (.cons _ (.cons _ (.cons _ (.cons _ ?_))))))
      exact (List.perm_append_comm (l₁ := own y) (l₂ := adr r)).append_left _
    · rw [if_neg q]
      simp only [nodes, List.mem_cons, List.mem_append] at hv
      rcases hv with rfl | hv | hv
      · exact absurd e q
      · have nr : c ∉ adr r := fun m => n3 _ (e ▸ cin hv) _ m rfl
        obtain ⟨p1, p2⟩ := insF_new c y n1 ⟨v, hv, e⟩
        rw [insF_same _ _ r nr]
        refine ⟨?_, by simp only [Fo.size, p2]; omega⟩
        simp only [adr, List.cons_append, List.append_assoc]
        refine .cons _ (.cons _ (.cons _ (.cons _ (.cons _ (.cons _ (.cons _ ?_))))))
        refine (p1.append_right _).trans ?_
        rw [List.append_assoc]
        exact (List.perm_append_comm (l₁ := own y) (l₂ := adr r)).append_left _
      · have nk : c ∉ adr ks := fun m => n3 _ m _ (e ▸ cin hv) rfl
        obtain ⟨p1, p2⟩ := insF_new c y n2 ⟨v, hv, e⟩
        rw [insF_same _ _ ks nk]
        refine ⟨?_, by simp only [Fo.size, p2]; omega⟩
        simp only [adr, List.cons_append, List.append_assoc]
        exact .cons _ (.cons _ (.cons _ (.cons _ (.cons _ (.cons _ (.cons _ (p1.append_left _)))))))
/-- a node (or the root) and its row: whose, its list, its row, its row's list, what is below -/
noncomputable def slots (R : Rad) (f : Fo) : List (Addr × Addr × Addr × Addr × Fo) := (R.rt, R.rc, R.tr, R.trc, f) :: (nds R.rt f).map fun v => (v.2.1.a, v.2.1.c, v.2.1.r, v.2.1.rc, v.2.2)
theorem slots_cases {R : Rad} {f : Fo} {s : Addr × Addr × Addr × Addr × Fo} (hs : s ∈ slots R f) : s = (R.rt, R.rc, R.tr, R.trc, f) ∨ ∃ p x ks, (p, x, ks) ∈ nds R.rt f ∧ s = (x.a, x.c, x.r, x.rc, ks) := by
  rcases List.mem_cons.mp hs with rfl | hs
  · exact .inl rfl
  · obtain ⟨y, hy, rfl⟩ := List.mem_map.mp hs
    exact .inr ⟨y.1, y.2.1, y.2.2, hy, rfl⟩
theorem slots_lsts {R : Rad} {f : Fo} {s : Addr × Addr × Addr × Addr × Fo} (hs : s ∈ slots R f) : (s.1, s.2.1, s.2.2.2.2) ∈ lsts R.rt R.rc f := by
  rcases slots_cases hs with rfl | ⟨p, x, ks, hx, rfl⟩
  · exact .head _
  · exact .tail _ (List.mem_map.mpr ⟨_, hx, rfl⟩)
theorem slots_rlst {R : Rad} {f : Fo} {s : Addr × Addr × Addr × Addr × Fo} (hs : s ∈ slots R f) : (s.2.2.1, s.2.2.2.1, s.2.2.2.2) ∈ rlst R f := by
  rcases slots_cases hs with rfl | ⟨p, x, ks, hx, rfl⟩
  · exact .head _
  · exact rlst_nds hx
theorem slots_node {R : Rad} {f : Fo} {x : NLab} (hx : x ∈ nodes f) : ∃ ks, (x.a, x.c, x.r, x.rc, ks) ∈ slots R f := by
  obtain ⟨q, ks, hq⟩ := nodes_nds (p := R.rt) hx
  exact ⟨ks, .tail _ (List.mem_map.mpr ⟨_, hq, rfl⟩)⟩
theorem slots2 {R : Rad} {f : Fo} {n c r rc : Addr} {ks : Fo} (hs : (n, c, r, rc, ks) ∈ slots R f) : (c = R.rc ∧ rc = R.trc) ∨ ∃ x ∈ nodes f, c = x.c ∧ rc = x.rc := by
  rcases slots_cases hs with e | ⟨p, x, ks', hx, e⟩
  · cases e; exact .inl ⟨rfl, rfl⟩
  · cases e; exact .inr ⟨x, nds_mem hx, rfl, rfl⟩
theorem rad_rc {v : NLab} : ∀ {g : Fo}, v ∈ nodes g → v.rc ∈ rad g := fun {g} => by
  induction g with
  | nil => intro h; simp [nodes] at h
  | cons x k r i1 i2 =>
    intro h
    simp only [nodes, List.mem_cons, List.mem_append] at h
    simp only [rad, List.mem_cons, List.mem_append]
    rcases h with rfl | h | h
    · exact .inr (.inl rfl)
    · exact .inr (.inr (.inl (i1 h)))
    · exact .inr (.inr (.inr (i2 h)))
theorem own_five {x : NLab} {b : Addr} (hb : b ∈ [x.a, x.d, x.hs, x.r, x.ts]) : b ∈ own x ∧ b ∈ [x.a, x.d, x.hs, x.r, x.rc, x.ts] := by
  simp only [List.mem_cons, List.not_mem_nil, or_false] at hb
  simp only [own, List.mem_cons, List.not_mem_nil, or_false]
  rcases hb with h | h | h | h | h <;> simp [h]
theorem own_five_rc {x : NLab} {b : Addr} (nd : (own x).Nodup) (hb : b ∈ [x.a, x.d, x.hs, x.r, x.ts]) (q : b = x.rc) : False := by
  simp only [own, List.nodup_cons, List.mem_cons, List.not_mem_nil, or_false, not_or] at nd
  simp only [List.mem_cons, List.not_mem_nil, or_false] at hb
  rcases hb with h | h | h | h | h
  · exact nd.1.2.2.2.2.1 (h ▸ q)
  · exact nd.2.1.2.2.2.1 (h ▸ q)
  · exact nd.2.2.2.1.2.1 (h ▸ q)
  · exact nd.2.2.2.2.1.1 (h ▸ q)
  · exact nd.2.2.2.2.2.1 (h ▸ q).symm
theorem mem_wadr {R : Rad} {f f' : Fo} {l : List Addr} (p : ∀ b ∈ adr f', b ∈ adr f ∨ b ∈ l) {b : Addr} (hb : b ∈ wadr R f') : b ∈ wadr R f ∨ b ∈ l := by
  simp only [List.mem_cons] at hb ⊢
  rcases hb with h | h | h | h | h | h
  · exact .inl (.inl h)
  · exact .inl (.inr (.inl h))
  · exact .inl (.inr (.inr (.inl h)))
  · exact .inl (.inr (.inr (.inr (.inl h))))
  · exact .inl (.inr (.inr (.inr (.inr (.inl h)))))
  · exact (p b h).imp (fun q => .inr (.inr (.inr (.inr (.inr q))))) id
section
variable {w : World} {z : Nat} {h B : Heap} {R : Rad} {f : Fo}
noncomputable def insT (R : Rad) (c : Addr) (y : NLab) (f : Fo) : Fo := if c = R.rc then snoc f y else insF c y f
/-- the tree behind add_child and the row's append -/
theorem addWhole (X : Whole w z h R f) {n c r rc : Addr} {ks : Fo} {y : NLab} (hs : (n, c, r, rc, ks) ∈ slots R f) (K : Kp (fun b => b = c ∨ b = rc) h B) (l1 : ListAt B c (ks.refs ++ [.ref y.a])) (l2 : ListAt B rc (ks.rrefs ++ [.ref y.r]))
    (oy : One w B n y) (l3 : ListAt B y.c []) (l4 : ListAt B y.rc []) (fr : ∀ b ∈ own y, h.get? b = none ∧ z ≤ b) (ny : (own y).Nodup) (sz : f.size + 1 ≤ 40) :
    Whole w z B R (insT R c y f) ∧ (insT R c y f).size = f.size + 1 ∧ ∀ b ∈ wadr R (insT R c y f), b ∈ wadr R f ∨ h.get? b = none := by
  have nod := X.nod
  simp only [List.nodup_cons, List.mem_cons, not_or] at nod
  have cin : ∀ {v : NLab}, v ∈ nodes f → v.c ∈ adr f := fun h => mem_own h (by simp [own])
  have rcin : ∀ {v : NLab}, v ∈ nodes f → v.rc ∈ adr f := fun h => mem_own h (by simp [own])
  have two := slots2 hs
  have perm : (adr (insT R c y f)).Perm (adr f ++ own y) ∧ (insT R c y f).size = f.size + 1 := by
    unfold insT
    rcases two with ⟨e, -⟩ | ⟨x, hx, e, -⟩
    · rw [if_pos e, snoc_adr, snoc_size]; exact ⟨.refl _, rfl⟩
    · rw [if_neg fun q : c = R.rc => nod.2.2.1.2.2 (q ▸ e ▸ cin hx)]
      exact insF_new c y X.nodA ⟨x, hx, e.symm⟩
  have mem : ∀ b ∈ wadr R (insT R c y f), b ∈ wadr R f ∨ b ∈ own y := fun b hb => mem_wadr (fun b h => List.mem_append.mp (perm.1.subset h)) hb
  have fw : ∀ b ∈ wadr R f, b ∉ own y := fun b hb q => by obtain ⟨o, e⟩ := X.there b hb; rw [(fr b q).1] at e; cases e
  -- what stands
  have hl : (n, c, ks) ∈ lsts R.rt R.rc f := slots_lsts hs
  have hr : (r, rc, ks) ∈ rlst R f := slots_rlst hs
  have rcne : ∀ x ∈ nodes f, ∀ b ∈ [x.a, x.d, x.hs, x.r, x.ts], b ≠ c ∧ b ≠ rc := fun x hx b hb => by
    obtain ⟨bo, bi⟩ := own_five hb
    refine ⟨X.one_ne hx bi _ hl, fun q => ?_⟩
    rcases two with ⟨-, e⟩ | ⟨v, hv, -, e⟩
    · exact nod.2.2.2.2.1 (q.trans e ▸ mem_own hx bo)
    · have q' := own_inj X.nodA hx hv bo ((q.trans e) ▸ by simp [own])
      exact own_five_rc (own_nodup X.nodA hx) hb (q.trans (e.trans (congrArg NLab.rc q'.symm)))
  have rootne : ∀ b, b = R.rt ∨ b = R.rd ∨ b = R.tr → b ≠ c ∧ b ≠ rc := fun b hb => by
    rcases two with ⟨e, e'⟩ | ⟨v, hv, e, e'⟩
    · rw [e, e']
      exact hb.elim (fun q => q ▸ ⟨nod.1.2.1, nod.1.2.2.2.1⟩) fun hb => hb.elim (fun q => q ▸ ⟨nod.2.1.1, nod.2.1.2.2.1⟩) fun q => q ▸ ⟨fun q => nod.2.2.1.1 q.symm, nod.2.2.2.1.1⟩
    · have m1 := cin hv
      have m2 := rcin hv
      rw [← e] at m1
      rw [← e'] at m2
      exact hb.elim (fun h => h ▸ ⟨fun q => nod.1.2.2.2.2 (q ▸ m1), fun q => nod.1.2.2.2.2 (q ▸ m2)⟩) fun hb => hb.elim (fun h => h ▸ ⟨fun q => nod.2.1.2.2.2 (q ▸ m1), fun q => nod.2.1.2.2.2 (q ▸ m2)⟩) fun h => h ▸ ⟨fun q => nod.2.2.2.1.2 (q ▸ m1), fun q => nod.2.2.2.1.2 (q ▸ m2)⟩
  have oneB : ∀ {q : Addr} {x : NLab}, x ∈ nodes f → One w h q x → One w B q x := fun hx o => o.mv fun b ob hb e => K b ob (fun q => q.elim (rcne _ hx b hb).1 (rcne _ hx b hb).2) e
  -- the lists of the nodes' side and of the rows' side
  have lB : ∀ e ∈ lsts R.rt R.rc f, ListAt B e.2.1 (if e.2.1 = c then e.2.2.refs ++ [.ref y.a] else e.2.2.refs) := fun e he => by
    by_cases q : e.2.1 = c
    · have := X.same_place he hl q
      subst this
      rw [if_pos rfl]; exact l1
    · rw [if_neg q]
      refine (lsts_list X.tr X.kids e he).mv fun o e' => K _ o (fun q' => q'.elim q fun q' => ?_) e'
      exact X.rads_ne rc (two.elim (fun q => .inr (.inl q.2)) fun ⟨v, hv, _, q⟩ => .inr (.inr (q ▸ rad_rc hv))) e he q'.symm
  have rB : ∀ e ∈ rlst R f, ListAt B e.2.1 (if e.2.1 = rc then e.2.2.rrefs ++ [.ref y.r] else e.2.2.rrefs) := fun e he => by
    by_cases q : e.2.1 = rc
    · have : e = (r, rc, ks) := by
        have nd2 : ((rlst R f).map (·.2.1)).Nodup := by
          have e2 : ((rowsF f).map (·.2.1)).Perm ((nodes f).map (·.rc)) := by
            have := (rowsF_perm R.rt f).map (·.2.1)
            rw [List.map_map] at this
            have e2 : (nodes f).map (·.rc) = (nds R.rt f).map fun y => y.2.1.rc := by rw [← nds_nodes R.rt f, List.map_map]; rfl
            rw [e2]; exact this
          show (R.trc :: (rowsF f).map (·.2.1)).Nodup
          rw [List.nodup_cons]
          refine ⟨fun q => ?_, (List.Perm.nodup_iff e2).mpr (nodup_map X.nodA fun x => by simp [own])⟩
          obtain ⟨x, hx, e'⟩ := List.mem_map.mp (e2.subset q)
          exact nod.2.2.2.2.1 (e' ▸ mem_own hx (by simp [own]))
        exact nodup_inj (g := fun e : Addr × Addr × Fo => e.2.1) nd2 e he _ hr q
      subst this
      rw [if_pos rfl]; exact l2
    · rw [if_neg q]
      refine (X.rowOf e he).2.1.mv fun o e' => K _ o (fun q' => q'.elim (fun q' => ?_) q) e'
      exact (X.rlst_ne he).2 _ hl q'
  have ceq : ∀ v ∈ nds R.rt f, (v.2.1.c = c ↔ v.2.1.rc = rc) := fun v hv => by
    rcases two with ⟨e, e'⟩ | ⟨x, hx, e, e'⟩
    · exact ⟨fun q => absurd (q.trans e ▸ cin (nds_mem hv)) nod.2.2.1.2.2, fun q => absurd (q.trans e' ▸ rcin (nds_mem hv)) nod.2.2.2.2.1⟩
    · refine ⟨fun q => ?_, fun q => ?_⟩
      · rw [own_inj X.nodA (nds_mem hv) hx (b := x.c) (q.trans e ▸ by simp [own]) (by simp [own]), e']
      · rw [own_inj X.nodA (nds_mem hv) hx (b := x.rc) (q.trans e' ▸ by simp [own]) (by simp [own]), e]
  have rt0 : (R.tr, R.trc, f) ∈ rlst R f := .head _
  have lt0 : (R.rt, R.rc, f) ∈ lsts R.rt R.rc f := .head _
  have root : c = R.rc ↔ rc = R.trc := by
    rcases two with ⟨e, e'⟩ | ⟨x, hx, e, e'⟩
    · exact ⟨fun _ => e', fun _ => e⟩
    · exact ⟨fun q => absurd (q ▸ e ▸ cin hx) nod.2.2.1.2.2, fun q => absurd (q ▸ e' ▸ rcin hx) nod.2.2.2.2.1⟩
  refine ⟨⟨?_, ?_, ?_, ?_, ?_, ?_, ?_, ?_⟩, perm.2, fun b hb => (mem b hb).imp id fun q => (fr b q).1⟩
  · exact X.nd.mv fun b ob hb e => K b ob (fun q => q.elim (rootne b (hb.imp id .inl)).1 (rootne b (hb.imp id .inl)).2) e
  · have := lB _ lt0
    dsimp only at this
    unfold insT
    by_cases q : c = R.rc
    · rw [if_pos q.symm] at this; rw [if_pos q, snoc_refs]; exact this
    · rw [if_neg fun q' => q q'.symm] at this; rw [if_neg q, insF_refs]; exact this
  · obtain ⟨t1, t2, l⟩ := X.row
    exact ⟨t1, t2, l.mv fun o e => K _ o (fun q => q.elim (rootne _ (.inr (.inr rfl))).1 (rootne _ (.inr (.inr rfl))).2) e⟩
  · have := rB _ rt0
    dsimp only at this
    unfold insT
    by_cases q : c = R.rc
    · rw [if_pos (root.mp q).symm] at this; rw [if_pos q, snoc_rrefs]; exact this
    · rw [if_neg fun q' => q (root.mpr q'.symm)] at this; rw [if_neg q, insF_rrefs]; exact this
  · have pt : ∀ v ∈ nds R.rt f, One w B v.1 v.2.1 ∧ ListAt B v.2.1.c (if v.2.1.c = c then v.2.2.refs ++ [.ref y.a] else v.2.2.refs) ∧ ListAt B v.2.1.rc (if v.2.1.c = c then v.2.2.rrefs ++ [.ref y.r] else v.2.2.rrefs) ∧ (v.2.1.c = c → One w B v.2.1.a y) := fun v hv => by
      obtain ⟨o, -, -⟩ := tr_iff.mp X.tr _ hv
      have hv1 : (v.2.1.a, v.2.1.c, v.2.2) ∈ lsts R.rt R.rc f := .tail _ (List.mem_map.mpr ⟨v, hv, rfl⟩)
      have hv2 : (v.2.1.r, v.2.1.rc, v.2.2) ∈ rlst R f := rlst_nds (p := v.1) hv
      refine ⟨oneB (nds_mem hv) o, lB _ hv1, ?_, fun q => ?_⟩
      · have := rB _ hv2
        dsimp only at this
        by_cases q : v.2.1.c = c
        · rw [if_pos q]; rw [if_pos ((ceq v hv).mp q)] at this; exact this
        · rw [if_neg q]; rw [if_neg fun q' => q ((ceq v hv).mpr q')] at this; exact this
      · have := X.same_place hv1 hl q
        have : v.2.1.a = n := congrArg Prod.fst this
        rw [this]; exact oy
    unfold insT
    by_cases q : c = R.rc
    · rw [if_pos q]
      have : n = R.rt := by
        have := X.same_place hl lt0 q
        exact (Prod.mk.inj this).1
      rw [this] at oy
      refine snoc_tr (tr_iff.mpr fun v hv => ?_) oy l3 l4
      obtain ⟨p1, p2, p3, _⟩ := pt v hv
      have nq : v.2.1.c ≠ c := fun q' => nod.2.2.1.2.2 (q ▸ q' ▸ cin (nds_mem hv))
      rw [if_neg nq] at p2 p3
      exact ⟨p1, p2, p3⟩
    · rw [if_neg q]
      exact insF_tr c y pt l3 l4
  · have nA : (adr (insT R c y f)).Nodup := by
      rw [List.Perm.nodup_iff perm.1, List.nodup_append]
      exact ⟨X.nodA, ny, fun a ha b hb e => fw a (by simp [ha]) (e ▸ hb)⟩
    have out : ∀ b ∈ wadr R f, b ∉ adr f → b ∉ adr (insT R c y f) := fun b hb hn q => by
      rcases List.mem_append.mp (perm.1.subset q) with q | q
      · exact hn q
      · exact fw b hb q
    have o1 := out R.rt (by simp)
    have o2 := out R.rd (by simp)
    have o3 := out R.rc (by simp)
    have o4 := out R.tr (by simp)
    have o5 := out R.trc (by simp)
    simp only [List.nodup_cons, List.mem_cons, not_or]
    exact ⟨⟨nod.1.1, nod.1.2.1, nod.1.2.2.1, nod.1.2.2.2.1, o1 nod.1.2.2.2.2⟩, ⟨nod.2.1.1, nod.2.1.2.1, nod.2.1.2.2.1, o2 nod.2.1.2.2.2⟩, ⟨nod.2.2.1.1, nod.2.2.1.2.1, o3 nod.2.2.1.2.2⟩, ⟨nod.2.2.2.1.1, o4 nod.2.2.2.1.2⟩, o5 nod.2.2.2.2.1, nA⟩
  · intro b hb
    rcases mem b hb with q | q
    · exact X.zz b q
    · exact (fr b q).2
  · rw [perm.2]; exact sz
end

theorem erase_at : ∀ {l : List NLab} {i : Nat} {x : NLab}, (l.map (·.a)).Nodup → l[i]? = some x → (∀ m, m < i → ∃ y, l[m]? = some y ∧ y.a ≠ x.a) ∧ l.eraseIdx i = l.filter fun y => !decide (y.a = x.a)
  | [], i, x, _, hx => by simp at hx
  | v :: l, 0, x, n, hx => by
    rw [List.map_cons, List.nodup_cons] at n
    rw [List.getElem?_cons_zero] at hx
    cases hx
    refine ⟨fun m hm => absurd hm (Nat.not_lt_zero _), ?_⟩
    rw [List.eraseIdx_zero, List.tail_cons, List.filter_cons, if_neg (by simp)]
    symm
    rw [List.filter_eq_self]
    intro y hy
    simp only [Bool.not_eq_true', decide_eq_false_iff_not]
    exact fun e => n.1 (List.mem_map.mpr ⟨y, hy, e⟩)
  | v :: l, i + 1, x, n, hx => by
    rw [List.map_cons, List.nodup_cons] at n
    rw [List.getElem?_cons_succ] at hx
    obtain ⟨h2, h3⟩ := erase_at n.2 hx
    have q : v.a ≠ x.a := fun e => n.1 (List.mem_map.mpr ⟨x, List.mem_of_getElem? hx, e.symm⟩)
    refine ⟨fun m hm => ?_, ?_⟩
    · cases m with
      | zero => exact ⟨v, rfl, q⟩
      | succ m =>
        obtain ⟨y, a, b⟩ := h2 m (by omega)
        exact ⟨y, by simpa using a, b⟩
    · rw [List.eraseIdx_cons_succ, h3, List.filter_cons, if_pos (by simp [q])]
section
variable {w : World} {z : Nat} {h B : Heap} {R : Rad} {f : Fo}
theorem Whole.one_rc (X : Whole w z h R f) {x : NLab} (hx : x ∈ nodes f) {b : Addr} (hb : b ∈ [x.a, x.d, x.c, x.hs, x.r, x.ts]) : ∀ y ∈ rlst R f, b ≠ y.2.1 := by
  intro y hy q
  have bo : b ∈ own x := by
    simp only [List.mem_cons, List.not_mem_nil, or_false] at hb
    simp only [own, List.mem_cons, List.not_mem_nil, or_false]
    rcases hb with h | h | h | h | h | h <;> simp [h]
  rcases rlst_cases hy with rfl | ⟨p, v, ks, hv, rfl⟩
  · have nod := X.nod
    simp only [List.nodup_cons, List.mem_cons, not_or] at nod
    have m := mem_own hx bo
    rw [q] at m
    exact nod.2.2.2.2.1 m
  · have := own_inj X.nodA hx (nds_mem hv) bo ((show b = v.rc from q) ▸ (by simp [own]))
    subst this
    have nd := own_nodup X.nodA hx
    simp only [own, List.nodup_cons, List.mem_cons, List.not_mem_nil, or_false, not_or] at nd
    have q' : b = x.rc := q
    simp only [List.mem_cons, List.not_mem_nil, or_false] at hb
    rcases hb with h | h | h | h | h | h
    · exact nd.1.2.2.2.2.1 (h ▸ q')
    · exact nd.2.1.2.2.2.1 (h ▸ q')
    · exact nd.2.2.1.2.2.1 (h ▸ q')
    · exact nd.2.2.2.1.2.1 (h ▸ q')
    · exact nd.2.2.2.2.1.1 (h ▸ q')
    · exact nd.2.2.2.2.2.1 (h ▸ q').symm
theorem Whole.root_rc (X : Whole w z h R f) {b : Addr} (hb : b = R.rt ∨ b = R.rd ∨ b = R.rc ∨ b = R.tr) : ∀ y ∈ rlst R f, b ≠ y.2.1 := by
  intro y hy q
  have nod := X.nod
  simp only [List.nodup_cons, List.mem_cons, not_or] at nod
  rcases rlst_cases hy with rfl | ⟨p, v, ks, hv, rfl⟩
  · rcases hb with rfl | rfl | rfl | rfl
    · exact nod.1.2.2.2.1 q
    · exact nod.2.1.2.2.1 q
    · exact nod.2.2.1.2.1 q
    · exact nod.2.2.2.1.1 q
  · have m : v.rc ∈ adr f := mem_own (nds_mem hv) (by simp [own])
    have q' : b = v.rc := q
    rcases hb with rfl | rfl | rfl | rfl
    · exact nod.1.2.2.2.2 (q' ▸ m)
    · exact nod.2.1.2.2.2 (q' ▸ m)
    · exact nod.2.2.1.2.2 (q' ▸ m)
    · exact nod.2.2.2.1.2 (q' ▸ m)
theorem Whole.same_rc (X : Whole w z h R f) {e e' : Addr × Addr × Fo} (he : e ∈ rlst R f) (he' : e' ∈ rlst R f) (q : e.2.1 = e'.2.1) : e = e' := by
  have nod := X.nod
  simp only [List.nodup_cons, List.mem_cons, not_or] at nod
  have nd2 : ((rlst R f).map (·.2.1)).Nodup := by
    have e2 : ((rowsF f).map (·.2.1)).Perm ((nodes f).map (·.rc)) := by
      have := (rowsF_perm R.rt f).map (·.2.1)
      rw [List.map_map] at this
      have e2 : (nodes f).map (·.rc) = (nds R.rt f).map fun y => y.2.1.rc := by rw [← nds_nodes R.rt f, List.map_map]; rfl
      rw [e2]; exact this
    show (R.trc :: (rowsF f).map (·.2.1)).Nodup
    rw [List.nodup_cons]
    refine ⟨fun q => ?_, (List.Perm.nodup_iff e2).mpr (nodup_map X.nodA fun x => by simp [own])⟩
    obtain ⟨x, hx, e'⟩ := List.mem_map.mp (e2.subset q)
    exact nod.2.2.2.2.1 (e' ▸ mem_own hx (by simp [own]))
  exact nodup_inj (g := fun e : Addr × Addr × Fo => e.2.1) nd2 e he e' he' q
theorem rlst_lsts {y : Addr × Addr × Fo} (hy : y ∈ rlst R f) : ∃ e ∈ lsts R.rt R.rc f, e.2.2 = y.2.2 ∧ ((e.2.1 = R.rc ∧ y.2.1 = R.trc) ∨ ∃ x ∈ nodes f, e.2.1 = x.c ∧ y.2.1 = x.rc) := by
  rcases rlst_cases hy with rfl | ⟨p, v, ks, hv, rfl⟩
  · exact ⟨_, .head _, rfl, .inl ⟨rfl, rfl⟩⟩
  · exact ⟨_, .tail _ (List.mem_map.mpr ⟨_, hv, rfl⟩), rfl, .inr ⟨v, nds_mem hv, rfl, rfl⟩⟩
/-- the tree behind remove_child and the row's pop -/
theorem delWhole (X : Whole w z h R f) {n c r rc : Addr} {ks : Fo} {v : NLab} {i : Nat} (hs : (n, c, r, rc, ks) ∈ slots R f) (hv : ks.tops[i]? = some v) (K : Kp (fun b => b = c ∨ b = rc) h B) (l1 : ListAt B c (ks.refs.eraseIdx i)) (l2 : ListAt B rc (ks.rrefs.eraseIdx i)) :
    Whole w z B R (cutm (fun y => decide (y.a = v.a)) (·.rc) f) ∧ ∀ b ∈ wadr R (cutm (fun y => decide (y.a = v.a)) (·.rc) f), b ∈ wadr R f := by
  have nod := X.nod
  have hl : (n, c, ks) ∈ lsts R.rt R.rc f := slots_lsts hs
  have hr : (r, rc, ks) ∈ rlst R f := slots_rlst hs
  have vt : v ∈ ks.tops := List.mem_of_getElem? hv
  have ea := (erase_at (tops_nodup ((lsts_sub _ hl).nodup X.nodA) fun x => by simp [own]) hv).2
  rw [refs_tops, map_erase, ea] at l1
  rw [rrefs_tops, map_erase, ea] at l2
  have sub := cutm_sub (fun y => decide (y.a = v.a)) f
  have memw : ∀ b ∈ wadr R (cutm (fun y => decide (y.a = v.a)) (·.rc) f), b ∈ wadr R f := fun b hb => by
    simp only [List.mem_cons] at hb ⊢
    rcases hb with h | h | h | h | h | h
    · exact .inl h
    · exact .inr (.inl h)
    · exact .inr (.inr (.inl h))
    · exact .inr (.inr (.inr (.inl h)))
    · exact .inr (.inr (.inr (.inr (.inl h))))
    · exact .inr (.inr (.inr (.inr (.inr (sub.subset h)))))
  have oth : ∀ e ∈ lsts R.rt R.rc f, e ≠ (n, c, ks) → (e.2.2.tops.filter fun y => !decide (y.a = v.a)) = e.2.2.tops := fun e he hne => by
    rw [List.filter_eq_self]
    intro y hy
    simp only [Bool.not_eq_true', decide_eq_false_iff_not]
    exact fun q => hne (X.same_list he hl hy vt q)
  have lB : ∀ e ∈ lsts R.rt R.rc f, ListAt B e.2.1 ((e.2.2.tops.filter fun y => !decide (y.a = v.a)).map fun y => Value.ref y.a) := fun e he => by
    by_cases q : e = (n, c, ks)
    · subst q; exact l1
    · rw [oth e he q, ← refs_tops]
      refine (lsts_list X.tr X.kids e he).mv fun o e' => K _ o (fun q' => q'.elim (fun q' => q (X.same_place he hl q')) fun q' => ?_) e'
      rcases lsts_cases he with rfl | ⟨p, x, ks', hx, rfl⟩
      · exact X.root_rc (.inr (.inr (.inl rfl))) _ hr q'
      · exact X.one_rc (nds_mem hx) (by simp) _ hr q'
  have rB : ∀ e ∈ rlst R f, ListAt B e.2.1 ((e.2.2.tops.filter fun y => !decide (y.a = v.a)).map fun y => Value.ref y.r) := fun e he => by
    by_cases q : e = (r, rc, ks)
    · subst q; exact l2
    · obtain ⟨e', he', hk, hc⟩ := rlst_lsts he
      have hne : e' ≠ (n, c, ks) := fun q' => q (X.same_rc he hr (by
        subst q'
        have cin : ∀ {v : NLab}, v ∈ nodes f → v.c ∈ adr f := fun h => mem_own h (by simp [own])
        simp only [List.nodup_cons, List.mem_cons, not_or] at nod
        rcases slots_cases hs with e | ⟨p, x, ks', hx, e⟩
        · cases e
          rcases hc with ⟨_, b⟩ | ⟨x, hx, a, b⟩
          · exact b
          · exact absurd ((show R.rc = x.c from a) ▸ cin hx) nod.2.2.1.2.2
        · cases e
          rcases hc with ⟨a, b⟩ | ⟨x', hx', a, b⟩
          · exact absurd ((show x.c = R.rc from a) ▸ cin (nds_mem hx)) nod.2.2.1.2.2
          · have := own_inj X.nodA hx' (nds_mem hx) (b := x.c) ((show x.c = x'.c from a) ▸ by simp [own]) (by simp [own])
            rw [b, this]))
      rw [← hk, oth e' he' hne, hk, ← rrefs_tops]
      refine (X.rowOf e he).2.1.mv fun o e' => K _ o (fun q' => q'.elim (fun q' => (X.rlst_ne he).2 _ hl q') fun q' => q (X.same_rc he hr q')) e'
  refine ⟨⟨?_, ?_, ?_, ?_, ?_, ?_, fun b hb => X.zz b (memw b hb), Nat.le_trans (cutm_size _ _ f) X.sz⟩, memw⟩
  · exact X.nd.mv fun b ob hb e => K b ob (fun q => q.elim (X.root_ne hb _ hl) (X.root_rc (hb.elim .inl fun q => .inr (.inl q)) _ hr)) e
  · rw [cutm_refs]; exact lB _ (.head _)
  · obtain ⟨t1, t2, l⟩ := X.row
    exact ⟨t1, t2, l.mv fun o e => K _ o (fun q => q.elim (X.rads_ne _ (.inl rfl) _ hl) (X.root_rc (.inr (.inr (.inr rfl))) _ hr)) e⟩
  · rw [cutm_rrefs]; exact rB _ (.head _)
  · refine cutm_tr _ _ fun y hy => ?_
    obtain ⟨o, -, -⟩ := tr_iff.mp X.tr _ hy
    have hv1 : (y.2.1.a, y.2.1.c, y.2.2) ∈ lsts R.rt R.rc f := .tail _ (List.mem_map.mpr ⟨y, hy, rfl⟩)
    have hv2 : (y.2.1.r, y.2.1.rc, y.2.2) ∈ rlst R f := rlst_nds (p := y.1) hy
    refine ⟨o.mv fun b ob hb e => K b ob (fun q => q.elim (X.one_ne (nds_mem hy) (by
        simp only [List.mem_cons, List.not_mem_nil, or_false] at hb ⊢
        rcases hb with h | h | h | h | h <;> simp [h]) _ hl) (X.one_rc (nds_mem hy) (by
        simp only [List.mem_cons, List.not_mem_nil, or_false] at hb ⊢
        rcases hb with h | h | h | h | h <;> simp [h]) _ hr)) e, lB _ hv1, rB _ hv2⟩
  · refine List.Sublist.nodup ?_ X.nod
    exact .cons_cons _ (.cons_cons _ (.cons_cons _ (.cons_cons _ (.cons_cons _ sub))))
end

theorem slicePick_mem {items : Array Value} {lo hi st : Option Int} {v : Value} (h : v ∈ (slicePick items lo hi st).toList) : v ∈ items.toList := by
  unfold slicePick at h
  rw [List.toList_toArray, List.mem_filterMap] at h
  obtain ⟨i, _, e⟩ := h
  rw [← Array.getElem?_toList] at e
  exact List.mem_of_getElem? e
section
variable {w : World} {z : Nat} {A : Around} {E : Value → Shared → Prop} {h : Heap} {g : Array GenState} {d : Drawn} {t : Nat} {o : OsState}
theorem kSliceTo {B : Heap} {L : Addr} {m : Str → Option Value} {env : Env} {e : Expr} {p p1 p2 : Pos} {n : Nat} {ra : Addr} {i : Int} {xs : List Value} {Q : Value → Shared → Prop} (F : Fm B L h m) (hl : ListAt B ra xs) (hz : xs.length ≤ 900) (ht : ∀ o r, letTemporaryGo e o r = pure ())
    (he : ∀ (Q' : Value → Shared → Prop), Q' (.ref ra) ⟨h, g, d, t, o⟩ → wpAny (model pr w) A (eval e env) Q' E ⟨h, g, d, t, o⟩)
    (H : ∀ D h' B' t' ys, Fm B' L h' m → Le B B' → ListAt B' D ys → (∀ v ∈ ys, v ∈ xs) → ys.length ≤ xs.length → h.get? D = none → Q (.ref D) ⟨h', g, d, t', o⟩) :
    wpAny (model pr w) A (eval (.Subscript e (.Slice none (some (.Constant (.int i) n p1)) none p2) p) env) Q E ⟨h, g, d, t, o⟩ := by
  refine wpAny_Subscript_list_slice (he _ (wpAny_evalPart_none (wpAny_evalPart_some (kInt fun tk t' => ?_)))) ht
  obtain ⟨q, e1⟩ := hl
  have e2 := F.keep _ _ e1
  refine ⟨ra, xs.toArray, none, some i, rfl, ⟨_, e2, rfl, q, rfl⟩, by rw [sizeLine_eq, List.size_toArray]; omega, .none, .int i tk, ?_⟩
  obtain ⟨B', F', l', s1, n1, n2⟩ := kPush (ob := { cls := .type "slice", data := .fields #[.none, .int i tk, .none] }) F rfl
  obtain ⟨B₂, F₂, l₂, s2, n3, n4⟩ := kPush (ob := { cls := .type "list", data := .seq (slicePick xs.toArray none (some i) none) }) F' rfl
  rw [Heap.size_push] at s2 n4
  refine H _ _ B₂ _ (slicePick xs.toArray none (some i) none).toList F₂ (l'.trans l₂) ⟨0, by simpa using s2⟩ (fun v hv => by simpa using slicePick_mem hv) (by have := slicePick_size_le xs.toArray none (some i) none; simpa using this) ?_
  cases q : h.get? (h.objs.size + 1) with
  | none => rfl
  | some ob => exact absurd (Heap.lt_size q) (Nat.not_lt.mpr (Nat.le_succ _))
theorem start_spec {sc : Addr} {vs : List Value} {Q : Value → Shared → Prop} (G : Grd w z h) (r : Rm A 10) (ls : ListAt h sc vs) (hi : ∀ v ∈ vs, ∃ i t, v = .int i t) (hz : vs.length ≤ 63)
    (H : ∀ st q h' g' d' t', Le h h' → KpG noneG g g' → StAt z h' st q → h.get? st = none → h.get? q = none → Q (.ref st) ⟨h', g', d', t', o⟩) :
    wpAny (model pr w) A (call (.ref 87) [.ref sc]) Q E ⟨h, g, d, t, o⟩ := by
  refine callF (binds := [(Str.ofString "script", .ref sc)]) G rfl rfl rfl rfl (by have := r.dp; omega) rfl rfl rfl rfl rfl rfl ?_
  intro h₁ F₁ env A'
  have rA : Rm A' 9 := r.deeper
  have zL : z ≤ h.objs.size := G.size
  iterate 3 walk1
  refine spliced_cons ?_
  refine lcRuleZ (L := h.objs.size) (by rfl) (by rfl) (by rfl) (by rfl) (by intro _; rfl) ?_
  refine kSliceTo F₁ ls (by omega) (fun _ _ => rfl) (fun Q' q => ?_) fun D h₂ B₂ t₂ ys F₂ K₂ l₂ my ly nD => ?_
  · repeat' walk1
    exact q
  refine kIterL F₂ l₂ fun it h₃ B₃ F₃ K₃ k₃ n₃ e₃ I₃ => ?_
  dsimp only at F₁ F₂ F₃ K₂
  have F₂x : ∀ b ob, h.get? b = some ob → h₂.get? b = some ob := fun b ob e => F₂.keep _ _ (K₂ _ _ e)
  have up : ∀ b ob, h.get? b = some ob → B₃.get? b = some ob ∧ ¬ b = it := fun b ob e => ⟨K₃ _ _ (K₂ _ _ e), fun q => by have := F₂.keep _ _ (K₂ _ _ e); rw [q, n₃] at this; cases this⟩
  have nLit : ¬ h.objs.size = it := fun q => by obtain ⟨ob, e⟩ := F₂.there; rw [q, n₃] at e; cases e
  refine ⟨_, _, _, ys, _, _, _, B₃, _, fun rem zs Ft B₁ => (∀ v ∈ rem, ∃ i t, v = .int i t) ∧ zs.length + rem.length ≤ 63 ∧ ∀ v ∈ zs, IntIn 0 big v, itr_list rA.hh e₃, I₃, F₃, nLit, fun _ _ _ q _ => wpAny_pure q, fun _ _ _ _ _ q _ => q, ?_, fun B₁ => ⟨fun v hv => hi v (my v hv), by simp; omega, fun v hv => by cases hv⟩, ?_, ?_⟩
  · rintro rem zs Ft B₁ ⟨_, e, _⟩; rw [sizeLine_eq]; omega
  · rintro C x rem zs v R' Ft B₁ hh gg dd tt m₁ ⟨q1, q2, q3⟩ F₁' k₁ ⟨rfl, _⟩
    obtain ⟨i, ti, rfl⟩ := q1 _ (.head _)
    have le1 : Le h B₁ := fun b ob e => k₁ b ob (up b ob e).2 (up b ob e).1
    have G₁ := G.le le1
    clear F₁ F₂ F₃ I₃
    refine wpAny_assign_Name (kStore F₁' rfl rfl rfl fun h₄ t₄ F₄ => ?_)
    repeat' walk1
    refine ⟨none1, B₁, h₄, gg, dd, _, _, rfl, F₄, .refl _ _, .refl _ _, ⟨fun v hv => q1 v (.tail _ hv), by simp only [List.length_append, List.length_cons, List.length_nil] at q2 ⊢; omega, fun v hv => ?_⟩, fun b q => q.elim⟩
    rcases List.mem_append.mp hv with hv | hv
    · exact q3 v hv
    · rw [List.mem_singleton] at hv
      refine ⟨_, _, hv, ?_, ?_⟩
      · exact Int.emod_nonneg _ (by decide)
      · have := Int.emod_lt_of_pos (if i < 0 then -i else i) (show (0 : Int) < 1000000007 by decide)
        have e : big = 2147483648 := rfl
        omega
  · rintro zs Ft B₁ D₂ hh gg dd tt ⟨q1, q2, q3⟩ F₁' k₁ l₁ nD₂ zD₂ kg
    have le1 : Le h B₁ := fun b ob e => k₁ b ob (up b ob e).2 (up b ob e).1
    have ls₁ := ls.le le1
    have G₁ := G.le le1
    clear F₁ F₂ F₃ I₃
    repeat' walk1
    rename_i u1 t1 u2 t2 u3 t3 u4 t4 D₅ h₅ B₅ F₅ K₅ l₅ n₅ nh₅ zz₅ K₅'
    have nS : h.get? D₂ = none := none_of (fun b ob e => k₃ b ob (F₂x b ob e)) nD₂
    refine H D₅ D₂ h₅ gg dd _ (fun b ob e => F₅.keep _ _ (K₅ _ _ (le1 b ob e))) kg ⟨⟨0, u1, 7 + (vs.length : Int), u4, l₅.le F₅.keep, by decide, by decide, by omega, by have e : big = 2147483648 := rfl; omega⟩, ⟨zs, (l₁.le K₅).le F₅.keep, q3, by simp at q2; omega⟩, ?_, ?_, ?_⟩ (none_of le1 n₅) nS
    · exact Nat.le_trans ((G.le (fun b ob e => F₁'.keep b ob (le1 b ob e))).size) zz₅
    · exact Nat.le_trans (G.le (fun b ob e => k₃ b ob (F₂x b ob e))).size zD₂
    · exact fun q => by obtain ⟨n, e⟩ := l₁; rw [q] at nh₅; rw [F₁'.keep _ _ e] at nh₅; cases nh₅
end

section
variable {w : World} {A : Around} {E : Value → Shared → Prop}
/-- the end of a turn of forRange -/
inductive EndR (it L : Addr) (a n : Int) (o : OsState) (J : Heap → Array GenState → (Str → Option Value) → Prop) (K : Value → Shared → Prop) : Flow → Shared → Prop
  | next {f : Flow} {B h : Heap} {g : Array GenState} {d : Drawn} {t : Nat} {m : Str → Option Value} (hf : f = .next ∨ f = .cont) (F : Fm B L h m) (hi : IsRangeIter B it a n 1) (j : J B g m) : EndR it L a n o J K f ⟨h, g, d, t, o⟩
  | out {v : Value} {s : Shared} (k : K v s) : EndR it L a n o J K (.ret v) s
theorem forRange {x : Str} {p : Pos} {body : List Stmt} {env : Env} {it L : Addr} {o : OsState} (hh : A.handled = none) (J : Nat → Heap → Array GenState → (Str → Option Value) → Prop) (hJ : ∀ n B B' g m, J n B g m → Kp (fun b => b = it) B B' → J n B' g m) {K : Value → Shared → Prop} {R₁ : Result → Shared → Prop}
    (turn : ∀ (i n : Nat) (tk : Tok) B h g d t m, J (n + 1) B g m → Fm B L h m → IsRangeIter B it ((i + 1 : Nat) : Int) (n : Int) 1 →
      wpAny (model pr w) A (storeName env x (.int (i : Int) tk)) (fun _ s₁ => wpAny (model pr w) A (execs body env) (EndR it L ((i + 1 : Nat) : Int) (n : Int) o (J n) K) (fun _ _ => False) s₁) (fun _ _ => False) ⟨h, g, d, t, o⟩)
    (ret : ∀ v s, K v s → R₁ (.ok (.ret v)) s)
    (done : ∀ B h g d t m, J 0 B g m → Fm B L h m → R₁ (.ok .next) ⟨h, g, d, t, o⟩) :
    ∀ (n i : Nat) (B h : Heap) (g : Array GenState) (d : Drawn) (t : Nat) (m : Str → Option Value), J n B g m → Fm B L h m → IsRangeIter B it (i : Int) (n : Int) 1 → codeAny (model pr w) A (.forLoop (.Name x p) (.ref it) body [] env) R₁ ⟨h, g, d, t, o⟩ := by
  intro n
  induction n with
  | zero =>
    intro i B h g d t m j F hi
    refine codeAny_of_tree ?_
    rw [Around.under_of_weight (by rfl) (by rfl)]
    show wpAny _ A ((forTurn (.Name x p) (.ref it) body [] env).onRaise _) _ _ _
    refine noRaise ?_
    unfold forTurn
    have nitL : it ≠ L := F.off_ne hi
    refine wpAny_bind (wpAny_standAt (wpAny_bind (noRaise (wpAny_pyNext_range_end hh (F.keep _ _ hi) (by omega) fun h' hs => ?_))))
    refine wpAny_pure ⟨rfl, codeAny_of_tree ?_⟩
    rw [Around.under_of_weight (by rfl) (by rfl)]
    show wpAny _ A (Sem.onRaise (execs [] env) _ >>= _) _ _ _
    refine wpAny_bind (noRaise (wpAny_execs_nil (wpAny_pure ?_)))
    obtain ⟨B', F', kB, up⟩ := F.after (W := fun b => b = it) (fun b ob n e => hs b ob n e) (fun q => nitL q.symm)
    exact done B' h' g d t m (hJ _ _ _ _ _ j kB) F'
  | succ n ih =>
    intro i B h g d t m j F hi
    refine codeAny_of_tree ?_
    rw [Around.under_of_weight (by rfl) (by rfl)]
    show wpAny _ A ((forTurn (.Name x p) (.ref it) body [] env).onRaise _) _ _ _
    refine noRaise ?_
    unfold forTurn
    have nitL : it ≠ L := F.off_ne hi
    refine wpAny_bind (wpAny_standAt (wpAny_bind (noRaise (wpAny_pyNext_range_item (F.keep _ _ hi) (by omega) fun h' hi' hs => ?_))))
    obtain ⟨B', F', kB, up⟩ := F.after (W := fun b => b = it) (fun b ob n e => (hs.2 b n).trans e) (fun q => nitL q.symm)
    have e1 : (i : Int) + 1 = ((i + 1 : Nat) : Int) := by omega
    have e2 : ((n + 1 : Nat) : Int) - 1 = (n : Int) := by omega
    rw [e1, e2] at hi'
    refine wpAny_bind (wpAny_pure ?_)
    refine wpAny_bind (wpAny_assign_Name (wpAny_mono (turn i n _ B' h' g d _ m (hJ _ _ _ _ _ j kB) F' (up _ _ nitL hi')) (fun _ s₁ q₁ => wpAny_bind (wpAny_mono q₁ (fun f s₂ q₂ => ?_) fun _ _ x => x)) fun _ _ x => x))
    cases q₂ with
    | next hf F₂ hi₂ j₂ =>
      rename_i B₂ h₂ g₂ d₂ t₂ m₂
      have fin : wpAny (model pr w) A (again (.forLoop (.Name x p) (.ref it) body [] env)) (fun fin s' => match fin with | .done f => R₁ (.ok f) s' | .again c' => c'.quiet = true ∧ codeAny (model pr w) A c' R₁ s') (fun _ _ => False) ⟨h₂, g₂, d₂, t₂, o⟩ :=
        wpAny_pure ⟨rfl, ih (i + 1) B₂ h₂ g₂ d₂ t₂ m₂ j₂ F₂ hi₂⟩
      rcases hf with rfl | rfl <;> exact fin
    | out k₂ => exact wpAny_pure (ret _ _ k₂)
end

theorem StAt.mv {z : Nat} {h h' : Heap} {a q : Addr} (S : StAt z h a q) (k : ∀ b o, b = a ∨ b = q → h.get? b = some o → h'.get? b = some o) : StAt z h' a q :=
  let ⟨⟨c, t1, sd, t2, l, r⟩, ⟨vs, l', r'⟩, za, zq, ne⟩ := S
  ⟨⟨c, t1, sd, t2, l.mv fun o e => k _ o (.inl rfl) e, r⟩, ⟨vs, l'.mv fun o e => k _ o (.inr rfl) e, r'⟩, za, zq, ne⟩
/-- what the law's loop keeps: the top, the tree, the state, and all that stood before the call -/
structure LawI (w : World) (z : Nat) (hb B : Heap) (R : Rad) (f : Fo) (st q : Addr) : Prop where
  G : Grd w z B
  X : Whole w z B R f
  S : StAt z B st q
  nst : st ∉ wadr R f
  nq : q ∉ wadr R f
  keep : Le hb B
  fst : hb.get? st = none
  fq : hb.get? q = none
  fw : ∀ b ∈ wadr R f, hb.get? b = none
theorem LawI.le {w z hb B B' R f st q} (I : LawI w z hb B R f st q) (k : Le B B') : LawI w z hb B' R f st q :=
  ⟨I.G.le k, I.X.mv k, I.S.mv fun b o _ e => k b o e, I.nst, I.nq, I.keep.trans k, I.fst, I.fq, I.fw⟩
theorem Whole.mvw {w z h h' R f} (x : Whole w z h R f) (k : ∀ b ob, b ∈ wadr R f → h.get? b = some ob → h'.get? b = some ob) : Whole w z h' R f :=
  ⟨x.nd.mv fun b o hb e => k b o (by rcases hb with rfl | rfl <;> simp) e, x.kids.mv fun o e => k _ o (by simp) e, let ⟨a, b, c⟩ := x.row; ⟨a, b, c.mv fun o e => k _ o (by simp) e⟩, x.rws.mv fun o e => k _ o (by simp) e, x.tr.mv fun b o hb e => k b o (by simp [hb]) e, x.nod, x.zz, x.sz⟩
theorem LawI.take {w z hb B B' R f st q} (I : LawI w z hb B R f st q) (k : Kp (fun b => b = st ∨ b = q) B B') (S : StAt z B' st q) : LawI w z hb B' R f st q :=
  ⟨I.G.kp k fun b e => e.elim (fun e => e ▸ I.S.za) fun e => e ▸ I.S.zq, I.X.mvw fun b ob hb e => k b ob (fun q => q.elim (fun q => I.nst (q ▸ hb)) fun q => I.nq (q ▸ hb)) e, S, I.nst, I.nq,
    fun b ob e => k b ob (fun q => q.elim (ne_of e I.fst) (ne_of e I.fq)) (I.keep b ob e), I.fst, I.fq, I.fw⟩
/-- the tree is turned -/
theorem LawI.turn {w z hb B B' R R' f f' st q} (I : LawI w z hb B R f st q) (k : Kp (fun b => b ∈ wadr R f) B B') (X : Whole w z B' R' f') (hw : ∀ b ∈ wadr R' f', b ∈ wadr R f ∨ B.get? b = none) : LawI w z hb B' R' f' st q := by
  obtain ⟨⟨c, t1, sd, t2, l, _⟩, ⟨vs, l', _⟩, za, zq, _⟩ := id I.S
  have n1 : st ∉ wadr R' f' := fun m => (hw _ m).elim I.nst fun e => by obtain ⟨n, e'⟩ := l; rw [e] at e'; cases e'
  have n2 : q ∉ wadr R' f' := fun m => (hw _ m).elim I.nq fun e => by obtain ⟨n, e'⟩ := l'; rw [e] at e'; cases e'
  refine ⟨I.G.kp k fun b e => I.X.zz b e, X, I.S.mv fun b o hb e => k b o (hb.elim (fun e => e ▸ I.nst) fun e => e ▸ I.nq) e, n1, n2, fun b ob e => k b ob (fun m => ne_of e (I.fw b m) rfl) (I.keep b ob e), I.fst, I.fq, fun b m => (hw b m).elim (I.fw b) fun e => ?_⟩
  exact none_of I.keep e
section
variable {w : World} {z : Nat} {A : Around} {E : Value → Shared → Prop} {B h : Heap} {L : Addr} {m : Str → Option Value} {g : Array GenState} {d : Drawn} {t : Nat} {o : OsState}
theorem kTake {hb : Heap} {R : Rad} {f : Fo} {st q : Addr} {many : Int} {tm : Tok} {Q : Value → Shared → Prop} (F : Fm B L h m) (I : LawI w z hb B R f st q) (r : Rm A 10) (hm : 1 ≤ many) (hm2 : many < 1000)
    (H : ∀ r tr h' t' B', Fm B' L h' m → LawI w z hb B' R f st q → Kp (fun b => b = st ∨ b = q) B B' → 0 ≤ r → r < many → Q (.int r tr) ⟨h', g, d, t', o⟩) :
    wpAny (model pr w) A (call (.ref 94) [.ref st, .int many tm]) Q E ⟨h, g, d, t, o⟩ := by
  obtain ⟨⟨c, t1, sd, t2, l, _⟩, ⟨vs, l', _⟩, za, zq, _⟩ := id I.S
  have n1 : st ≠ L := F.off_ne l.choose_spec
  have n2 : q ≠ L := F.off_ne l'.choose_spec
  refine take_spec (s := ⟨h, g, d, t, o⟩) (I.G.le F.keep) (by have := r.dp; omega) (I.S.mv fun b o _ e => F.keep b o e) hm hm2 fun r tr h' tk r0 r1 K S => ?_
  obtain ⟨B', F', K', up⟩ := F.after K fun q => q.elim (fun e => n1 e.symm) fun e => n2 e.symm
  have S' : StAt z B' st q := S.mv fun b o hb e => up b o (fun q => hb.elim (fun e => n1 (e ▸ q)) fun e => n2 (e ▸ q)) e
  exact H r tr h' tk B' F' (I.take K' S') K' r0 r1
/-- behind a call that only makes -/
theorem Fm.grow {h' : Heap} (F : Fm B L h m) (k : Le h h') : ∃ B', Fm B' L h' m ∧ Le B B' ∧ (∀ b ob, h.get? b = none → h'.get? b = some ob → B'.get? b = some ob) := by
  obtain ⟨B', F', K', up⟩ := F.after (Le.kp k none1) id
  exact ⟨B', F', K'.le, fun b ob n e => up b ob (fun q => by obtain ⟨o', e'⟩ := F.there; rw [q, e'] at n; cases n) e⟩
end
theorem LawI.it {w z hb B B' R f st q it} (I : LawI w z hb B R f st q) (k : Kp (fun b => b = it) B B') (n : it ∉ wadr R f) (n1 : it ≠ st) (n2 : it ≠ q) (nz : z ≤ it) (nh : hb.get? it = none) : LawI w z hb B' R f st q :=
  ⟨I.G.kp k fun b e => e ▸ nz, I.X.mvw fun b ob hb e => k b ob (fun q => n (q ▸ hb)) e, I.S.mv fun b o hb e => k b o (fun q => hb.elim (fun e => n1 (q.symm.trans e)) fun e => n2 (q.symm.trans e)) e, I.nst, I.nq,
    fun b ob e => k b ob (ne_of e nh) (I.keep b ob e), I.fst, I.fq, I.fw⟩
section
variable {w : World} {A : Around} {E : Value → Shared → Prop} {B h : Heap} {L : Addr} {m : Str → Option Value} {g : Array GenState} {d : Drawn} {t : Nat} {o : OsState}
theorem kIterR2 {a : Addr} {n : Nat} {Q : Value → Shared → Prop} (F : Fm B L h m) (hr : RgAt B a n) (hz : n < 2 ^ 60)
    (H : ∀ it h' B', Fm B' L h' m → Le B B' → IsRangeIter B' it ((0 : Nat) : Int) (n : Int) 1 → h.get? it = none → h.objs.size ≤ it → Q (.ref it) ⟨h', g, d, t, o⟩) :
    wpAny (model pr w) A (pyIter (.ref a)) Q E ⟨h, g, d, t, o⟩ := by
  obtain ⟨t1, u, v, e⟩ := hr
  have e' := F.keep _ _ e
  refine wpAny_pyIter_range e' (small_one (by omega) (by omega) (by omega) (by omega)) ?_
  have sz : Builtin.Range.rangeSize 0 (n : Int) 1 = (n : Int) := by
    unfold Builtin.Range.rangeSize
    rw [if_pos (by decide)]
    split <;> omega
  rw [sz]
  obtain ⟨B', F', l, e2, n1, n2⟩ := kPush (ob := { cls := .type "range_iterator", data := .fields #[rawInt 0, rawInt n, rawInt 1] }) F rfl
  exact H _ _ B' F' l e2 n2 (Nat.le_refl _)
end
structure LawT (w : World) (z : Nat) (hb B : Heap) (R : Rad) (f : Fo) (st q it : Addr) (ob : Obj) : Prop where
  I : LawI w z hb B R f st q
  hi : B.get? it = some ob
  nw : it ∉ wadr R f
  ns : it ≠ st
  nq : it ≠ q
theorem LawT.le {w z hb B B' R f st q it ob} (T : LawT w z hb B R f st q it ob) (k : Le B B') : LawT w z hb B' R f st q it ob := ⟨T.I.le k, k _ _ T.hi, T.nw, T.ns, T.nq⟩
theorem LawT.turn {w z hb B B' R R' f f' st q it ob} (T : LawT w z hb B R f st q it ob) (k : Kp (fun b => b ∈ wadr R f) B B') (X : Whole w z B' R' f') (hw : ∀ b ∈ wadr R' f', b ∈ wadr R f ∨ B.get? b = none) : LawT w z hb B' R' f' st q it ob :=
  ⟨T.I.turn k X hw, k _ _ T.nw T.hi, fun m => (hw _ m).elim T.nw fun e => (by rw [T.hi] at e; cases e), T.ns, T.nq⟩
section
variable {w : World} {z : Nat} {A : Around} {E : Value → Shared → Prop} {B h : Heap} {L : Addr} {m : Str → Option Value} {g : Array GenState} {d : Drawn} {t : Nat} {o : OsState}
theorem kTakeT {hb : Heap} {R : Rad} {f : Fo} {st q it : Addr} {ob : Obj} {many : Int} {tm : Tok} {Q : Value → Shared → Prop} (F : Fm B L h m) (T : LawT w z hb B R f st q it ob) (r : Rm A 10) (hm : 1 ≤ many) (hm2 : many < 1000)
    (H : ∀ r tr h' t' B', Fm B' L h' m → LawT w z hb B' R f st q it ob → Kp (fun b => b = st ∨ b = q) B B' → 0 ≤ r → r < many → Q (.int r tr) ⟨h', g, d, t', o⟩) :
    wpAny (model pr w) A (call (.ref 94) [.ref st, .int many tm]) Q E ⟨h, g, d, t, o⟩ :=
  kTake F T.I r hm hm2 fun r tr h' t' B' F' I' K r0 r1 => H r tr h' t' B' F' ⟨I', K _ _ (fun q => q.elim T.ns T.nq) T.hi, T.nw, T.ns, T.nq⟩ K r0 r1
theorem kStr2 {r : Int} {u : Tok} {Q : Value → Shared → Prop} (h0 : 0 ≤ r) (h1 : r < 100) (H : ∀ (x : Str) tk t', x.length ≤ 200 → Q (.str x tk) ⟨h, g, d, t', o⟩) :
    wpAny (model pr w) A (call (.type "str") [.int r u]) Q E ⟨h, g, d, t, o⟩ := by
  have hl : (Str.ofString (toString r)).length ≤ 200 := by
    have := len_str_of_int r
    omega
  refine P.str_of_int ?_ (H _ _ _ hl)
  by_cases e : r.natAbs = 0
  · rw [e]; decide
  · have h7 : r.natAbs < 2 ^ 7 := by omega
    have := (Nat.log2_lt e).mpr h7
    omega
theorem Whole.slotNode {R : Rad} {f : Fo} (X : Whole w z h R f) {n c r rc : Addr} {ks : Fo} (hs : (n, c, r, rc, ks) ∈ slots R f) : ∃ C dd, Cls C ∧ Nd h C n dd c ∧ ListAt h c ks.refs ∧ RowAt h r rc ∧ ListAt h rc ks.rrefs ∧ Tr w h n ks ∧ ks.size ≤ f.size := by
  obtain ⟨C, dd, hC, nd, l, tr, _⟩ := X.place _ (slots_lsts hs)
  obtain ⟨⟨a1, a2, a3, lr⟩, lrc, -, -, -, hz, -⟩ := X.rowOf _ (slots_rlst hs)
  exact ⟨C, dd, hC, nd, l, ⟨a1, a2, a3, lr⟩, lrc, tr, hz⟩
end
/-- where the deed's node is known -/
inductive LawN (w : World) (z : Nat) (hb : Heap) (L : Addr) (R : Rad) (f : Fo) (st q it : Addr) (ob : Obj) (g : Array GenState) (d : Drawn) (o : OsState) (fl : Flow) (s' : Shared) : Prop
  | mk (e0 : fl = .next) (nd rr c rc : Addr) (ks : Fo) (B' h' : Heap) (t' : Nat) (m' : Str → Option Value) (e1 : s' = ⟨h', g, d, t', o⟩) (T : LawT w z hb B' R f st q it ob) (F : Fm B' L h' m') (sl : (nd, c, rr, rc, ks) ∈ slots R f)
    (m1 : m' (Str.ofString "node") = some (.ref nd)) (m2 : m' (Str.ofString "row") = some (.ref rr)) (m3 : m' (Str.ofString "root") = some (.ref R.rt)) (m4 : m' (Str.ofString "tree") = some (.ref R.tr)) (m5 : m' (Str.ofString "state") = some (.ref st)) : LawN w z hb L R f st q it ob g d o fl s'
/-- what a turn of the law's loop keeps -/
inductive LawJ (w : World) (z : Nat) (hb : Heap) (st q it rt tr : Addr) (g : Array GenState) (n : Nat) (B : Heap) (g' : Array GenState) (m : Str → Option Value) : Prop
  | mk (R' : Rad) (f' : Fo) (I : LawI w z hb B R' f' st q) (nw : it ∉ wadr R' f') (e1 : R'.rt = rt) (e2 : R'.tr = tr) (sz : f'.size + n ≤ 30) (kg : KpG noneG g g')
    (m3 : m (Str.ofString "root") = some (.ref rt)) (m4 : m (Str.ofString "tree") = some (.ref tr)) (m5 : m (Str.ofString "state") = some (.ref st)) : LawJ w z hb st q it rt tr g n B g' m
/-- behind the deed -/
inductive LawE (w : World) (z : Nat) (hb : Heap) (L : Addr) (R : Rad) (st q it : Addr) (ob : Obj) (g : Array GenState) (o : OsState) (n : Nat) (fl : Flow) (s' : Shared) : Prop
  | mk (e0 : fl = .next) (R'' : Rad) (f'' : Fo) (B' h' : Heap) (g' : Array GenState) (d' : Drawn) (t' : Nat) (m' : Str → Option Value) (e1 : s' = ⟨h', g', d', t', o⟩) (T : LawT w z hb B' R'' f'' st q it ob) (F : Fm B' L h' m') (e2 : R''.rt = R.rt) (e3 : R''.tr = R.tr) (sz : f''.size + n ≤ 30) (kg : KpG noneG g g')
    (m3 : m' (Str.ofString "root") = some (.ref R.rt)) (m4 : m' (Str.ofString "tree") = some (.ref R.tr)) (m5 : m' (Str.ofString "state") = some (.ref st)) : LawE w z hb L R st q it ob g o n fl s'
section
variable {w : World} {z : Nat} {A : Around} {E : Value → Shared → Prop} {B h : Heap} {L : Addr} {m : Str → Option Value} {g : Array GenState} {d : Drawn} {t : Nat} {o : OsState}
theorem kUnpackS {T : Addr} {a b : Value} {n : Nat} {Q : List Value → Shared → Prop} (hn : n = 2) (hh : A.handled = none) (F : Fm B L h m) (hT : TupAt B T [a, b])
    (H : ∀ h' B', Fm B' L h' m → Le B B' → Q [a, b] ⟨h', g, d, t, o⟩) : wpAny (model pr w) A (unpackItems (.ref T) n none) Q E ⟨h, g, d, t, o⟩ := by
  subst hn
  obtain ⟨q, e1⟩ := hT
  have e2 := F.keep _ _ e1
  refine wpAny_unpackItems_tuple (items := [a, b].toArray) hh ⟨_, e2, rfl, q, rfl⟩ fun h' ex => ?_
  have nL : ¬ h.objs.size = L := fun q => by obtain ⟨ob, e⟩ := F.there; rw [← q, get_new] at e; cases e
  obtain ⟨B', F', kB, up⟩ := F.after (W := fun b => b = h.objs.size) ex (fun q => nL q.symm)
  exact H h' B' F' fun b ob e => kB b ob (fun q => by have := F.keep _ _ e; rw [q, get_new] at this; cases this) e
end
theorem StrsAre.snoc {x : Str} {v : Value} (p : ∃ t, v = .str x t) : ∀ {vs : List Value} {xs : List Str}, StrsAre vs xs → StrsAre (vs ++ [v]) (xs ++ [x])
  | [], [], _ => ⟨p, trivial⟩
  | u :: vs, y :: xs, h => ⟨h.1, StrsAre.snoc p h.2⟩
  | [], _ :: _, h => h.elim
  | _ :: _, [], h => h.elim
theorem SX.ne_list {w : World} {h : Heap} {a b : Addr} {S n xs} (x : SX w h a S n) (y : ListAt h b xs) : a ≠ b := fun q => by
  obtain ⟨_, _, _, e, _⟩ := x; obtain ⟨k, e'⟩ := y; rw [q, e'] at e; have e1 := congrArg (fun o => o.map (·.cls)) e; simp at e1
theorem LawT.fresh {w z hb B R f st q it ob} (T : LawT w z hb B R f st q it ob) {b : Addr} (n : B.get? b = none) : b ∉ wadr R f ∧ b ≠ st ∧ b ≠ q ∧ b ≠ it ∧ hb.get? b = none := by
  obtain ⟨⟨_, _, _, _, l, _⟩, ⟨_, l', _⟩, _⟩ := T.I.S
  refine ⟨fun m => ?_, fun e => ?_, fun e => ?_, fun e => ?_, none_of T.I.keep n⟩
  · obtain ⟨o, e⟩ := T.I.X.there b m; rw [n] at e; cases e
  · obtain ⟨k, e'⟩ := l; rw [← e, n] at e'; cases e'
  · obtain ⟨k, e'⟩ := l'; rw [← e, n] at e'; cases e'
  · have := T.hi; rw [← e, n] at this; cases this
theorem LawT.hide {w z hb B R f st q it ob} (T : LawT w z hb B R f st q it ob) {b : Addr} (fr : b ∉ wadr R f ∧ b ≠ st ∧ b ≠ q ∧ b ≠ it ∧ hb.get? b = none) (zb : z ≤ b) : LawT w z hb (B.hide b) R f st q it ob :=
  ⟨T.I.it (it := b) (fun c o n e => (Heap.hide_ne _ n).trans e) fr.1 fr.2.1 fr.2.2.1 zb fr.2.2.2.2, (Heap.hide_ne _ fun e => fr.2.2.2.1 e.symm).trans T.hi, T.nw, T.ns, T.nq⟩
theorem fnil {α : Type} {P : α → Prop} : ∀ b ∈ ([] : List α), P b := fun _ h => nomatch h
theorem fcons {α : Type} {P : α → Prop} {a : α} {l : List α} (h : P a) (t : ∀ b ∈ l, P b) : ∀ b ∈ a :: l, P b := List.forall_mem_cons.mpr ⟨h, t⟩
theorem all6 {α : Type} {P : α → Prop} {a b c d e f : α} (h : ∀ x ∈ [a, b, c, d, e, f], P x) : P a ∧ P b ∧ P c ∧ P d ∧ P e ∧ P f := ⟨h _ (by simp), h _ (by simp), h _ (by simp), h _ (by simp), h _ (by simp), h _ (by simp)⟩
theorem exG {w : World} {A : Around} {st : Stmt} {rest : List Stmt} {env : Env} {Q : Flow → Shared → Prop} {E : Value → Shared → Prop} {s : Shared}
    (h : ∀ Q', (∀ fl s', (match fl with | .next => wpAny (model pr w) A (execs rest env) Q E s' | f => Q f s') → Q' fl s') → wpAny (model pr w) A (exec st env) Q' E s) :
    wpAny (model pr w) A (execs (st :: rest) env) Q E s := wpAny_execs_cons (h _ fun _ _ q => q)

set_option hygiene false in
local macro_rules | `(tactic| walk_at "execs cons") => `(tactic| (with_reducible refine exG ?_; intro Q9 hQ9))
set_option hygiene false in
local macro_rules | `(tactic| walk_at "q9") => `(tactic| (with_reducible refine hQ9 _ _ ?_; clear hQ9 Q9; try dsimp only))
local macro_rules | `(tactic| walk_at "go") => `(tactic| ((try walk_at "q9"); walk1; (try walk_at "q9")))

/-- what a turn of the sweep keeps -/
inductive SwJ1 (k : Nat) (R : Rad) (f : Fo) (tk : Tok) (wh : Int) (Dg : Addr) (rem : List (NLab × Addr)) (N : Addr → Prop) (B : Heap) (m : Str → Option Value) : Prop
  | mk (dn : List (NLab × Addr)) (gs : List Value) (u : Tok) (e1 : dn ++ rem = lv k f R.rc) (e2 : m (Str.ofString "count") = some (.int (dn.length : Int) u)) (e3 : m (Str.ofString "gone") = some (.ref Dg)) (e4 : m (Str.ofString "tree") = some (.ref R.tr)) (e5 : m (Str.ofString "depth") = some (.int k tk)) (e6 : ListAt B Dg gs)
    (e7 : ValsAre (fun (j : Nat) v => ∃ t, v = .int (j : Int) t) (sel wh 0 (List.range dn.length)) gs) (e8 : ∀ e ∈ lsts R.rt R.rc f, ListAt B e.2.1 ((e.2.2.tops.filter fun y => !goneP wh dn y).map fun y => .ref y.a)) : SwJ1 k R f tk wh Dg rem N B m
/-- what a turn of the rows' loop keeps -/
inductive SwJ2 (z k : Nat) (R : Rad) (f : Fo) (wh : Int) (Dg : Addr) (h B18 : Heap) (rem : List (Addr × Addr × Fo)) (N : Addr → Prop) (B : Heap) (m : Str → Option Value) : Prop
  | mk (dn : List (Addr × Addr × Fo)) (nw : List (Addr × Addr)) (q1 : dn ++ rem = rlst R f) (q2 : m (Str.ofString "gone") = some (.ref Dg)) (q3 : nw.map (·.1) = dn.map (·.1)) (q4 : (nw.map (·.2)).Nodup) (q5 : ∀ q ∈ nw, N q.2) (q6 : ∀ b, N b → B18.get? b = none ∧ z ≤ b ∧ b ≠ h.objs.size)
    (q7 : ∀ y ∈ dn, ∃ a1 a2 a3 c', (y.1, c') ∈ nw ∧ ListAt B18 y.1 [a1, a2, a3, .ref y.2.1] ∧ ListAt B y.1 [a1, a2, a3, .ref c'] ∧ ListAt B c' ((y.2.2.tops.filter fun y => !goneP wh (lv k f R.rc) y).map fun y => Value.ref y.r))
    (q8 : ∀ y ∈ rem, ∃ a1 a2 a3, ListAt B18 y.1 [a1, a2, a3, .ref y.2.1] ∧ ListAt B y.1 [a1, a2, a3, .ref y.2.1]) : SwJ2 z k R f wh Dg h B18 rem N B m
section
variable {w : World} {z : Nat} {A : Around} {E : Value → Shared → Prop} {h : Heap} {g : Array GenState} {d : Drawn} {t : Nat} {o : OsState}
theorem swept_spec {k : Nat} {R : Rad} {f : Fo} {tk tw : Tok} {wh : Int} {Q : Value → Shared → Prop} (hk : k ≤ 20) (G : Grd w z h) (r : Rm A 200) (X : Whole w z h R f)
    (H : ∀ h' g' d' t' trc f', KpG noneG g g' → Whole w z h' { R with trc := trc } f' → f'.size ≤ f.size → Kp (fun b => b ∈ wadr R f) h h' → (∀ b ∈ wadr { R with trc := trc } f', b ∈ wadr R f ∨ h.get? b = none) → Q (.bool true) ⟨h', g', d', t', o⟩) :
    wpAny (model pr w) A (call (.ref 142) [.ref R.rt, .ref R.tr, .int k tk, .int wh tw]) Q E ⟨h, g, d, t, o⟩ := by
  refine callFC (binds := [(Str.ofString "root", .ref R.rt), (Str.ofString "tree", .ref R.tr), (Str.ofString "depth", .int k tk), (Str.ofString "which", .int wh tw)]) G rfl rfl rfl rfl (by have := r.dp; omega) rfl rfl rfl rfl rfl rfl ?_
  intro h₁ B₁ t₁ F₁ K₁ cf env A'
  have rA : Rm A' 199 := r.deeper
  have G₁ := G.le K₁
  have X₁ := X.mv K₁
  have zL : z ≤ h.objs.size := G.size
  have cw : B₁.IsCell (h.objs.size + 1) (some (.int wh tw)) ∧ h.get? (h.objs.size + 1) = none ∧ z ≤ h.objs.size + 1 := cf (Str.ofString "which") _ rfl
  have cr : B₁.IsCell (h.objs.size + 2) none ∧ h.get? (h.objs.size + 2) = none ∧ z ≤ h.objs.size + 2 := cf (Str.ofString "rows") _ rfl
  have ct : B₁.IsCell (h.objs.size + 3) none ∧ h.get? (h.objs.size + 3) = none ∧ z ≤ h.objs.size + 3 := cf (Str.ofString "taken") _ rfl
  have nd₁ := X₁.nd
  have c1 : Cls 59 := .inl rfl
  have hsz := X.sz
  iterate 10 walk_at "go"
  rename_i Dg h₂ B₂ F₂ K₂ lG nG nhG zzG K₂' h₃ t₃ F₃ u₃ t₄ h₄ t₅ F₄
  have zG : z ≤ Dg := Nat.le_trans (Nat.le_trans zL (Nat.le_of_lt (F₁.ns.lt))) zzG
  have nDg : h.get? Dg = none := none_of K₁ nG
  have G₂ := G₁.le K₂
  have X₂ := X₁.mv K₂
  have nd₂ := X₂.nd
  have hm : bindL env.kindOf [(Str.ofString "root", Value.ref R.rt), (Str.ofString "tree", Value.ref R.tr), (Str.ofString "depth", .int k tk), (Str.ofString "which", .int wh tw)] (fun _ => none) (Str.ofString "tree") = some (.ref R.tr) ∧ bindL env.kindOf [(Str.ofString "root", Value.ref R.rt), (Str.ofString "tree", Value.ref R.tr), (Str.ofString "depth", .int k tk), (Str.ofString "which", .int wh tw)] (fun _ => none) (Str.ofString "depth") = some (.int k tk) := ⟨rfl, rfl⟩
  clear F₂ F₃ G₁ X₁ nd₁ K₂' cf
  repeat' walk_at "go"
  refine genIter (at_spec k) G₂ F₄ (rA.le (by omega)) X₂ zL fun ga gi h₅ t₆ Rr W GF g₅ B₅ S₅ F₅ K₅ kg₅ hWL hRL up₅ hr₅ kk₅ => ?_
  have wDg : ∀ b ∈ wadr R f, b ≠ Dg := fun b hb q => by obtain ⟨o, e⟩ := X.there b hb; rw [q, nDg] at e; cases e
  have cw₂ : B₂.IsCell (h.objs.size + 1) (some (.int wh tw)) := cw.1.keeps K₂
  have plc : ∀ x ∈ lv k f R.rc, ∃ e ∈ lsts R.rt R.rc f, e.2.1 = x.2 ∧ x.1 ∈ e.2.2.tops := fun x hx => by
    obtain ⟨m, ks, h1, h2⟩ := lv_lsts k f R.rt R.rc x hx; exact ⟨_, h1, rfl, h2⟩
  have plL : ∀ e ∈ lsts R.rt R.rc f, ListAt B₂ e.2.1 e.2.2.refs := lsts_list X₂.tr X₂.kids
  have hNR : ¬ Rr Dg := fun q => by
    obtain ⟨n, e⟩ := id lG
    rcases hr₅ Dg _ e q with c | c | c | c
    · exact absurd c (Nat.not_lt.mpr zG)
    · exact wDg R.rt (by simp) c.symm
    · exact wDg R.rd (by simp) c.symm
    · rcases List.mem_cons.mp c with c | c
      · exact wDg R.rc (by simp) c.symm
      · exact wDg Dg (by simp [(rd_sub k f).subset c]) rfl
  refine forL2 (itr_gen (w := w) (z := z) (val := vl) (rA.le (show 2 * k + 2 + 1 ≤ 199 by omega)) ga gi) S₅ F₅ (Bb := B₂) K₅ F₄.off (fun b ob e => (up₅ b ob e).2) hWL hRL (fun x b => (x ∈ lv k f R.rc ∧ b = x.2) ∨ b = Dg) (fun b => (∃ x ∈ lv k f R.rc, b = x.2) ∨ b = Dg)
    (fun x b q => q.imp (fun ⟨hx, e⟩ => ⟨x, hx, e⟩) id) ?hmut (fun b => b = Dg) (fun b e => e ▸ lG.there) (fun b e => e ▸ hNR) (fun x v R' b hv hb => hb.elim (fun ⟨_, e⟩ => .inl (e ▸ hv.2)) .inr) (fun _ _ _ q _ => wpAny_pure q)
    (SwJ1 k R f tk wh Dg) ?hJ ?j0 (K := fun _ _ => False) ?turn (fun v s q => q.elim) ?done
  case hmut =>
    rintro b (⟨x, hx, rfl⟩ | rfl)
    · obtain ⟨e, he, q, _⟩ := plc x hx
      rw [← q]; exact (plL e he).there
    · exact lG.there
  case hJ =>
    rintro rem N B B' m ⟨dn, gs, u, e1, e2, e3, e4, e5, e6, e7, e8⟩ kk
    exact ⟨dn, gs, u, e1, e2, e3, e4, e5, e6.mv fun o e => kk _ o (.inl lG.there) e, e7, fun e he => (e8 e he).mv fun o q => kk _ o (.inl (plL e he).there) q⟩
  case j0 =>
    refine ⟨[], [], u₃, rfl, if_pos rfl, ?_, ?_, ?_, lG.le K₅, trivial, fun e he => ?_⟩
    · show (if _ then _ else _) = _
      rw [if_neg (by decide)]; exact if_pos rfl
    · show (if _ then _ else _) = _
      rw [if_neg (by decide)]
      show (if _ then _ else _) = _
      rw [if_neg (by decide)]; exact hm.1
    · show (if _ then _ else _) = _
      rw [if_neg (by decide)]
      show (if _ then _ else _) = _
      rw [if_neg (by decide)]; exact hm.2
    · have : (e.2.2.tops.filter fun y => !goneP wh [] y) = e.2.2.tops := by
        rw [List.filter_eq_self]; intro y _; simp [goneP, sel]
      rw [this, ← refs_tops]; exact (plL e he).le K₅
  case turn =>
    rintro x rem v N B h₆ g₆ d₆ t₇ m ⟨dn, gs, u, e1, e2, e3, e4, e5, e6, e7, e8⟩ F₆ ⟨R', rfl, hR'⟩ K₆ kg₆ th
    have xlv : x ∈ lv k f R.rc := by rw [← e1]; simp
    obtain ⟨e, he, epc, xt⟩ := plc x xlv
    obtain ⟨C, dd, hC, nd, li, tr, ne⟩ := X.place e he
    have one := tops_one tr x.1 xt
    have xn : x.1 ∈ nodes f := lsts_nodes he x.1 xt
    have k6 : ∀ b ob, h.get? b = some ob → (∀ e ∈ lsts R.rt R.rc f, b ≠ e.2.1) → B.get? b = some ob := fun b ob q hn => K₆ b ob (fun q' => q'.elim (fun ⟨y, hy, q''⟩ => by
      obtain ⟨e', he', p', _⟩ := plc y hy
      exact hn e' he' (q''.trans p'.symm)) (ne_of q nDg)) (K₂ _ _ (K₁ _ _ q))
    have one₆ : One w B e.1 x.1 := one.mv fun b ob hb q => k6 b ob q (X.one_ne xn (by
        simp only [List.mem_cons, List.not_mem_nil, or_false] at hb ⊢
        rcases hb with h | h | h | h | h <;> simp [h]))
    have nd₆ : Nd B C e.1 dd x.2 := epc ▸ nd.mv fun b ob hb q => k6 b ob q fun e' he' => hb.elim (fun q => q ▸ (ne e' he').1) fun q => q ▸ (ne e' he').2
    have G₆ : Grd w z B := G₂.kp K₆ fun b q => q.elim (fun ⟨y, hy, q⟩ => by
      obtain ⟨e', he', p', _⟩ := plc y hy
      rw [q, ← p']; exact X.zz _ (lsts_wadr e' he').2) fun q => q ▸ zG
    have cw₆ : B.IsCell (h.objs.size + 1) (some (.int wh tw)) := IsCell.kp cw₂ K₆ fun q => q.elim (fun ⟨y, hy, q⟩ => by
      obtain ⟨e', he', p', _⟩ := plc y hy
      exact (plL e' he').ne_cell cw₂ (p'.trans q.symm)) fun q => lG.ne_cell cw₂ q.symm
    have dl : dn.length < 900 := by
      have := congrArg List.length e1
      have := lv_len k f R.rc
      simp only [List.length_append, List.length_cons] at *; omega
    have gl := e7.len
    have sl := (sel_sub wh 0 (List.range dn.length)).length_le
    rw [List.length_range] at sl
    clear F₄ S₅ F₅ up₅ hr₅ G₂ X₂ nd₂ F₁ hNR lG nd one
    refine wpAny_assign_Name (kStore F₆ rfl rfl rfl fun h₇ t₈ F₇ => ?_)
    have hLx : h.objs.size ≠ x.2 := fun q => by obtain ⟨n, e'⟩ := e8 e he; rw [epc, ← q, F₆.off] at e'; cases e'
    have hDx : ¬ Dg = x.2 := fun q => wDg _ (lsts_wadr e he).2 (epc.trans q.symm)
    have tln : ((e.2.2.tops.filter fun y => !goneP wh dn y).map (·.a)).Nodup := (List.filter_sublist.map _).nodup (tops_nodup ((lsts_sub e he).nodup X.nodA) fun x => by simp [own])
    have lvn : ((lv k f R.rc).map (·.1.a)).Nodup := by
      have := ((lv_sub k f R.rc).map (·.a)).nodup (nodup_map X.nodA fun x => by simp [own])
      rwa [List.map_map] at this
    have xng : goneP wh dn x.1 = false := by
      rw [← e1, List.map_append, List.nodup_append] at lvn
      simp only [goneP, decide_eq_false_iff_not]
      intro q
      obtain ⟨y, hy, q'⟩ := List.mem_map.mp q
      exact lvn.2.2 y.1.a (List.mem_map.mpr ⟨y, (sel_sub wh 0 dn).subset hy, rfl⟩) x.1.a (by simp) q'
    have xtl : x.1 ∈ e.2.2.tops.filter fun y => !goneP wh dn y := List.mem_filter.mpr ⟨xt, by rw [xng]; rfl⟩
    have cnt : (((dn ++ [x]).length : Nat) : Int) = (dn.length : Int) + 1 := by simp
    have oth : ∀ e' ∈ lsts R.rt R.rc f, e' ≠ e → e'.2.1 ≠ x.2 ∧ ∀ y ∈ e'.2.2.tops, ¬ ((dn.length : Int) % 2 = wh ∧ y.a = x.1.a) := fun e' he' hne =>
      ⟨fun q => hne (X.same_place he' he (q.trans epc.symm)), fun y hy q => hne (X.same_list he' he hy xt q.2)⟩
    repeat' walk_at "go"
    · rename_i u2 t9 u3 t10 hpar t11 pl
      obtain ⟨j, hj, hlt, her⟩ := erase_filter tln x.1 xtl
      have lx := e8 e he
      rw [epc] at lx
      refine removeChild (j := j) hC (G₆.le F₇.keep) (rA.le (by omega)) (nd₆.mv fun b ob _ q => F₇.keep b ob q) (lx.le F₇.keep) (by have h1 := List.length_filter_le (fun y => !goneP wh dn y) e.2.2.tops; have h2 := tops_len e.2.2; have h3 := lsts_size e he; rw [List.length_map]; omega)
        (by rw [List.getElem?_map, hj]; rfl) ?_ ?_ fun h₈ t₁₂ K₈ l₈ => ?_
      · obtain ⟨es, n, _, _, i, _⟩ := one₆.nd
        exact ⟨_, es, n, i.le F₇.keep⟩
      · intro m' hm'
        obtain ⟨y, hy, hne⟩ := hlt m' hm'
        have yt : y ∈ e.2.2.tops := (List.mem_filter.mp (List.mem_of_getElem? hy)).1
        have yn := lsts_nodes he y yt
        obtain ⟨es, n, _, _, i, _⟩ := (tops_one tr y yt).nd
        exact ⟨y.a, y.d, es, n, by rw [List.getElem?_map, hy]; rfl, hne, F₇.keep _ _ (k6 _ _ i.ob (X.one_ne yn (by simp))), F₇.keep _ _ (k6 _ _ i.dt (X.one_ne yn (by simp)))⟩
      rw [map_erase, her, gone_more hpar] at l₈
      obtain ⟨B₈, F₈, k₈, up₈⟩ := F₇.after K₈ hLx
      have l₈' : ListAt B₈ x.2 ((e.2.2.tops.filter fun y => !goneP wh (dn ++ [x]) y).map fun y => Value.ref y.a) := l₈.mv fun o q => up₈ _ _ (fun q => hLx q.symm) q
      have e6' : ListAt B₈ Dg gs := e6.kp k₈ hDx
      clear F₆ F₇ one₆ nd₆ G₆ lx l₈ up₈
      repeat' walk_at "go"
      rename_i h₉ B₉ F₉ K₉ l₉ u4 t13 u5 t14 h₁₀ t15 F₁₀
      have kall : ∀ b ob, b ≠ x.2 → b ≠ Dg → B.get? b = some ob → B₉.get? b = some ob := fun b ob n1 n2 q => K₉ b ob n2 (k₈ b ob n1 q)
      refine .next (.inl rfl) F₁₀ (fun b ob n q => kall b ob (fun q => n (.inl ⟨xlv, q⟩)) (fun q => n (.inr q)) q) (.refl _ _) (N' := none1) ⟨dn ++ [x], gs ++ [.int (dn.length : Int) u], u5, by rw [List.append_assoc]; exact e1, by rw [cnt]; exact if_pos rfl, ?_, ?_, ?_, l₉, ?_, fun e' he' => ?_⟩ (fun b q => q.elim) ?_
      · exact (if_neg (by decide)).trans ((if_neg (by decide)).trans e3)
      · exact (if_neg (by decide)).trans ((if_neg (by decide)).trans e4)
      · exact (if_neg (by decide)).trans ((if_neg (by decide)).trans e5)
      · rw [List.length_append, List.length_singleton, sel_range, if_pos hpar]
        exact e7.snoc ⟨u, rfl⟩
      · by_cases q : e' = e
        · subst q
          rw [epc]
          exact l₈'.kp K₉ (fun q => hDx q.symm)
        · have := oth e' he' q
          rw [gone_same this.2]
          exact (e8 e' he').mv fun o q' => kall _ _ this.1 (fun q => wDg _ (lsts_wadr e' he').2 q) q'
      · rintro b (⟨_, rfl⟩ | rfl)
        · exact (l₈'.kp K₉ (fun q => hDx q.symm)).there
        · exact l₉.there
    · rename_i u2 t9 u3 t10 hpar u4 t13 u5 t14 h₁₀ t15 F₁₀
      refine .next (.inl rfl) F₁₀ (.refl _ _) (.refl _ _) (N' := none1) ⟨dn ++ [x], gs, u5, by rw [List.append_assoc]; exact e1, by rw [cnt]; exact if_pos rfl, ?_, ?_, ?_, e6, ?_, fun e' he' => ?_⟩ (fun b q => q.elim) ?_
      · exact (if_neg (by decide)).trans ((if_neg (by decide)).trans e3)
      · exact (if_neg (by decide)).trans ((if_neg (by decide)).trans e4)
      · exact (if_neg (by decide)).trans ((if_neg (by decide)).trans e5)
      · rw [List.length_append, List.length_singleton, sel_range, if_neg hpar, List.append_nil]
        exact e7
      · rw [gone_same fun y _ q => hpar q.1]
        exact e8 e' he'
      · rintro b (⟨_, rfl⟩ | rfl)
        · rw [← epc]; exact (e8 e he).there
        · exact e6.there
  case done =>
    rintro N B₆ h₆ g₆ d₆ t₇ m ⟨dn, gs, u, e1, e2, e3, e4, e5, e6, e7, e8⟩ F₆ K₆ kg₆
    rw [List.append_nil] at e1
    subst e1
    have kgg := kk₅ _ kg₆
    clear F₄ S₅ F₅ up₅ hr₅ X₂ nd₂ F₁ hNR K₅
    have k6 : ∀ b ob, h.get? b = some ob → (∀ e ∈ lsts R.rt R.rc f, b ≠ e.2.1) → B₆.get? b = some ob := fun b ob q hn => K₆ b ob (fun q' => q'.elim (fun ⟨y, hy, q''⟩ => by
      obtain ⟨e', he', p', _⟩ := plc y hy
      exact hn e' he' (q''.trans p'.symm)) (ne_of q nDg)) (K₂ _ _ (K₁ _ _ q))
    have nce : ∀ {c v}, B₂.IsCell c v → ¬ ((∃ x ∈ lv k f R.rc, c = x.2) ∨ c = Dg) := fun hc q => q.elim (fun ⟨y, hy, q⟩ => by
      obtain ⟨e', he', p', _⟩ := plc y hy
      exact (plL e' he').ne_cell hc (p'.trans q.symm)) fun q => lG.ne_cell hc q.symm
    have tw₆ : Tw B₆ f := X.tr.tw.mv fun b ob hb e => k6 b ob e (X.rads_ne b (.inr (.inr hb)))
    have ra₆ : RowAt B₆ R.tr R.trc := X.rowAt.mv fun o e => k6 _ o e (X.rads_ne _ (.inl rfl))
    have lr₆ : ListAt B₆ R.trc f.rrefs := X.rws.mv fun o e => k6 _ o e (X.rads_ne _ (.inr (.inl rfl)))
    have cw₆ : B₆.IsCell (h.objs.size + 1) (some (.int wh tw)) := IsCell.kp cw₂ K₆ (nce cw₂)
    have cr₆ : B₆.IsCell (h.objs.size + 2) none := IsCell.kp (cr.1.keeps K₂) K₆ (nce (cr.1.keeps K₂))
    have ct₆ : B₆.IsCell (h.objs.size + 3) none := IsCell.kp (ct.1.keeps K₂) K₆ (nce (ct.1.keeps K₂))
    have G₆ : Grd w z B₆ := G₂.kp K₆ fun b q => q.elim (fun ⟨y, hy, q⟩ => by
      obtain ⟨e', he', p', _⟩ := plc y hy
      rw [q, ← p']; exact X.zz _ (lsts_wadr e' he').2) fun q => q ▸ zG
    have thW : ∀ b ∈ wadr R f, ∃ o, B₆.get? b = some o := fun b hb => by
      by_cases hp : ∃ e ∈ lsts R.rt R.rc f, b = e.2.1
      · obtain ⟨e, he, rfl⟩ := hp; exact (e8 e he).there
      · obtain ⟨o, q⟩ := X.there b hb
        exact ⟨o, k6 b o q fun e he q => hp ⟨e, he, q⟩⟩
    have nh23 : ∀ b ob, h.get? b = some ob → b ≠ h.objs.size + 2 ∧ b ≠ h.objs.size + 3 := fun b ob e => ⟨ne_of e cr.2.1, ne_of e ct.2.1⟩
    clear G₂ lG cw₂ plL nce kk₅ kg₆ kg₅ hRL hWL
    try dsimp only
    walk_at "q9"
    show wpAny _ A' (execs _ env) _ _ _
    repeat' walk_at "go"
    refine level_spec k f 0 R.tr R.trc _ A' _ h₆ g₆ d₆ _ o _ (G₆.le F₆.keep) (rA.le (by omega)) (ra₆.le F₆.keep) (lr₆.le F₆.keep) (tw₆.mv fun b ob _ e => F₆.keep _ _ e) (by omega) fun Dr h₈ g₈ d₈ t₈ le₈ kg₈ l₈ n₈ => ?_
    obtain ⟨B₈, F₈, K₈, up₈⟩ := F₆.after (Le.kp le₈ none1) id
    have l₈' : ListAt B₈ Dr (lvr k f) := l₈.mv fun o e => up₈ _ _ (l₈.ne_ns F₈.ns) e
    refine kStoreC F₈ (IsCell.kp cr₆ K₈ id) rfl rfl rfl fun h₉ B₉ F₉ K₉ cr₉ => ?_
    have k69 : ∀ b ob, b ≠ h.objs.size + 2 → B₆.get? b = some ob → B₉.get? b = some ob := fun b ob n e => K₉ b ob n (K₈ b ob id e)
    have G₉ : Grd w z B₉ := (G₆.kp K₈ fun b e => e.elim).kp K₉ fun b e => e ▸ cr.2.2
    have l₉ : ListAt B₉ Dr (lvr k f) := l₈'.kp K₉ (l₈'.ne_cell (IsCell.kp cr₆ K₈ id))
    have cw₉ : B₉.IsCell (h.objs.size + 1) (some (.int wh tw)) := IsCell.kp (IsCell.kp cw₆ K₈ id) K₉ (show ¬ h.objs.size + 1 = h.objs.size + 2 by omega)
    have ct₉ : B₉.IsCell (h.objs.size + 3) none := IsCell.kp (IsCell.kp ct₆ K₈ id) K₉ (show ¬ h.objs.size + 3 = h.objs.size + 2 by omega)
    have kg₉ := kgg.step kg₈ fun _ q => q.elim
    have lvrl : (lvr k f).length ≤ f.size := lvr_len k f
    have nDrw : ∀ b ∈ wadr R f, b ≠ Dr := fun b hb q => by
      obtain ⟨o, e⟩ := thW b hb
      have := F₆.keep _ _ e
      rw [q, n₈] at this; cases this
    have thW9 : ∀ b ∈ wadr R f, ∃ o, B₉.get? b = some o := fun b hb => by
      obtain ⟨o, e⟩ := thW b hb
      obtain ⟨o', e'⟩ := X.there b hb
      exact ⟨o, k69 b o (nh23 b o' e').1 e⟩
    clear F₈ F₆ K₈ up₈ l₈ l₈' cr₆ cw₆ ct₆ G₆ kg₈ kgg
    iterate 1 walk_at "go"
    refine wpAny_Assign_Name ?_ (by rfl)
    refine lcRule (L := h.objs.size) (by rfl) (by rfl) (by rfl) (by rfl) (by intro _; rfl) ?_
    repeat' walk_at "go"
    refine kRange F₉ fun rg h₁₀ B₁₀ t₁₀ F₁₀ K₁₀ rgA nrg => ?_
    refine kIterR F₁₀ rgA (by omega) fun it h₁₁ B₁₁ F₁₁ K₁₁ k₁₁ nit I₁₁ => ?_
    have up11 : ∀ b ob, B₉.get? b = some ob → B₁₁.get? b = some ob ∧ b ≠ it := fun b ob e => ⟨K₁₁ _ _ (K₁₀ _ _ e), fun q => by have := F₁₀.keep _ _ (K₁₀ _ _ e); rw [q, nit] at this; cases this⟩
    have nLit : ¬ h.objs.size = it := fun q => by obtain ⟨ob, e⟩ := F₁₀.there; rw [q, nit] at e; cases e
    rw [List.range_eq_range'] at I₁₁
    clear F₁₀ rgA nit K₁₁ K₁₀
    generalize hlr : lvr k f = lr at *
    refine ⟨_, _, _, (List.range' 0 lr.length).map (fun k : Nat => (k : Int)), none1, fun b => b = it, noneG, B₁₁, m, fun rem ys Ft B₁ => RgJ lr.length (fun j ys => ys = sel wh 0 (lr.take j)) rem ys, itr_range rA.hh, I₁₁, F₁₁, nLit, fun _ _ _ q _ => wpAny_pure q, ?_, ?_, fun B₁ => ⟨0, Nat.zero_le _, rfl, rfl⟩, ?_, ?_⟩
    · exact fun _ _ _ _ _ q _ => q
    · rintro rem ys Ft B₁ ⟨j, e, e', rfl⟩
      have h1 := (sel_sub wh 0 (lr.take j)).length_le
      rw [List.length_take] at h1
      rw [sizeLine_eq]; omega
    · rintro C' x rem ys v R' Ft B₁ hh gg dd' tt m₁ ⟨j, hj, hr, rfl⟩ F₁' k₁ ⟨⟨tv, rfl⟩, _⟩
      have le1 : Le B₉ B₁ := fun b ob e => k₁ b ob (up11 b ob e).2 (up11 b ob e).1
      have hj' : j < lr.length := by
        rcases Nat.lt_or_ge j lr.length with q | q
        · exact q
        · rw [show lr.length - j = 0 by omega] at hr; simp at hr
      rw [show lr.length - j = (lr.length - (j + 1)) + 1 by omega, List.range'_succ, List.map_cons, List.cons.injEq] at hr
      obtain ⟨rfl, rfl⟩ := hr
      obtain ⟨yk, hyk⟩ : ∃ yk, lr[j]? = some yk := ⟨_, List.getElem?_eq_getElem hj'⟩
      have r1 : lr[((j : Nat) : Int).toNat]? = some yk := by simpa using hyk
      have l₁' := l₉.le le1
      have cr₁' := cr₉.keeps le1
      have cw₁' := cw₉.keeps le1
      have st := sel_take wh lr hyk
      clear F₉ F₁₁ I₁₁ G₉ l₉ cr₉ cw₉ ct₉ e6 e7 e8
      refine wpAny_assign_Name (kStore F₁' rfl rfl rfl fun h₂ t₂ F₂ => ?_)
      repeat' walk_at "go"
      · rename_i hp
        exact ⟨none1, B₁, _, gg, dd', _, _, rfl, F₂, .refl _ _, .refl _ _, ⟨j + 1, hj', rfl, by rw [st, if_pos hp]⟩, fun b q => q.elim⟩
      · rename_i hp
        exact ⟨none1, B₁, _, gg, dd', _, _, rfl, F₂, .refl _ _, .refl _ _, ⟨j + 1, hj', rfl, by rw [st, if_neg hp, List.append_nil]⟩, fun b q => q.elim⟩
    · rintro ys Ft B₁ Dt hh gg dd' tt ⟨j, hj, hr, rfl⟩ F₁₂ k₁ l₁₂ nDt kg₁₂
      have hj' : j = lr.length := by
        have := congrArg List.length hr
        simp only [List.length_nil, List.length_map, List.length_range'] at this
        omega
      subst hj'
      rw [List.take_length] at l₁₂
      have le1 : Le B₉ B₁ := fun b ob e => k₁ b ob (up11 b ob e).2 (up11 b ob e).1
      refine kStoreC F₁₂ (ct₉.keeps le1) rfl rfl rfl fun h₁₃ B₁₃ F₁₃ K₁₃ ct₁₃ => ?_
      have k13 : ∀ b ob, b ≠ h.objs.size + 2 → b ≠ h.objs.size + 3 → B₆.get? b = some ob → B₁₃.get? b = some ob := fun b ob n1 n2 e => K₁₃ b ob n2 (le1 b ob (k69 b ob n1 e))
      have nDtw : ∀ b ∈ wadr R f, b ≠ Dt := fun b hb q => by
        obtain ⟨o, e⟩ := thW9 b hb
        have := F₁₁.keep _ _ (up11 b o e).1
        dsimp only at nDt
        rw [q, nDt] at this; cases this
      have thW13 : ∀ b ∈ wadr R f, ∃ o, B₁₃.get? b = some o := fun b hb => by
        obtain ⟨o, e⟩ := thW b hb
        obtain ⟨o', e'⟩ := X.there b hb
        exact ⟨o, k13 b o (nh23 b o' e').1 (nh23 b o' e').2 e⟩
      have kh13 : ∀ b ob, h.get? b = some ob → (∀ e ∈ lsts R.rt R.rc f, b ≠ e.2.1) → B₁₃.get? b = some ob := fun b ob e hn => k13 b ob (nh23 b ob e).1 (nh23 b ob e).2 (k6 b ob e hn)
      have e8' : ∀ e ∈ lsts R.rt R.rc f, ListAt B₁₃ e.2.1 ((e.2.2.tops.filter fun y => !goneP wh (lv k f R.rc) y).map fun y => Value.ref y.a) := fun e he => (e8 e he).mv fun o q => by
        obtain ⟨o', q'⟩ := X.there e.2.1 (lsts_wadr e he).2
        exact k13 _ _ (nh23 _ _ q').1 (nh23 _ _ q').2 q
      have lG₁₃ : ListAt B₁₃ Dg gs := e6.mv fun o q => k13 _ _ (fun q' => by rw [q'] at nG; obtain ⟨oc, ec, _⟩ := cr.1; rw [ec] at nG; cases nG) (fun q' => by rw [q'] at nG; obtain ⟨oc, ec, _⟩ := ct.1; rw [ec] at nG; cases nG) q
      have tw₁₃ : Tw B₁₃ f := X.tr.tw.mv fun b ob hb e => kh13 b ob e (X.rads_ne b (.inr (.inr hb)))
      have ra₁₃ : RowAt B₁₃ R.tr R.trc := X.rowAt.mv fun o e => kh13 _ o e (X.rads_ne _ (.inl rfl))
      have lr₁₃ : ListAt B₁₃ R.trc f.rrefs := X.rws.mv fun o e => kh13 _ o e (X.rads_ne _ (.inr (.inl rfl)))
      have G₁₃ : Grd w z B₁₃ := (G₉.le le1).kp K₁₃ fun b e => e ▸ ct.2.2
      have cw₁₃ := IsCell.kp (cw₉.keeps le1) K₁₃ (show ¬ h.objs.size + 1 = h.objs.size + 3 by omega)
      have cr₁₃ := IsCell.kp (cr₉.keeps le1) K₁₃ (show ¬ h.objs.size + 2 = h.objs.size + 3 by omega)
      have lDr₁₃ : ListAt B₁₃ Dr lr := (l₉.le le1).kp K₁₃ ((l₉.le le1).ne_cell (ct₉.keeps le1))
      have lDt₁₃ : ListAt B₁₃ Dt (sel wh 0 lr) := l₁₂.kp K₁₃ (l₁₂.ne_cell (ct₉.keeps le1))
      have kg₁₃ := kg₉.step kg₁₂ fun _ q => q.elim
      clear F₉ F₁₁ I₁₁ F₁₂ k₁ l₁₂ ct₉ cw₉ cr₉ l₉ G₉ k69 e6 e8 up11 nDt kg₁₂ kg₉ K₁₃ le1 ra₆ lr₆ tw₆
      iterate 8 walk_at "go"
      rename_i Dl h₁₄ B₁₄ F₁₄ K₁₄ lDl nDl nhDl zzDl K₁₄'
      refine lcRule (L := h.objs.size) (by rfl) (by rfl) (by rfl) (by rfl) (by intro _; rfl) ?_
      repeat' walk_at "go"
      refine flat_spec ((G₁₃.le K₁₄).le F₁₄.keep) (rA.le (by omega)) ((ra₁₃.le K₁₄).le F₁₄.keep) ((lr₁₃.le K₁₄).le F₁₄.keep) (tw₁₃.mv fun b ob _ e => F₁₄.keep _ _ (K₁₄ _ _ e)) (by omega) fun Df vsf h₁₅ g₁₅ d₁₅ t₁₅ le₁₅ kg₁₅ l₁₅ T₁₅ n₁₅ => ?_
      obtain ⟨B₁₅, F₁₅, K₁₅, up₁₅⟩ := F₁₄.after (Le.kp le₁₅ none1) id
      obtain ⟨zs, rfl, hz2, hzs⟩ := T₁₅.zip
      have lz := congrArg List.length hz2
      rw [List.length_map, rows_len] at lz
      have l₁₅' : ListAt B₁₅ Df (zs.map fun y => Value.ref y.1) := l₁₅.mv fun o e => up₁₅ _ _ (l₁₅.ne_ns F₁₅.ns) e
      have tz : ∀ y ∈ zs, ∃ tk, TupAt B₁₅ y.1 [.int y.2.1 tk, .ref y.2.2.r] := fun y hy => by
        obtain ⟨-, tk, q⟩ := hzs y hy
        exact ⟨tk, q.mv fun o e => up₁₅ _ _ (q.ne_ns F₁₅.ns) e⟩
      refine kIterL F₁₅ l₁₅' fun it₂ h₁₆ B₁₆ F₁₆ K₁₆ k₁₆ n₁₆ e₁₆ I₁₆ => ?_
      have up16 : ∀ b ob, B₁₅.get? b = some ob → B₁₆.get? b = some ob ∧ ¬ b = it₂ := fun b ob e => ⟨K₁₆ b ob e, fun q => by have := F₁₅.keep _ _ e; rw [q, n₁₆] at this; cases this⟩
      have nLit₂ : ¬ h.objs.size = it₂ := fun q => by obtain ⟨ob, e⟩ := F₁₅.there; rw [q, n₁₆] at e; cases e
      refine ⟨_, _, _, zs, _, _, _, B₁₆, m, fun rem ys Ft B₁ => ∃ dn, dn ++ rem = zs ∧ ys = dn.map fun y => Value.ref y.2.2.r, (itr_list rA.hh e₁₆).map (fun y : Addr × Int × NLab => Value.ref y.1), I₁₆, F₁₆, nLit₂, ?_, fun _ _ _ _ _ q _ => q, ?_, fun B₁ => ⟨[], rfl, rfl⟩, ?_, ?_⟩
      · rintro v s Q q ⟨x, xs, R, W, GF, ⟨rfl, _⟩, -, -, -, i, items, hi, _⟩
        exact wpAny_letOwnedTupleGo_listiter hi q
      · rintro rem ys Ft B₁ ⟨dn, e, rfl⟩
        have h2 := congrArg List.length e
        rw [List.length_append] at h2
        rw [sizeLine_eq, List.length_map]; omega
      · rintro C' x rem ys v R' Ft B₁ hh₂ gg₂ dd₂ tt₂ m₁ ⟨dn, e, rfl⟩ F₁' k₁' ⟨rfl, _⟩
        have le1 : Le B₁₅ B₁ := fun b ob e => k₁' b ob (up16 b ob e).2 (up16 b ob e).1
        obtain ⟨tkx, tx⟩ := tz x (by rw [← e]; simp)
        refine kUnpack2 rA.hh F₁' (tx.mv fun o e => le1 _ o e) fun h₄ B₄ F₄ K₄ => ?_
        refine kStore F₄ rfl rfl rfl fun h₅ t₅ F₅ => ?_
        refine kStore F₅ rfl rfl rfl fun h₆ t₆ F₆ => ?_
        refine wpAny_pure ?_
        rw [if_pos rfl]
        refine eLocal3 rfl F₆ rfl rfl (if_pos rfl) rfl ?_
        exact ⟨none1, B₄, h₆, gg₂, dd₂, _, _, rfl, F₆, Le.kp K₄ none1, .refl _ _, ⟨dn ++ [x], by simpa using e, by simp⟩, fun b q => q.elim⟩
      · rintro ys Ft B₁ Dc hh₂ gg₂ dd₂ tt₂ ⟨dn, e, rfl⟩ F₁₇ k₁₇ l₁₇ nDc kg₁₇
        rw [List.append_nil] at e
        subst e
        have le17 : Le B₁₄ B₁ := fun b ob e => k₁₇ b ob (up16 b ob (K₁₅ b ob id e)).2 (up16 b ob (K₁₅ b ob id e)).1
        have erl : ([Value.ref R.tr] ++ dn.map fun y => Value.ref y.2.2.r) = (rlst R f).map fun y => Value.ref y.1 := by
          have e1 : dn.map (fun y => Value.ref y.2.2.r) = ((dn.map (·.2)).map (·.2.r)).map Value.ref := by simp [List.map_map, Function.comp_def]
          rw [e1, hz2, ← rowsF_rows 0 f, List.map_map]; rfl
        refine kAddL F₁₇ (lDl.le le17) l₁₇ (by rw [List.length_map]; simp; omega) fun Da h₁₈ B₁₈ F₁₈ K₁₈ l₁₈ nDa => ?_
        rw [erl] at l₁₈
        have le18 : Le B₁₃ B₁₈ := (K₁₄.trans le17).trans K₁₈
        have kg₁₈ := (kg₁₃.step kg₁₅ fun _ q => q.elim).step kg₁₇ fun _ q => q.elim
        have G₁₈ := G₁₃.le le18
        have cw₁₈ := cw₁₃.keeps le18
        have cr₁₈ := cr₁₃.keeps le18
        have ct₁₈ := ct₁₃.keeps le18
        have lDr₁₈ := lDr₁₃.le le18
        have lDt₁₈ := lDt₁₃.le le18
        have lG₁₈ := lG₁₃.le le18
        have e8'' : ∀ e ∈ lsts R.rt R.rc f, ListAt B₁₈ e.2.1 ((e.2.2.tops.filter fun y => !goneP wh (lv k f R.rc) y).map fun y => Value.ref y.a) := fun e he => (e8' e he).le le18
        have kh18 : ∀ b ob, h.get? b = some ob → (∀ e ∈ lsts R.rt R.rc f, b ≠ e.2.1) → B₁₈.get? b = some ob := fun b ob e hn => le18 b ob (kh13 b ob e hn)
        have nDaw : ∀ b ∈ wadr R f, b ≠ Da := fun b hb q => by
          obtain ⟨o, e⟩ := thW13 b hb
          have := F₁₇.keep _ _ (le17 b o (K₁₄ b o e))
          rw [q, nDa] at this; cases this
        clear F₁₃ F₁₄ F₁₅ F₁₆ I₁₆ F₁₇ G₁₃ cw₁₃ cr₁₃ ct₁₃ lDr₁₃ lDt₁₃ lG₁₃ e8' kh13 le18 le17 K₁₈ K₁₄ K₁₄' k₁₇ up16 tz l₁₅' l₁₅ T₁₅ hzs up₁₅ K₁₅ le₁₅ l₁₇ lDl kg₁₃ kg₁₅ kg₁₇ k13 k6 ra₁₃ lr₁₃ tw₁₃ n₁₅ nDc
        refine kIterL F₁₈ l₁₈ fun it₃ h₁₉ B₁₉ F₁₉ K₁₉ k₁₉ n₁₉ e₁₉ I₁₉ => ?_
        have nLit₃ : ¬ h.objs.size = it₃ := fun q => by obtain ⟨ob, e⟩ := F₁₈.there; rw [q, n₁₉] at e; cases e
        have rows18 : ∀ y ∈ rlst R f, (∃ a1 a2 a3, ListAt B₁₈ y.1 [a1, a2, a3, .ref y.2.1]) ∧ ListAt B₁₈ y.2.1 y.2.2.rrefs := fun y hy => by
          obtain ⟨⟨a1, a2, a3, l⟩, l', -, -, -, -, -⟩ := X.rowOf y hy
          exact ⟨⟨a1, a2, a3, l.mv fun o e => kh18 _ o e (X.rlst_ne hy).1⟩, l'.mv fun o e => kh18 _ o e (X.rlst_ne hy).2⟩
        refine forL ((itr_list rA.hh e₁₉).map fun y : Addr × Addr × Fo => Value.ref y.1) I₁₉ F₁₉ (Bb := B₁₈) K₁₉ F₁₈.off (fun b ob e q => by have := F₁₈.keep _ _ e; rw [q, n₁₉] at this; cases this) nLit₃ (fun q => F₁₈.off_ne l₁₈.choose_spec q.symm)
          (fun x b => x ∈ rlst R f ∧ b = x.1) (fun b => ∃ x ∈ rlst R f, b = x.1) (fun x b q => ⟨x, q⟩) (fun b ⟨x, hx, q⟩ => by obtain ⟨⟨_, _, _, l⟩, _⟩ := rows18 x hx; rw [q]; exact l.there)
          (fun x v R' b hv hb hr => nDaw _ (X.rowOf x hb.1).2.2.2.1 (hb.2.symm.trans (hv.2 b hr))) (fun _ _ _ q _ => wpAny_pure q)
          (SwJ2 z k R f wh Dg h B₁₈) ?hJ2 ?j02 (K := fun _ _ => False) ?turn2 (fun v s q => q.elim) ?done2
        case hJ2 =>
          rintro rem N B B' m ⟨dn, nw, q1, q2, q3, q4, q5, q6, q7, q8⟩ kk
          exact ⟨dn, nw, q1, q2, q3, q4, q5, q6, fun y hy => let ⟨a1, a2, a3, c', p1, p2, p3, p4⟩ := q7 y hy; ⟨a1, a2, a3, c', p1, p2, p3.mv fun o e => kk _ o (.inl p2.there) e, p4.mv fun o e => kk _ o (.inr (q5 _ p1)) e⟩,
            fun y hy => let ⟨a1, a2, a3, p1, p2⟩ := q8 y hy; ⟨a1, a2, a3, p1, p2.mv fun o e => kk _ o (.inl p1.there) e⟩⟩
        case j02 =>
          refine ⟨[], [], rfl, e3, rfl, List.nodup_nil, (fun q h => by cases h), (fun b q => q.elim), (fun y h => by cases h), fun y hy => ?_⟩
          obtain ⟨⟨a1, a2, a3, l⟩, _⟩ := rows18 y hy
          exact ⟨a1, a2, a3, l, l.le K₁₉⟩
        case turn2 =>
          rintro y rem v N B h₂₀ g₂₀ d₂₀ t₂₀ m₂ ⟨dn, nw, q1, q2, q3, q4, q5, q6, q7, q8⟩ F₂₀ ⟨R', rfl, _⟩ K₂₀ kg₂₀ th
          have yl : y ∈ rlst R f := by rw [← q1]; simp
          obtain ⟨a1, a2, a3, lb, ly⟩ := q8 y (.head _)
          have rowsB : ∀ y ∈ rlst R f, ∃ xs, ListAt B y.1 xs := fun y' hy' => by
            rw [← q1] at hy'
            rcases List.mem_append.mp hy' with p | p
            · obtain ⟨b1, b2, b3, c', _, _, p3, _⟩ := q7 y' p; exact ⟨_, p3⟩
            · obtain ⟨b1, b2, b3, _, p2⟩ := q8 y' p; exact ⟨_, p2⟩
          have nrow : ∀ b, (∀ x ∈ rlst R f, b ≠ x.1) → ¬ ∃ x ∈ rlst R f, b = x.1 := fun b hn ⟨x, hx, e⟩ => hn x hx e
          have lrc : ListAt B y.2.1 y.2.2.rrefs := (rows18 y yl).2.kp K₂₀ (nrow _ fun x hx => X.rlst_rc yl hx)
          have rw1 : ∀ x ∈ rlst R f, x.1 ∈ wadr R f := fun x hx => (X.rowOf x hx).2.2.2.1
          have G₂₀ : Grd w z B := G₁₈.kp K₂₀ fun b ⟨x, hx, e⟩ => e ▸ X.zz _ (rw1 x hx)
          have nrc : ∀ {c v}, B₁₈.IsCell c v → ¬ ∃ x ∈ rlst R f, c = x.1 := fun hc ⟨x, hx, e⟩ => by
            obtain ⟨⟨_, _, _, l⟩, _⟩ := rows18 x hx
            exact l.ne_cell hc e.symm
          have ct₂₀ := IsCell.kp ct₁₈ K₂₀ (nrc ct₁₈)
          have lDt₂₀ : ListAt B Dt (((sel wh 0 (lv k f R.rc)).map (·.1.r)).map Value.ref) := by
            rw [← lvr_sel wh k f R.rc, hlr]
            exact lDt₁₈.kp K₂₀ (nrow _ fun x hx e => nDtw _ (rw1 x hx) e.symm)
          have nodeRow : ∀ x ∈ nodes f, ∃ xs, ListAt B x.r xs := fun x hx => by
            obtain ⟨q, ks, hq⟩ := nodes_nds (p := R.rt) hx
            exact rowsB _ (rlst_nds hq)
          have tn : ∀ x ∈ y.2.2.tops, x ∈ nodes f := (X.rowOf y yl).2.2.2.2.2.2
          have tsn : ∀ x ∈ sel wh 0 (lv k f R.rc), x.1 ∈ nodes f := fun x hx => (lv_sub k f R.rc).subset (List.mem_map_of_mem ((sel_sub wh 0 _).subset hx))
          have ysz := (X.rowOf y yl).2.2.2.2.2.1
          have ytl := tops_len y.2.2
          have ssz := (sel_sub wh 0 (lv k f R.rc)).length_le
          have lvz := lv_len k f R.rc
          have lrc' : ListAt B y.2.1 ((y.2.2.tops.map (·.r)).map Value.ref) := by rw [rrefs_tops] at lrc; simpa [List.map_map, Function.comp_def] using lrc
          clear lrc
          refine wpAny_assign_Name (kStore F₂₀ rfl rfl rfl fun h₂₁ t₂₁ F₂₁ => ?_)
          iterate 1 walk_at "go"
          refine wpAny_Assign_Subscript ?_ (by rfl)
          refine sweepComp (w := w) (z := z) (L := h.objs.size) (l := y.2.1) (ct := h.objs.size + 3) (Dt := Dt) (ws := y.2.2.tops.map (·.r)) (ts := (sel wh 0 (lv k f R.rc)).map (·.1.r)) (B := B) (by rfl) (by intro _; rfl) (by intro _ _; rfl) (by rfl) (by rfl) (by intro _; rfl)
            (by intro _; rfl) (by intro _; rfl) (by intro _; rfl) (by intro _; rfl) (by intro _; rfl) (by intro _; rfl) (by rfl) (by rfl) (by rfl) (by intro _ _; rfl) (by intro _ _; rfl) (by intro _ _; rfl) (by intro _ _; rfl) (by intro _ _; rfl)
            rA.hh (by have := rA.un; omega) G₂₀ F₂₁ lrc' (fun a ha => ?_) (by rw [List.length_map]; omega) ct₂₀ lDt₂₀ (fun a ha => ?_) (by rw [List.length_map]; omega) (fun Q' q => ?_) fun D' h₂₂ g₂₂ d₂₂ t₂₂ B₂₂ F₂₂ K₂₂ kg₂₂ l₂₂ nD' zD' nDL' => ?_
          · obtain ⟨x, hx, rfl⟩ := List.mem_map.mp ha
            exact nodeRow x (tn x hx)
          · obtain ⟨x, hx, rfl⟩ := List.mem_map.mp ha
            exact nodeRow x.1 (tsn x hx)
          · repeat' walk_at "go"
            exact q _
          rw [taken_filter X tn] at l₂₂
          have nDB : ∀ b o, B.get? b = some o → b ≠ D' := fun b o e q => by have := F₂₁.keep _ _ e; rw [q, nD'] at this; cases this
          have ly₂ := ly.le K₂₂
          have G₂₂ := G₂₀.le K₂₂
          clear G₂₀ F₂₀ F₂₁ lDt₂₀ ct₂₀ lrc' G₁₈ F₁₈ F₁₉ I₁₉
          iterate 4 walk_at "go"
          rename_i u7 t23 h₂₃ B₂₃ F₂₃ K₂₃ l₂₃
          have kB : ∀ b ob, b ≠ y.1 → B.get? b = some ob → B₂₃.get? b = some ob := fun b ob n e => K₂₃ b ob n (K₂₂ b ob e)
          have nodL := rlst_nodup X
          rw [← q1, List.map_append, List.map_cons, List.nodup_append] at nodL
          have dny : ∀ y' ∈ dn, y'.1 ≠ y.1 := fun y' hy' => nodL.2.2 _ (List.mem_map_of_mem hy') _ (.head _)
          have rmy : ∀ y' ∈ rem, y'.1 ≠ y.1 := fun y' hy' q => (List.nodup_cons.mp nodL.2.1).1 (q ▸ List.mem_map_of_mem hy')
          have nDy : D' ≠ y.1 := fun q => by obtain ⟨n, e⟩ := ly; exact nDB _ _ e q.symm
          have nDN : ∀ q ∈ nw, q.2 ≠ D' := fun q hq => by
            obtain ⟨o, e⟩ := th q.2 (q5 q hq) (q6 _ (q5 q hq)).2.2
            exact nDB _ _ e
          have nD18 : B₁₈.get? D' = none := by
            cases e : B₁₈.get? D' with
            | none => rfl
            | some ob =>
              by_cases hp : ∃ x ∈ rlst R f, D' = x.1
              · obtain ⟨x, hx, e'⟩ := hp
                obtain ⟨xs, n, e''⟩ := rowsB x hx
                exact absurd e'.symm (nDB _ _ e'')
              · exact absurd rfl (nDB _ _ (K₂₀ _ _ hp e))
          refine .next (.inl rfl) F₂₃ (fun b ob n e => kB b ob (fun q => n ⟨yl, q⟩) e) kg₂₂ (N' := fun b => N b ∨ b = D') ⟨dn ++ [y], nw ++ [(y.1, D')], by rw [List.append_assoc]; exact q1, (if_neg (by decide)).trans q2, by simp [q3], ?_, ?_, ?_, ?_, ?_⟩ ?_ ?_
          · rw [List.map_append, List.nodup_append]
            refine ⟨q4, by simp, fun a ha b hb e => ?_⟩
            obtain ⟨q, hq, rfl⟩ := List.mem_map.mp ha
            simp only [List.map_cons, List.map_nil, List.mem_singleton] at hb
            exact nDN q hq (e.trans hb)
          · intro q hq
            rcases List.mem_append.mp hq with hq | hq
            · exact .inl (q5 q hq)
            · rw [List.mem_singleton] at hq; exact .inr (by rw [hq])
          · rintro b (hb | rfl)
            · exact q6 b hb
            · exact ⟨nD18, zD', nDL'⟩
          · intro y' hy'
            rcases List.mem_append.mp hy' with hy' | hy'
            · obtain ⟨b1, b2, b3, c', p1, p2, p3, p4⟩ := q7 y' hy'
              refine ⟨b1, b2, b3, c', List.mem_append_left _ p1, p2, p3.mv fun o e => kB _ o (dny y' hy') e, p4.mv fun o e => kB _ o (fun q => ?_) e⟩
              have := (q6 c' (q5 _ p1)).1
              obtain ⟨n, e⟩ := lb
              rw [q, e] at this; cases this
            · rw [List.mem_singleton] at hy'
              subst hy'
              refine ⟨a1, a2, a3, D', by simp, lb, l₂₃, ?_⟩
              rw [List.map_map] at l₂₂
              exact l₂₂.kp K₂₃ nDy
          · intro y' hy'
            obtain ⟨b1, b2, b3, p1, p2⟩ := q8 y' (.tail _ hy')
            exact ⟨b1, b2, b3, p1, p2.mv fun o e => kB _ o (rmy y' hy') e⟩
          · rintro b (hb | rfl)
            · obtain ⟨o, e⟩ := th b hb (q6 b hb).2.2
              refine ⟨⟨o, kB b o (fun q => ?_) e⟩, .inl hb⟩
              have := (q6 b hb).1
              obtain ⟨n, e⟩ := lb
              rw [q, e] at this; cases this
            · refine ⟨(l₂₂.kp K₂₃ nDy).there, .inr ?_⟩
              cases e : B.get? b with
              | none => rfl
              | some ob => exact absurd rfl (nDB _ _ e)
          · rintro b ⟨_, rfl⟩
            exact l₂₃.there
        case done2 =>
          rintro N B h₂₀ g₂₀ d₂₀ t₂₀ m₂ ⟨dn, nw, q1, q2, q3, q4, q5, q6, q7, -⟩ F₂₀ K₂₀ kg₂₀
          rw [List.append_nil] at q1
          subst q1
          have nk : (nw.map (·.1)).Nodup := by rw [q3]; exact rlst_nodup X
          obtain ⟨XW, wfr⟩ := sweptWhole X (p := goneP wh (lv k f R.rc)) (ρ := fun a => (nw.lookup a).getD 0) kh18 K₂₀ e8'' (fun y hy => by
            obtain ⟨b1, b2, b3, c', p1, p2, p3, p4⟩ := q7 y hy
            have e := lookup_nodup nk p1
            have q := q6 c' (q5 _ p1)
            simp only [e, Option.getD_some]
            exact ⟨b1, b2, b3, p2, p3, p4, q.1, q.2.1⟩) (fun y hy y' hy' e => by
            obtain ⟨_, _, _, c', p1, _⟩ := q7 y hy
            obtain ⟨_, _, _, c'', p1', _⟩ := q7 y' hy'
            simp only [lookup_nodup nk p1, lookup_nodup nk p1', Option.getD_some] at e
            have := nodup_inj (g := fun q : Addr × Addr => q.2) q4 _ p1 _ p1' e
            exact (Prod.mk.inj this).1)
          have rw1 : ∀ x ∈ rlst R f, x.1 ∈ wadr R f := fun x hx => (X.rowOf x hx).2.2.2.1
          have nrc : ∀ {c v}, B₁₈.IsCell c v → ¬ ∃ x ∈ rlst R f, c = x.1 := fun hc ⟨x, hx, e⟩ => by
            obtain ⟨⟨_, _, _, l⟩, _⟩ := rows18 x hx
            exact l.ne_cell hc e.symm
          have nrw : ∀ b, (∀ x ∈ wadr R f, x ≠ b) → ¬ ∃ x ∈ rlst R f, b = x.1 := fun b hn ⟨x, hx, e⟩ => hn _ (rw1 x hx) e.symm
          have cr₂₀ := IsCell.kp cr₁₈ K₂₀ (nrc cr₁₈)
          have cw₂₀ := IsCell.kp cw₁₈ K₂₀ (nrc cw₁₈)
          have lDr₂₀ := lDr₁₈.kp K₂₀ (nrw _ nDrw)
          have lG₂₀ := lG₁₈.kp K₂₀ (nrw _ wDg)
          have G₂₀ : Grd w z B := G₁₈.kp K₂₀ fun b ⟨x, hx, e⟩ => e ▸ X.zz _ (rw1 x hx)
          have kgf := kg₁₈.step kg₂₀ fun _ q => q.elim
          have khB : Kp (fun b => b ∈ wadr R f) h B := fun b ob n e => K₂₀ b ob (fun ⟨x, hx, e⟩ => n (e ▸ rw1 x hx)) (kh18 b ob e fun e' he' q => n (q ▸ (lsts_wadr e' he').2))
          have llv : lr.length = (lv k f R.rc).length := by
            rw [← hlr]
            have := lv_pc k f 0 R.rc
            have := congrArg List.length this
            simpa [lvr] using this
          clear F₁₈ F₁₉ I₁₉ K₁₉ G₁₈ cw₁₈ cr₁₈ ct₁₈ lDr₁₈ lDt₁₈ lG₁₈ l₁₈ kg₁₈ kg₂₀ rows18 q7 q6 q5
          try dsimp only
          walk_at "q9"
          show wpAny _ A' (execs _ env) _ _ _
          iterate 4 walk_at "go"
          refine lcRule (L := h.objs.size) (by rfl) (by rfl) (by rfl) (by rfl) (by intro _; rfl) ?_
          repeat' walk_at "go"
          refine kRange F₂₀ fun rg₂ h₂₁ B₂₁ t₂₁ F₂₁ K₂₁ rgA₂ nrg₂ => ?_
          refine kIterR F₂₁ rgA₂ (by omega) fun it₄ h₂₂ B₂₂ F₂₂ K₂₂ k₂₂ nit₄ I₂₂ => ?_
          have up22 : ∀ b ob, B.get? b = some ob → B₂₂.get? b = some ob ∧ b ≠ it₄ := fun b ob e => ⟨K₂₂ _ _ (K₂₁ _ _ e), fun q => by have := F₂₁.keep _ _ (K₂₁ _ _ e); rw [q, nit₄] at this; cases this⟩
          have nLit₄ : ¬ h.objs.size = it₄ := fun q => by obtain ⟨ob, e⟩ := F₂₁.there; rw [q, nit₄] at e; cases e
          rw [List.range_eq_range'] at I₂₂
          refine ⟨_, _, _, (List.range' 0 lr.length).map (fun k : Nat => (k : Int)), none1, fun b => b = it₄, noneG, B₂₂, m₂, fun rem ys Ft B₁ => RgJ lr.length (fun j ys => ValsAre (fun (i : Nat) v => ∃ t, v = .int (i : Int) t) (sel wh 0 (List.range j)) ys) rem ys, itr_range rA.hh, I₂₂, F₂₂, nLit₄, fun _ _ _ q _ => wpAny_pure q, ?_, ?_, fun B₁ => ⟨0, Nat.zero_le _, rfl, trivial⟩, ?_, ?_⟩
          · exact fun _ _ _ _ _ q _ => q
          · rintro rem ys Ft B₁ ⟨j, e, e', v⟩
            have h1 := v.len
            have h2 := (sel_sub wh 0 (List.range j)).length_le
            rw [List.length_range] at h2
            rw [sizeLine_eq]; omega
          · rintro C' x rem ys v R' Ft B₁ hh₃ gg₃ dd₃ tt₃ m₁ ⟨j, hj₃, hr₃, va⟩ F₁' k₁ ⟨⟨tv, rfl⟩, _⟩
            have le1 : Le B B₁ := fun b ob e => k₁ b ob (up22 b ob e).2 (up22 b ob e).1
            have hj' : j < lr.length := by
              rcases Nat.lt_or_ge j lr.length with q | q
              · exact q
              · rw [show lr.length - j = 0 by omega] at hr₃; simp at hr₃
            rw [show lr.length - j = (lr.length - (j + 1)) + 1 by omega, List.range'_succ, List.map_cons, List.cons.injEq] at hr₃
            obtain ⟨rfl, rfl⟩ := hr₃
            have cw₁' := cw₂₀.keeps le1
            have st := sel_range wh j
            clear F₂₀ F₂₁ F₂₂ I₂₂ G₂₀ cr₂₀ cw₂₀ lDr₂₀ lG₂₀
            refine wpAny_assign_Name (kStore F₁' rfl rfl rfl fun h₂ t₂ F₂ => ?_)
            repeat' walk_at "go"
            · rename_i hp
              exact ⟨none1, B₁, _, gg₃, dd₃, _, _, rfl, F₂, .refl _ _, .refl _ _, ⟨j + 1, hj', rfl, by rw [st, if_pos hp]; exact va.snoc ⟨tv, rfl⟩⟩, fun b q => q.elim⟩
            · rename_i hp
              exact ⟨none1, B₁, _, gg₃, dd₃, _, _, rfl, F₂, .refl _ _, .refl _ _, ⟨j + 1, hj', rfl, by rw [st, if_neg hp, List.append_nil]; exact va⟩, fun b q => q.elim⟩
          · rintro ys Ft B₁ De hh₃ gg₃ dd₃ tt₃ ⟨j, hj₃, hr₃, va⟩ F₂₃ k₂₃ l₂₃ nDe kg₂₃
            have hj' : j = lr.length := by
              have := congrArg List.length hr₃
              simp only [List.length_nil, List.length_map, List.length_range'] at this
              omega
            subst hj'
            rw [llv] at va
            have le1 : Le B B₁ := fun b ob e => k₂₃ b ob (up22 b ob e).2 (up22 b ob e).1
            have leF : Le B hh₃ := fun b ob e => F₂₃.keep _ _ (le1 b ob e)
            refine eqInts (by have := rA.un; omega) (lG₂₀.le leF) (l₂₃.le F₂₃.keep) e7 va ?_
            walk_at "q9"
            exact H hh₃ gg₃ dd₃ tt₃ _ _ (kgf.step kg₂₃ fun _ q => q.elim) (XW.mv leF) (cutm_size _ _ f) (fun b ob n e => leF b ob (khB b ob n e)) wfr
end

local macro_rules | `(tactic| walk_at "mf") => `(tactic| first | assumption | exact if_pos rfl | (refine (if_neg (by decide)).trans ?_; walk_at "mf"))
local macro_rules | `(tactic| walk_at "eval Name") => `(tactic| (refine eLocal3 (by with_unfolding_all rfl) (by assumption) (by with_unfolding_all rfl) (by with_unfolding_all rfl) (by walk_at "mf") (by with_unfolding_all decide) ?_))

section
variable {w : World} {z : Nat} {A : Around} {E : Value → Shared → Prop} {h : Heap} {g : Array GenState} {d : Drawn} {t : Nat} {o : OsState}
set_option maxHeartbeats 16000000 in
theorem law_spec {sc : Addr} {vs : List Value} {Q : Value → Shared → Prop} (G : Grd w z h) (r : Rm A 220) (ls : ListAt h sc vs) (hi : ∀ v ∈ vs, ∃ i t, v = .int i t) (hz : vs.length ≤ 63)
    (H : ∀ h' g' d' t', Le h h' → KpG noneG g g' → Q (.bool true) ⟨h', g', d', t', o⟩) :
    wpAny (model pr w) A (call (.ref 147) [.ref sc]) Q E ⟨h, g, d, t, o⟩ := by
  refine callF (binds := [(Str.ofString "script", .ref sc)]) G rfl rfl rfl rfl (by have := r.dp; omega) rfl rfl rfl rfl rfl rfl ?_
  intro h₁ F₁ env A'
  dsimp only at F₁
  have rA : Rm A' 219 := r.deeper
  have zL : z ≤ h.objs.size := G.size
  have hL : h.get? h.objs.size = none := get_new
  repeat' walk_at "go"
  refine start_spec (G.le F₁.keep) (rA.le (by omega)) (ls.le F₁.keep) hi hz fun st q h₂ g₂ d₂ t₂ le₂ kg₂ S₂ nst nq => ?_
  obtain ⟨B₂, F₂, K₂, up₂⟩ := F₁.after (Le.kp le₂ none1) id
  repeat' walk_at "go"
  rename_i h₃ t₃ F₃ u₁ t₄ u₂ t₅ u₃ t₆ D₄ h₄ B₄ F₄ K₄ l₄ n₄ nh₄ zz₄ K₄'
  have G₄ : Grd w z B₄ := (G.kp K₂ fun b e => e.elim).le K₄
  refine setList (xs := [Str.ofString "any_policy"]) rA.hh (l₄.le F₄.keep) ⟨⟨u₃, rfl⟩, trivial⟩ (by simp) fun S₁ h₅ t₇ le₅ sx₅ nS₁ zS₁ => ?_
  obtain ⟨B₅, F₅, K₅, up₅⟩ := F₄.after (Le.kp le₅ none1) id
  have G₅ : Grd w z B₅ := G₄.kp K₅ fun b e => e.elim
  have nup₅ : ∀ b ob, h₄.get? b = none → h₅.get? b = some ob → B₅.get? b = some ob := fun b ob n e => up₅ b ob (fun q => by obtain ⟨o', e'⟩ := F₄.there; rw [q, e'] at n; cases n) e
  have sx₅' := sx₅.mv fun o e => nup₅ _ o nS₁ e
  have zS1 : z ≤ S₁ := Nat.le_trans (G₄.le F₄.keep).size zS₁
  have nS1 : B₄.get? S₁ = none := none_of F₄.keep nS₁
  refine kc G₅ F₅ ?_
  refine mkRoot (G₅.le F₅.keep) (rA.le (by omega)) fun rt rd rc a da ca h₆ t₈ es n v1 v2 le₆ ndR lR iR esz g1 g2 g3 g4 g5 g6 g7 g8 g9 lca frR nodR => ?_
  obtain ⟨B₆, F₆, K₆, up₆⟩ := F₅.after (Le.kp le₆ none1) id
  have G₆ : Grd w z B₆ := G₅.kp K₆ fun b e => e.elim
  have nfR : ∀ b ∈ [rt, rd, rc, a, da, ca], B₅.get? b = none := fun b hb => none_of F₅.keep (frR b hb).1
  have nup₆ : ∀ b ob, h₅.get? b = none → h₆.get? b = some ob → B₆.get? b = some ob := fun b ob n e => up₆ b ob (fun q => by obtain ⟨o', e'⟩ := F₅.there; rw [q, e'] at n; cases n) e
  repeat' walk_at "go"
  rename_i h₇ t₉ F₇ u4 t10 u5 t11 u6 t12 u7 t13 u8 t14 D₈ h₈ B₈ F₈ K₈ l₈ n₈ nh₈ zz₈ K₈'
  have G₈ : Grd w z B₈ := G₆.le K₈
  refine setList (xs := [Str.ofString "any_policy"]) rA.hh (l₈.le F₈.keep) ⟨⟨u8, rfl⟩, trivial⟩ (by simp) fun S₂s h₉ t₁₅ le₉ sx₉ nS₂ zS₂ => ?_
  obtain ⟨B₉, F₉, K₉, nup₉⟩ := F₈.grow le₉
  have G₉ : Grd w z B₉ := G₈.le K₉
  have sx₉' := sx₉.mv fun o e => nup₉ _ o nS₂ e
  have zS2 : z ≤ S₂s := Nat.le_trans (G₈.le F₈.keep).size zS₂
  have nS2 : B₈.get? S₂s = none := none_of F₈.keep nS₂
  have nst2 : h.get? st = none ∧ h.get? q = none := ⟨none_of F₁.keep nst, none_of F₁.keep nq⟩
  have S₂' : StAt z B₂ st q := by
    obtain ⟨oL, eL⟩ := F₁.there
    refine S₂.mv fun b o hb e => up₂ b o (fun q' => ?_) e
    rcases hb with rfl | rfl
    · rw [q', eL] at nst; cases nst
    · rw [q', eL] at nq; cases nq
  clear F₁ F₂ F₃ F₄ F₅ F₆ F₇ F₈ K₈'
  repeat' walk_at "go"
  rename_i Drc h10 B10 F10 K10 lrc n10 nh10 zz10 K10' Dr h11 B11 F11 K11 lr n11 nh11 zz11 K11' Dtrc h12 B12 F12 K12 ltrc n12 nh12 zz12 K12' Dtr h13 B13 F13 K13 ltr n13 nh13 zz13 K13' h14 t16 F14 u9 t17 u10 t18
  have z10 : z ≤ Drc := Nat.le_trans (G₉.le F₉.keep).size zz10
  have z11 : z ≤ Dr := Nat.le_trans ((G₉.le K10).le F10.keep).size zz11
  have z12 : z ≤ Dtrc := Nat.le_trans (((G₉.le K10).le K11).le F11.keep).size zz12
  have z13 : z ≤ Dtr := Nat.le_trans ((((G₉.le K10).le K11).le K12).le F12.keep).size zz13
  have L12 : Le B12 B13 := K13
  have L11 : Le B11 B13 := K12.trans L12
  have L10 : Le B10 B13 := K11.trans L11
  have L9 : Le B₉ B13 := K10.trans L10
  have L8 : Le B₈ B13 := K₉.trans L9
  have L6 : Le B₆ B13 := K₈.trans L8
  have L5 : Le B₅ B13 := K₆.le.trans L6
  have L2 : Le B₂ B13 := K₄.trans (K₅.le.trans L5)
  have nR : ∀ b ∈ [rt, rd, rc, a, da, ca], h₅.get? b = none := fun b hb => (frR b hb).1
  have zR : ∀ b ∈ [rt, rd, rc, a, da, ca], z ≤ b := fun b hb => (frR b hb).2
  obtain ⟨esd, nn, id0, hd0⟩ := (⟨_, _, iR, trivial⟩ : ∃ es n, Inst h₆ a 80 da es n ∧ True)
  have thR : ∀ b ∈ [rt, rd, rc, a, da, ca], ∃ o, B₆.get? b = some o := by
    have th6 : ∀ b ∈ [rt, rd, rc, a, da, ca], ∃ o, h₆.get? b = some o := by
      obtain ⟨es', n', i', _⟩ := ndR.ex
      exact fcons ⟨_, i'.ob⟩ (fcons ⟨_, i'.dt⟩ (fcons lR.there (fcons ⟨_, iR.ob⟩ (fcons ⟨_, iR.dt⟩ (fcons lca.there fnil)))))
    intro b hb
    obtain ⟨o, e⟩ := th6 b hb
    exact ⟨o, nup₆ b o (nR b hb) e⟩
  have snocN : ∀ {l : List Addr} {b : Addr} {Bk : Heap}, l.Nodup → (∀ x ∈ l, ∃ o, Bk.get? x = some o) → Bk.get? b = none → (l ++ [b]).Nodup := fun {l b Bk} hl he hb => by
    rw [List.nodup_append]
    refine ⟨hl, by simp, fun x hx y hy e => ?_⟩
    rw [List.mem_singleton] at hy
    obtain ⟨o, e'⟩ := he x hx
    rw [e, hy, hb] at e'; cases e'
  have N1 : (S₁ :: [rt, rd, rc, a, da, ca]).Nodup := by
    rw [List.nodup_cons]
    refine ⟨fun q => ?_, nodR⟩
    have := nfR _ q
    obtain ⟨o, e⟩ := sx₅'.there
    rw [this] at e; cases e
  have T1 : ∀ x ∈ S₁ :: [rt, rd, rc, a, da, ca], ∃ o, B₆.get? x = some o := fun x hx => by
    rcases List.mem_cons.mp hx with rfl | hx
    · obtain ⟨o, e⟩ := sx₅'.there; exact ⟨o, K₆.le _ _ e⟩
    · exact thR x hx
  have up1 : ∀ {l : List Addr} {b : Addr} {Bk Bm : Heap}, (∀ x ∈ l, ∃ o, Bk.get? x = some o) → Le Bk Bm → (∃ o, Bm.get? b = some o) → ∀ x ∈ l ++ [b], ∃ o, Bm.get? x = some o := fun {l b Bk Bm} ht k hb x hx => by
    rcases List.mem_append.mp hx with hx | hx
    · obtain ⟨o, e⟩ := ht x hx; exact ⟨o, k _ _ e⟩
    · rw [List.mem_singleton] at hx; rw [hx]; exact hb
  have N2 := snocN N1 (fun x hx => let ⟨o, e⟩ := T1 x hx; ⟨o, K₈ _ _ e⟩) nS2
  have T2 := up1 T1 (K₈.trans K₉) sx₉'.there
  have N3 := snocN N2 T2 n10
  have T3 := up1 T2 K10 lrc.there
  have N4 := snocN N3 T3 n11
  have T4 := up1 T3 K11 lr.there
  have N5 := snocN N4 T4 n12
  have T5 := up1 T4 K12 ltrc.there
  have N6 := snocN N5 T5 n13
  have wl : wadr ⟨rt, rd, rc, Dtr, Dtrc⟩ (.cons ⟨a, da, ca, S₁, Dr, Drc, S₂s, Str.ofString "any_policy", Str.ofString "q", (setS [Str.ofString "any_policy"]).1, (setS [Str.ofString "any_policy"]).2⟩ .nil .nil) = [rt, rd, rc, Dtr, Dtrc, a, da, ca, S₁, Dr, Drc, S₂s] := rfl
  have I₀ : LawI w z h B13 ⟨rt, rd, rc, Dtr, Dtrc⟩ (.cons ⟨a, da, ca, S₁, Dr, Drc, S₂s, Str.ofString "any_policy", Str.ofString "q", (setS [Str.ofString "any_policy"]).1, (setS [Str.ofString "any_policy"]).2⟩ .nil .nil) st q := by
    have fr2 : ∀ b ∈ [rt, rd, rc, Dtr, Dtrc, a, da, ca, S₁, Dr, Drc, S₂s], B₂.get? b = none := by
      have L24 : Le B₂ B₄ := K₄
      have L25 : Le B₂ B₅ := L24.trans K₅.le
      have L28 : Le B₂ B₈ := (L25.trans K₆.le).trans K₈
      have L29 : Le B₂ B₉ := L28.trans K₉
      have n6 : ∀ b ∈ [rt, rd, rc, a, da, ca], B₂.get? b = none := fun b hb => none_of L25 (nfR b hb)
      obtain ⟨p1, p2, p3, p4, p5, p6⟩ := all6 n6
      exact fcons p1 (fcons p2 (fcons p3 (fcons (none_of (((L29.trans K10).trans K11).trans K12) n13) (fcons (none_of ((L29.trans K10).trans K11) n12) (fcons p4 (fcons p5 (fcons p6 (fcons (none_of L24 nS1) (fcons (none_of (L29.trans K10) n11) (fcons (none_of L29 n10) (fcons (none_of L28 nS2) fnil)))))))))))
    have k6 : ∀ b ob, b ∈ [rt, rd, rc, a, da, ca] → h₆.get? b = some ob → B13.get? b = some ob := fun b ob hb e => L6 _ _ (nup₆ b ob (nR b hb) e)
    refine ⟨G₉.le L9, ⟨?_, ?_, ⟨u4, u5, ltr⟩, ltrc.le L12, ?_, ?_, ?_, by simp [Fo.size]⟩, S₂'.mv fun b o _ e => L2 b o e, ?_, ?_, K₂.le.trans L2, nst2.1, nst2.2, ?_⟩
    · exact ndR.mv fun b ob hb e => k6 b ob (by rcases hb with rfl | rfl <;> simp) e
    · exact lR.mv fun o e => k6 _ o (by simp) e
    · refine ⟨⟨⟨es, n, v1, v2, ⟨k6 _ _ (by simp) iR.ob, k6 _ _ (by simp) iR.dt⟩, g1, g2, g3, g4, g5, esz, g6, g7, g8, g9⟩, ⟨u6, u7, lr.le L11⟩, sx₅'.mv fun _ e => L5 _ _ e, sx₉'.mv fun _ e => L9 _ _ e⟩, ?_, lrc.le L10, trivial, trivial⟩
      exact lca.mv fun o e => k6 _ o (by simp) e
    · show (wadr _ _).Nodup
      rw [wl]
      refine (List.Perm.nodup_iff ?_).mp N6
      refine List.perm_iff_count.mpr fun x => ?_
      simp only [List.count_append, List.count_cons, List.count_nil, Nat.zero_add]
      ac_rfl
    · show ∀ b ∈ wadr _ _, z ≤ b
      rw [wl]
      obtain ⟨p1, p2, p3, p4, p5, p6⟩ := all6 zR
      exact fcons p1 (fcons p2 (fcons p3 (fcons z13 (fcons z12 (fcons p4 (fcons p5 (fcons p6 (fcons zS1 (fcons z11 (fcons z10 (fcons zS2 fnil)))))))))))
    · rw [wl]; intro m
      obtain ⟨⟨c, t1, sd, t2, l, _⟩, _⟩ := S₂'
      obtain ⟨n', e'⟩ := l
      rw [fr2 _ m] at e'; cases e'
    · rw [wl]; intro m
      obtain ⟨_, ⟨vs', l, _⟩, _⟩ := S₂'
      obtain ⟨n', e'⟩ := l
      rw [fr2 _ m] at e'; cases e'
    · rw [wl]; intro b hb
      exact none_of K₂.le (fr2 b hb)
  obtain ⟨R, f, I, hsz, hrt, htr⟩ : ∃ R f, LawI w z h B13 R f st q ∧ f.size = 1 ∧ R.rt = rt ∧ R.tr = Dtr := ⟨_, _, I₀, rfl, rfl, rfl⟩
  subst hrt htr
  have kg0 : KpG noneG g g₂ := kg₂
  clear I₀ wl N6 N5 N4 N3 N2 N1 T1 T2 T3 T4 T5 up1 snocN thR zR nR L2 L5 L6 L8 L9 L10 L11 L12 z10 z11 z12 z13 F10 F11 F12 F13 lrc lr ltrc ltr K10 K11 K12 K13 K10' K11' K12' K13' G₉ G₈ G₆ G₅ G₄ sx₉' sx₅' S₂' S₂ nup₉ nup₆ nup₅ up₆ up₅ up₂ ndR lR iR lca g1 g2 g3 g4 g5 g6 g7 g8 g9 esz id0 hd0 frR nodR nfR
  refine kTake F14 I (rA.le (by omega)) (by decide) (by decide) fun r1 tr1 h15 t19 B15 F15 I15 K15 r10 r11 => ?_
  repeat' walk_at "go"
  obtain ⟨n, hn, hn14⟩ : ∃ n : Nat, 1 + r1 = (n : Int) ∧ n ≤ 14 := ⟨(1 + r1).toNat, by omega, by omega⟩
  rw [hn]
  refine kRange F15 fun rg h16 B16 t20 F16 K16 rgA nrg => ?_
  refine kIterR2 F16 rgA (by omega) fun it h17 B17 F17 K17 hit nit zit => ?_
  have I16 := I15.le K16
  obtain ⟨ob17, hob17⟩ : ∃ ob, B17.get? it = some ob := ⟨_, hit⟩
  have T17 : LawT w z h B17 R f st q it ob17 := by
    refine ⟨I16.le K17, hob17, fun m => ?_, fun e => ?_, fun e => ?_⟩
    · obtain ⟨o, e⟩ := I16.X.there _ m
      rw [F16.keep _ _ e] at nit; cases nit
    · obtain ⟨⟨_, _, _, _, l, _⟩, _⟩ := I16.S
      obtain ⟨n, e'⟩ := l
      rw [e, F16.keep _ _ e'] at nit; cases nit
    · obtain ⟨_, ⟨_, l, _⟩, _⟩ := I16.S
      obtain ⟨n, e'⟩ := l
      rw [e, F16.keep _ _ e'] at nit; cases nit
  have zit' : z ≤ it := Nat.le_trans (I16.G.le F16.keep).size zit
  have nith : h.get? it = none := none_of (fun b ob e => F16.keep b ob (I16.keep b ob e)) nit
  clear F₉ F14 F15 F16 I I15 I16 K15 K16 rgA nit
  refine forRange rA.hh (LawJ w z h st q it R.rt R.tr g) ?hJ (K := fun _ _ => False) ?turn (fun v s q => q.elim) ?done n 0 B17 h17 g₂ d₂ _ _
    ⟨R, f, T17.I, T17.nw, rfl, rfl, by omega, kg0, rfl, rfl, rfl⟩ F17 hit
  case hJ =>
    rintro n B B' g' m ⟨R', f', I, nw, e1, e2, e3, kg, m1, m2, m3⟩ k
    exact ⟨R', f', I.it k nw T17.ns T17.nq zit' nith, nw, e1, e2, e3, kg, m1, m2, m3⟩
  case done =>
    rintro B h20 g20 d20 t20 m ⟨R', f', I, nw, e1, e2, e3, kg, mr, mt, ms⟩ F
    try dsimp only
    walk_at "q9"
    show wpAny _ A' (execs _ env) _ _ _
    repeat' walk_at "go"
    exact H h20 g20 d20 _ (fun b ob e => F.keep _ _ (I.keep _ _ e)) kg
  case turn =>
    rintro i n' tk B h20 g20 d20 t20 m ⟨R', f', I, nw, hrt, htr, hsz', kg, mr, mt, ms⟩ F hi'
    obtain ⟨ob, hob⟩ : ∃ ob, ob = ({ cls := .type "range_iterator", data := .fields #[rawInt ((i + 1 : Nat) : Int), rawInt (n' : Int), rawInt 1] } : Obj) := ⟨_, rfl⟩
    have T : LawT w z h B R' f' st q it ob := ⟨I, hob ▸ hi', nw, T17.ns, T17.nq⟩
    rw [← hrt] at mr
    rw [← htr] at mt
    clear hi' I nw F17
    refine kStore F rfl rfl rfl fun h21 t21 F21 => ?_
    have G21 := T.I.G
    repeat' walk_at "go"
    refine kTakeT F21 T (rA.le (by omega)) (by decide) (by decide) fun deed td h22 t22 B22 F22 T22 K22 d0 d1 => ?_
    clear F F21 T G21
    have G22 := T22.I.G
    repeat' walk_at "go"
    rename_i h23 t23 F23 u23 t24
    refine kTakeT F23 T22 (rA.le (by omega)) (by decide) (by decide) fun k1 tk1 h24 t25 B24 F24 T24 K24 k10 k11 => ?_
    clear F22 F23 T22 G22
    have G24 := T24.I.G
    repeat' walk_at "go"
    rename_i u24 t26
    refine kTakeT F24 T24 (rA.le (by omega)) (by decide) (by decide) fun k2 tk2 h25 t27 B25 F25 T25 K25 k20 k21 => ?_
    clear F24 T24 G24
    refine kc T25.I.G F25 ?_
    obtain ⟨kn, hkn⟩ := Int.eq_ofNat_of_zero_le k10
    subst hkn
    refine node_spec (by omega) (T25.I.G.le F25.keep) (rA.le (by omega)) (T25.I.X.mv F25.keep) k20 (by omega) fun Dn h26 g26 d26 t28 nd rr le26 kg26 tup hcase => ?_
    obtain ⟨B26, F26, K26, up26⟩ := F25.after (Le.kp le26 none1) id
    have tup' : TupAt B26 Dn [.ref nd, .ref rr] := tup.mv fun o e => up26 _ _ (tup.ne_ns F26.ns) e
    have T26 := T25.le K26.le
    have kgn := kg.step kg26 fun _ q => q.elim
    clear F25 T25
    repeat' walk_at "go"
    refine kUnpack2 rA.hh F26 tup' fun h27 B27 F27 K27 => ?_
    refine kStore F27 rfl rfl rfl fun h28 t29 F28 => ?_
    refine kStore F28 rfl rfl rfl fun h29 t30 F29 => ?_
    have T27 := T26.le K27
    obtain ⟨c, rc, ks, hs⟩ : ∃ c rc ks, (nd, c, rr, rc, ks) ∈ slots R' f' := by
      rcases hcase with ⟨rfl, rfl⟩ | ⟨y, hy, rfl, rfl⟩
      · exact ⟨_, _, _, .head _⟩
      · obtain ⟨ks, h⟩ := slots_node (R := R') ((lv_sub kn f' R'.rc).subset (List.mem_map_of_mem hy))
        exact ⟨_, _, _, h⟩
    clear F26 F27 F28 T26 tup tup' hcase K26 up26 le26
    iterate 1 walk_at "go"
    refine wpAny_mono (Q := LawE w z h h.objs.size R' st q it ob g o n') ?main (fun fl s' q => ?rest) (fun _ _ x => x)
    case rest =>
      obtain ⟨rfl, R'', f'', B', h', g', d', t', m', rfl, T', F', e1, e2, e3, kg', mr', mt', ms'⟩ := q
      have G' := T'.I.G
      walk_at "q9"
      show wpAny _ A' (execs _ env) _ _ _
      repeat' walk_at "go"
      rw [List.nil_append, ← e1, ← e2]
      refine right_spec (T'.I.G.le F'.keep) (rA.le (by omega)) (T'.I.X.mv F'.keep) fun h40 g40 d40 t40 le40 kg40 => ?_
      obtain ⟨B40, F40, K40, nup40⟩ := F'.grow le40
      have T40 := T'.le K40
      have kgE := kg'.step kg40 fun _ q => q.elim
      iterate 4 walk_at "go"
      exact .next (.inl rfl) F40 (by have := T40.hi; rw [hob] at this; exact this) ⟨R'', f'', T40.I, T40.nw, e1.trans hrt, e2.trans htr, e3, kgE, hrt ▸ mr', htr ▸ mt', ms'⟩
    case main =>
      obtain ⟨C, dd, hC, nd27, lc27, ⟨ra1, ra2, ra3, lr27⟩, lrc27, trk, ksz⟩ := T27.I.X.slotNode hs
      have G27 := T27.I.G
      iterate 7 walk_at "go"
      · rename_i u30 t31 hdeed
        iterate 1 walk_at "go"
        refine wpAny_mono (Q := LawN w z h h.objs.size R' f' st q it ob g26 d26 o) ?inner (fun fl s' q => ?rest2) (fun _ _ x => x)
        case inner =>
          repeat' walk_at "go"
          refine kTakeT F29 T27 (rA.le (by omega)) (by decide) (by decide) fun k3 tk3 h32 t32 B32 F32 T32 K32 k30 k31 => ?_
          clear F29 T27 G27 nd27 lc27 lr27 lrc27 trk
          have G32 := T32.I.G
          repeat' walk_at "go"
          · rename_i u33 t33 hz3 D33 h33 B33 F33 K33 l33 n33 nh33 zz33 K33'
            refine kUnpackS (by rfl) rA.hh F33 l33 fun h34 B34 F34 K34 => ?_
            show wpAny _ _ (assignInOrder [bindName env (Str.ofString "row"), bindName env (Str.ofString "node")] [.ref R'.tr, .ref R'.rt]) _ _ _
            refine wpAny_bind (wpAny_holding (wpAny_bindName (kStore F34 rfl rfl rfl fun h35 t35 F35 => ?_)))
            refine wpAny_bind (wpAny_holding (wpAny_bindName (kStore F35 rfl rfl rfl fun h36 t36 F36 => ?_)))
            refine wpAny_pure ?_
            repeat' walk_at "go"
            refine ⟨rfl, R'.rt, R'.tr, _, _, _, B34, h36, _, _, rfl, (T32.le K33).le K34, F36, .head _, ?_, ?_, ?_, ?_, ?_⟩
            all_goals walk_at "mf"
          · refine ⟨rfl, nd, rr, c, rc, ks, B32, h32, _, _, rfl, T32, F32, hs, ?_, ?_, ?_, ?_, ?_⟩
            all_goals walk_at "mf"
        case rest2 =>
          obtain ⟨rfl, nd, rr, c, rc, ks, B33, h33, t33, m33, rfl, T33, F33, hs33, mn, mrow, mr, mt, ms⟩ := q
          clear F29 T27 G27 nd27 lc27 lr27 lrc27 trk
          walk_at "q9"
          show wpAny _ A' (execs _ env) _ _ _
          have G33 := T33.I.G
          repeat' walk_at "go"
          refine kTakeT F33 T33 (rA.le (by omega)) (by decide) (by decide) fun k4 tk4 h34 t34 B34 F34 T34 K34 k40 k41 => ?_
          clear F33 T33 G33
          have G34 := T34.I.G
          iterate 1 walk_at "go"
          refine kStr2 k40 (by omega) fun x4 u34 t35 hx4 => ?_
          iterate 8 walk_at "go"
          rename_i u35 k35 hx35 h36 t36 F36
          clear F34
          refine lcRule (L := h.objs.size) (by rfl) (by rfl) (by rfl) (by rfl) (by intro _; rfl) ?_
          repeat' walk_at "go"
          refine kTakeT F36 T34 (rA.le (by omega)) (by decide) (by decide) fun k5 tk5 h37 t37 B37 F37 T37 K37 k50 k51 => ?_
          clear F36 T34 G34
          have G37 := T37.I.G
          obtain ⟨n5, hn5⟩ := Int.eq_ofNat_of_zero_le k50
          subst hn5
          iterate 1 walk_at "go"
          refine kRange F37 fun rg2 h38 B38 t38 F38 K38 rgA2 nrg2 => ?_
          refine kIterR F38 rgA2 (by omega) fun it2 h39 B39 F39 K39 k39 nit2 I39 => ?_
          have up39 : ∀ b ob, B37.get? b = some ob → B39.get? b = some ob ∧ b ≠ it2 := fun b ob e => ⟨K39 _ _ (K38 _ _ e), fun q => by have := F38.keep _ _ (K38 _ _ e); rw [q, nit2] at this; cases this⟩
          have nLit2 : ¬ h.objs.size = it2 := fun q => by obtain ⟨ob, e⟩ := F38.there; rw [q, nit2] at e; cases e
          rw [List.range_eq_range'] at I39
          refine ⟨_, _, _, (List.range' 0 n5).map (fun k : Nat => (k : Int)), none1, fun b => b = it2, noneG, B39, _, fun rem ys Ft B₁ => RgJ n5 (fun j ys => ys.length = j ∧ ∃ xs : List Str, StrsAre ys xs) rem ys, itr_range rA.hh, I39, F39, nLit2, fun _ _ _ q _ => wpAny_pure q, ?_, ?_, fun B₁ => ⟨0, Nat.zero_le _, rfl, rfl, [], trivial⟩, ?_, ?_⟩
          · exact fun _ _ _ _ _ q _ => q
          · rintro rem ys Ft B₁ ⟨j, e, e', v, _⟩
            rw [sizeLine_eq]; omega
          · rintro C' x rem ys v R' Ft B₁ hh₃ gg₃ dd₃ tt₃ m₁ ⟨j, hj₃, hr₃, lj, xs, sa⟩ F₁' k₁ ⟨⟨tv, rfl⟩, _⟩
            have le1 : Le B37 B₁ := fun b ob e => k₁ b ob (up39 b ob e).2 (up39 b ob e).1
            have hj' : j < n5 := by
              rcases Nat.lt_or_ge j n5 with q | q
              · exact q
              · rw [show n5 - j = 0 by omega] at hr₃; simp at hr₃
            rw [show n5 - j = (n5 - (j + 1)) + 1 by omega, List.range'_succ, List.map_cons, List.cons.injEq] at hr₃
            obtain ⟨rfl, rfl⟩ := hr₃
            have G₁' := G37.le le1
            clear F37 F38 F39 I39 G37
            refine wpAny_assign_Name (kStore F₁' rfl rfl rfl fun h₂ t₂ F₂ => ?_)
            iterate 13 walk_at "go"
            refine kStr2 (by omega) (by omega) fun x6 u41 t41 hx6 => ?_
            iterate 1 walk_at "go"
            rename_i u42 k42 hx42
            exact ⟨none1, B₁, _, gg₃, dd₃, _, _, rfl, F₂, .refl _ _, .refl _ _, ⟨j + 1, hj', rfl, by rw [List.length_append, lj]; rfl, _, sa.snoc ⟨u42, rfl⟩⟩, fun b q => q.elim⟩
          · rintro ys Ft B₁ De hh₃ gg₃ dd₃ tt₃ ⟨j, hj₃, hr₃, lj, xs, sa⟩ F₂₃ k₂₃ l₂₃ nDe kg₂₃
            have hj' : j = n5 := by
              have := congrArg List.length hr₃
              simp only [List.length_nil, List.length_map, List.length_range'] at this
              omega
            subst hj'
            have le1 : Le B37 B₁ := fun b ob e => k₂₃ b ob (up39 b ob e).2 (up39 b ob e).1
            have T40 := T37.le le1
            have G40 := T40.I.G
            have kg40 := kgn.step kg₂₃ fun _ q => q.elim
            clear F37 F38 F39 I39 G37 T37 up39
            repeat' walk_at "go"
            refine setList (xs := xs) rA.hh (l₂₃.le F₂₃.keep) sa (by have := sa.len; omega) fun S7 h42 t42 le42 sx42 nS42 zS42 => ?_
            obtain ⟨B42, F42, K42, nup42⟩ := F₂₃.grow le42
            have T42 := T40.le K42
            have sx42' := sx42.mv fun o e => nup42 _ o nS42 e
            have nS7 : B₁.get? S7 = none := none_of F₂₃.keep nS42
            have fr7 := T40.fresh nS7
            have zS7 : z ≤ S7 := Nat.le_trans (G40.le F₂₃.keep).size zS42
            have G42 := T42.I.G
            clear F₂₃ T40 G40 l₂₃ rgA2 le42
            generalize (setS xs).1 = SS at sx42 sx42'
            generalize (setS xs).2 = sn at sx42 sx42'
            repeat' walk_at "go"
            refine kTakeT (by assumption) T42 (rA.le (by omega)) (by decide) (by decide) fun k8 tk8 h43 t43 B43 F43 T43 K43 k80 k81 => ?_
            have sx43 := sx42'.mv fun o e => K43 _ o (fun q => by
              obtain ⟨⟨_, _, _, _, l, _⟩, ⟨_, l', _⟩, _⟩ := T42.I.S
              exact q.elim (sx42'.ne_list l) (sx42'.ne_list l')) e
            clear G42 sx42 T42
            have G43 := T43.I.G
            iterate 1 walk_at "go"
            refine kStr2 k80 (by omega) fun x9 u44 t44 hx9 => ?_
            repeat' walk_at "go"
            rename_i u45 k45 hx45 h44 t45 F44
            refine setSet (sx43.mv fun o e => F44.keep _ _ e) fun S8 h46 t46 le46 sx46 nS46 zS46 => ?_
            obtain ⟨B46, F46, K46, nup46⟩ := F44.grow le46
            have T46 := T43.le K46
            have sx46' := sx46.mv fun o e => nup46 _ o nS46 e
            have sx7 := sx43.mv fun o e => K46 _ o e
            have nS8 : B43.get? S8 = none := none_of F44.keep nS46
            have zS8 : z ≤ S8 := Nat.le_trans (G43.le F44.keep).size zS46
            have fr8 := T43.fresh nS8
            have nS87 : S8 ≠ S7 := fun q => by obtain ⟨o, e⟩ := sx43.there; rw [← q, nS8] at e; cases e
            clear F44 T43 G43 sx43 sx46 le46
            obtain ⟨C, dd, hC, nd46, lc46, ⟨ra1, ra2, ra3, lr46⟩, lrc46, trk, ksz⟩ := T46.I.X.slotNode hs33
            have G46 := T46.I.G
            have ksz' := T46.I.X.sz
            have wc : c ∈ wadr R' f' := (lsts_wadr _ (slots_lsts hs33)).2
            have wrr : rr ∈ wadr R' f' := (T46.I.X.rowOf _ (slots_rlst hs33)).2.2.2.1
            have wrc : rc ∈ wadr R' f' := (T46.I.X.rowOf _ (slots_rlst hs33)).2.2.2.2.1
            have nrrc : rr ≠ c := (T46.I.X.rlst_ne (slots_rlst hs33)).1 _ (slots_lsts hs33)
            have nrcc : rc ≠ c := (T46.I.X.rlst_ne (slots_rlst hs33)).2 _ (slots_lsts hs33)
            have lks : ks.refs.length ≤ 40 := by have := refs_le ks; omega
            have lks2 : ks.rrefs.length ≤ 40 := by rw [rrefs_tops, List.length_map]; have := tops_len ks; omega
            repeat' walk_at "go"
            rename_i h48 t48 F48 pl
            refine addChild hC (G46.le F48.keep) (rA.le (by omega)) (nd46.mv fun b ob _ e => F48.keep b ob e) (lc46.le F48.keep) (by omega) (T46.I.X.zz _ wc) fun a da ca h47 t47 es n v1 v2 K47 l47 i47 esz g1 g2 g3 g4 g5 g6 g7 g8 g9 lca na nda nca za zda zca n1 n2 n3 => ?_
            have ncL : c ≠ h.objs.size := F48.off_ne lc46.choose_spec
            obtain ⟨B47, F47, K47', up47⟩ := F48.after K47 fun q => ncL q.symm
            have nup47 : ∀ b ob, h48.get? b = none → h47.get? b = some ob → B47.get? b = some ob := fun b ob n e => up47 b ob (fun q => by obtain ⟨o', e'⟩ := F48.there; rw [q, e'] at n; cases n) e
            have l47' : ListAt B47 c (ks.refs ++ [.ref a]) := l47.mv fun o e => up47 _ o ncL e
            have i47' : Inst B47 a 80 da es n := ⟨nup47 _ _ na i47.ob, nup47 _ _ nda i47.dt⟩
            have lca' : ListAt B47 ca [] := lca.mv fun o e => nup47 _ o nca e
            have na' : B46.get? a = none := none_of F48.keep na
            have nda' : B46.get? da = none := none_of F48.keep nda
            have nca' : B46.get? ca = none := none_of F48.keep nca
            have lr47 := lr46.kp K47' nrrc
            have lrc47 := lrc46.kp K47' nrcc
            have G47 : Grd w z B47 := G46.kp K47' fun b e => e ▸ T46.I.X.zz _ wc
            have sx8 := sx46'.mv fun o e => K47' _ o (fun q => fr8.1 (q ▸ wc)) e
            have sx77 := sx7.mv fun o e => K47' _ o (fun q => fr7.1 (q ▸ wc)) e
            have th46 : ∀ b ∈ wadr R' f', ∃ o, B47.get? b = some o := fun b hb => by
              by_cases q : b = c
              · rw [q]; exact l47'.there
              · obtain ⟨o, e⟩ := T46.I.X.there b hb; exact ⟨o, K47' _ _ q e⟩
            have eS8 := sx46'.there
            have eS7 := sx7.there
            clear F46 F48 G46 nd46 lr46 lrc46 sx46' sx7 sx42' l47 i47 lca K47 up47 nup47
            iterate 18 walk_at "go"
            rename_i u50 t50
            refine kNewList F47 (by rw [sizeLine_eq]; simp) fun Drc h50 B50 F50 K50 l50 n50 nh50 zz50 => ?_
            iterate 1 walk_at "go"
            refine kNewList F50 (by rw [sizeLine_eq]; simp) fun Dr h51 B51 F51 K51 l51 n51 nh51 zz51 => ?_
            refine lAppend F51 ((lrc47.le K50).le K51) (by rw [sizeLine_eq]; omega) fun h52 B52 F52 K52 l52 => ?_
            have z50 : z ≤ Drc := Nat.le_trans (G47.le F47.keep).size zz50
            have z51 : z ≤ Dr := Nat.le_trans ((G47.le K50).le F50.keep).size zz51
            have nrc50 : ∀ b, B47.get? b = none → b ≠ rc := fun b n q => by obtain ⟨n', e⟩ := lrc47; rw [q, e] at n; cases n
            have sx8' := sx8.mv fun o e => K52 _ o (fun q => fr8.1 (q ▸ wrc)) (K51 _ _ (K50 _ _ e))
            have sx7' := sx77.mv fun o e => K52 _ o (fun q => fr7.1 (q ▸ wrc)) (K51 _ _ (K50 _ _ e))
            clear F47 F50 F51 G47
            iterate 5 walk_at "go"
            refine neSets (by have := rA.un; omega) (sx8'.mv fun o e => F52.keep _ _ e) (sx7'.mv fun o e => F52.keep _ _ e) ?_
            iterate 4 walk_at "go"
            have dn : ∀ b, B47.get? b = none → B46.get? b = none := fun b n => by
              cases q : B46.get? b with
              | none => rfl
              | some ob =>
                by_cases hb : b = c
                · obtain ⟨o, e⟩ := th46 c wc; rw [hb, e] at n; cases n
                · rw [K47' _ _ hb q] at n; cases n
            have hn : ∀ b, B46.get? b = none → ((B46.hide S7).hide S8).get? b = none := fun b n => by
              cases q : ((B46.hide S7).hide S8).get? b with
              | none => rfl
              | some ob => rw [Heap.of_hide (Heap.of_hide q)] at n; cases n
            have TX := (T46.hide fr7 zS7).hide fr8 zS8
            have kX : Kp (fun b => b = c ∨ b = rc) ((B46.hide S7).hide S8) B52 := fun b ob n e => K52 b ob (fun q => n (.inr q)) (K51 _ _ (K50 _ _ (K47' b ob (fun q => n (.inl q)) (Heap.of_hide (Heap.of_hide e)))))
            have up52 : ∀ b ob, b ≠ rc → B47.get? b = some ob → B52.get? b = some ob := fun b ob n e => K52 b ob n (K51 _ _ (K50 _ _ e))
            have wne : ∀ b, B46.get? b = none → b ≠ rc := fun b n q => by obtain ⟨o, e⟩ := T46.I.X.there rc wrc; rw [q, e] at n; cases n
            have hfr : ∀ b ∈ own (⟨a, da, ca, S8, Dr, Drc, S7, Str.ofString "p" ++ x4, Str.ofString "q" ++ x9, SS, sn⟩ : NLab), ((B46.hide S7).hide S8).get? b = none ∧ z ≤ b := by
              refine fcons ⟨hn _ na', za⟩ (fcons ⟨hn _ nda', zda⟩ (fcons ⟨hn _ nca', zca⟩ (fcons ⟨Heap.hide_self _ _, zS8⟩ (fcons ⟨hn _ (dn _ (none_of K50 n51)), z51⟩ (fcons ⟨hn _ (dn _ n50), z50⟩ (fcons ⟨?_, zS7⟩ fnil))))))
              cases q9 : ((B46.hide S7).hide S8).get? S7 with
              | none => rfl
              | some ob9 => have := Heap.of_hide q9; rw [Heap.hide_self] at this; cases this
            have hny : (own (⟨a, da, ca, S8, Dr, Drc, S7, Str.ofString "p" ++ x4, Str.ofString "q" ++ x9, SS, sn⟩ : NLab)).Nodup := by
              have e8 : ∀ b, B46.get? b = none → b ≠ S8 := fun b n q => by obtain ⟨o, e⟩ := eS8; rw [q, e] at n; cases n
              have e7 : ∀ b, B46.get? b = none → b ≠ S7 := fun b n q => by obtain ⟨o, e⟩ := eS7; rw [q, e] at n; cases n
              have f47 : ∀ {x : Addr} {o : Obj}, B47.get? x = some o → x ≠ Dr ∧ x ≠ Drc := fun e => ⟨ne_of e (none_of K50 n51), ne_of e n50⟩
              obtain ⟨o8, eo8⟩ := sx8.there
              obtain ⟨o7, eo7⟩ := sx77.there
              obtain ⟨oca, eca⟩ := lca'.there
              have fa := f47 i47'.ob
              have fda := f47 i47'.dt
              have fca := f47 eca
              have f8 := f47 eo8
              have f7 := f47 eo7
              have frr : Drc ≠ Dr := ne_of l50.choose_spec n51
              simp only [own, List.nodup_cons, List.mem_cons, List.not_mem_nil, or_false, not_or, not_false_eq_true, List.nodup_nil, and_true]
              exact ⟨⟨n1, n2, e8 _ na', fa.1, fa.2, e7 _ na'⟩, ⟨n3, e8 _ nda', fda.1, fda.2, e7 _ nda'⟩, ⟨e8 _ nca', fca.1, fca.2, e7 _ nca'⟩, ⟨f8.1, f8.2, nS87⟩, ⟨frr.symm, f7.1.symm⟩, f7.2.symm⟩
            obtain ⟨XW, szW, hw⟩ := addWhole TX.I.X hs33 (y := (⟨a, da, ca, S8, Dr, Drc, S7, Str.ofString "p" ++ x4, Str.ofString "q" ++ x9, SS, sn⟩ : NLab)) kX (l47'.mv fun o e => up52 _ o (fun q => nrcc q.symm) e) l52
              ⟨⟨es, n, v1, v2, ⟨up52 _ _ (wne _ na') i47'.ob, up52 _ _ (wne _ nda') i47'.dt⟩, g1, g2, g3, g4, g5, esz, g6, g7, g8, g9⟩, ⟨u35, u45, l51.kp K52 (nrc50 _ (none_of K50 n51))⟩, sx8', sx7'⟩
              (lca'.mv fun o e => up52 _ o (wne _ nca') e) ((l50.le K51).kp K52 (nrc50 _ n50)) hfr hny (by omega)
            have T52 := TX.turn (fun b ob n e => kX b ob (fun q => n (q.elim (fun q => q ▸ wc) fun q => q ▸ wrc)) e) XW hw
            refine ⟨rfl, R', _, B52, h52, gg₃, dd₃, _, _, rfl, T52, F52, rfl, rfl, by rw [szW]; omega, kg40, ?_, ?_, ?_⟩
            all_goals walk_at "mf"
      · rename_i u30 t31 hdeed
        iterate 9 walk_at "go"
        · rename_i u60 t60 hd4
          iterate 8 walk_at "go"
          refine kNewList F29 (by rw [sizeLine_eq]; simp) fun De h61 B61 F61 K61 l61 n61 nh61 zz61 => ?_
          refine neNil (by have := rA.un; omega) ((lrc27.le K61).le F61.keep) (l61.le F61.keep) ?_
          have T61 := T27.le K61
          clear F29 T27 G27 nd27 lc27 lr27 lrc27 trk
          generalize hbb : ks.rrefs.isEmpty = bb
          have G61 := T61.I.G
          have ksz' := T61.I.X.sz
          obtain ⟨C, dd, hC, nd61, lc61, ⟨ra1, ra2, ra3, lr61⟩, lrc61, trk61, ksz⟩ := T61.I.X.slotNode hs
          have lks2 : ks.rrefs.length ≤ 40 := by rw [rrefs_tops, List.length_map]; have := tops_len ks; omega
          cases bb with
          | true =>
            repeat' walk_at "go"
            · exfalso; omega
            · refine ⟨rfl, R', f', B61, h61, g26, d26, _, _, rfl, T61, F61, rfl, rfl, by omega, kgn, ?_, ?_, ?_⟩
              all_goals walk_at "mf"
          | false =>
            iterate 21 walk_at "go"
            have lpos : 1 ≤ ks.rrefs.length := by
              cases hq : ks.rrefs with
              | nil => rw [hq] at hbb; cases hbb
              | cons _ _ => simp
            refine kTakeT F61 T61 (rA.le (by omega)) (by omega) (by omega) fun k6 tk6 h62 t63 B62 F62 T62 K62 k60 k61 => ?_
            clear F61 T61 G61 nd61 lc61 lr61 lrc61 trk61
            obtain ⟨kk, hkk⟩ := Int.eq_ofNat_of_zero_le k60
            subst hkk
            obtain ⟨C, dd, hC, nd62, lc62, ⟨rb1, rb2, rb3, lr62⟩, lrc62, trk62, ksz2⟩ := T62.I.X.slotNode hs
            have G62 := T62.I.G
            have lkt : kk < ks.tops.length := by rw [rrefs_tops, List.length_map] at k61; omega
            obtain ⟨v, hv⟩ : ∃ v, ks.tops[kk]? = some v := ⟨_, List.getElem?_eq_getElem lkt⟩
            have r1 : ks.refs[((kk : Nat) : Int).toNat]? = some (.ref v.a) := by rw [refs_tops, List.getElem?_map]; simp [hv]
            have r2 : ks.rrefs[((kk : Nat) : Int).toNat]? = some (.ref v.r) := by rw [rrefs_tops, List.getElem?_map]; simp [hv]
            have tn62 : (ks.tops.map (·.a)).Nodup := tops_nodup ((lsts_sub _ (slots_lsts hs)).nodup T62.I.X.nodA) fun x => by simp [own]
            have ea := erase_at tn62 hv
            have wc : c ∈ wadr R' f' := (lsts_wadr _ (slots_lsts hs)).2
            have wrc : rc ∈ wadr R' f' := (T62.I.X.rowOf _ (slots_rlst hs)).2.2.2.2.1
            have nrrc : rr ≠ c := (T62.I.X.rlst_ne (slots_rlst hs)).1 _ (slots_lsts hs)
            have nrcc : rc ≠ c := (T62.I.X.rlst_ne (slots_rlst hs)).2 _ (slots_lsts hs)
            have lks : ks.refs.length ≤ 40 := by have := refs_le ks; omega
            repeat' walk_at "go"
            rename_i h64 t64 F64 pl t65
            refine removeChild (j := kk) hC (G62.le F64.keep) (rA.le (by omega)) (nd62.mv fun b ob _ e => F64.keep b ob e) (lc62.le F64.keep) (by omega) (x := v.a) (by simpa using r1) ?hI ?ho fun h66 t66 K66 l66 => ?_
            case hI =>
              obtain ⟨es, n, _, _, i, _⟩ := (tops_one trk62 v (List.mem_of_getElem? hv)).nd
              exact ⟨_, es, n, i.le F64.keep⟩
            case ho =>
              intro m' hm'
              obtain ⟨y, hy, hne⟩ := ea.1 m' hm'
              obtain ⟨es, n, _, _, i, _⟩ := (tops_one trk62 y (List.mem_of_getElem? hy)).nd
              exact ⟨y.a, y.d, es, n, by rw [refs_tops, List.getElem?_map, hy]; rfl, hne, i.le F64.keep⟩
            have ncL : c ≠ h.objs.size := F64.off_ne lc62.choose_spec
            obtain ⟨B66, F66, K66', up66⟩ := F64.after K66 fun q => ncL q.symm
            have l66' : ListAt B66 c (ks.refs.eraseIdx kk) := l66.mv fun o e => up66 _ o ncL e
            have lr66 := lr62.kp K66' nrrc
            have lrc66 := lrc62.kp K66' nrcc
            clear F64 G62 nd62 lr62 lrc62 K66 up66
            iterate 1 walk_at "go"
            refine wpAny_Expr_any ?_ (by rfl) (by rfl)
            refine lCall1 (id := "list.pop") (by rfl) (by rfl) (by rfl) PySem.F.slot_list_pop PySem.F.type_list_pop ?_
            iterate 4 walk_at "go"
            refine lOn F66 lrc66 ?_
            iterate 1 walk_at "go"
            refine lPop F66 lrc66 (by rw [sizeLine_eq]; omega) (by omega) r2 fun h67 B67 F67 K67 l67 => ?_
            rw [Int.toNat_natCast] at l67
            obtain ⟨XW, hw⟩ := delWhole T62.I.X hs hv (fun b ob n e => K67 b ob (fun q => n (.inr q)) (K66' b ob (fun q => n (.inl q)) e)) (l66'.kp K67 fun q => nrcc q.symm) l67
            have T67 := T62.turn (fun b ob n e => K67 b ob (fun q => n (q ▸ wrc)) (K66' b ob (fun q => n (q ▸ wc)) e)) XW fun b hb => .inl (hw b hb)
            iterate 2 walk_at "go"
            refine ⟨rfl, R', _, B67, h67, g26, d26, _, _, rfl, T67, F67, rfl, rfl, ?_, kgn, ?_, ?_, ?_⟩
            · have := cutm_size (fun y => decide (y.a = v.a)) (·.rc) f'
              omega
            all_goals walk_at "mf"
        · rename_i u60 t60 hd4
          repeat' walk_at "go"
          · rename_i u61 t61 hd5 u62 t62
            refine kTakeT F29 T27 (rA.le (by omega)) (by decide) (by decide) fun k6 tk6 h62 t63 B62 F62 T62 K62 k60 k61 => ?_
            clear F29 T27 G27 nd27 lc27 lr27 lrc27 trk
            have G62 := T62.I.G
            repeat' walk_at "go"
            refine kTakeT F62 T62 (rA.le (by omega)) (by decide) (by decide) fun k7 tk7 h63 t64 B63 F63 T63 K63 k70 k71 => ?_
            clear F62 T62 G62
            refine kc T63.I.G F63 ?_
            obtain ⟨kn6, hkn6⟩ := Int.eq_ofNat_of_zero_le k60
            subst hkn6
            refine swept_spec (k := kn6) (by omega) (T63.I.G.le F63.keep) (rA.le (by omega)) (T63.I.X.mv F63.keep) fun h64 g64 d64 t65 trc64 f64 kg64 X64 sz64 K64 hw64 => ?_
            have wL : ∀ b ∈ wadr R' f', b ≠ h.objs.size := fun b hb => by
              obtain ⟨o, e⟩ := T63.I.X.there b hb
              exact F63.off_ne e
            obtain ⟨B64, F64, K64', up64⟩ := F63.after K64 fun q => wL _ q rfl
            have hw64' : ∀ b ∈ wadr { R' with trc := trc64 } f64, b ∈ wadr R' f' ∨ B63.get? b = none := fun b hb => (hw64 b hb).imp id fun e => none_of F63.keep e
            have X64' : Whole w z B64 { R' with trc := trc64 } f64 := X64.mvw fun b ob hb e => up64 b ob (fun q => (hw64 b hb).elim (fun m => wL b m q) fun n => by
              obtain ⟨o, e'⟩ := F63.there; rw [q, e'] at n; cases n) e
            have T64 := T63.turn K64' X64' hw64'
            have kg64' := kgn.step kg64 fun _ q => q.elim
            clear F63 T63
            repeat' walk_at "go"
            refine ⟨rfl, _, f64, B64, h64, g64, d64, _, _, rfl, T64, F64, rfl, rfl, by omega, kg64', ?_, ?_, ?_⟩
            all_goals walk_at "mf"
          · refine ⟨rfl, R', f', B27, h29, g26, d26, _, _, rfl, T27, F29, rfl, rfl, by omega, kgn, ?_, ?_, ?_⟩
            all_goals walk_at "mf"
end

theorem trunc (h : Heap) : ∀ n : Nat, n ≤ h.objs.size → (∀ b, n ≤ b → h.get? b = none) → (∃ b o, h.get? b = some o) → ∃ B : Heap, Le h B ∧ Le B h ∧ ∃ y o, y + 1 = B.objs.size ∧ B.get? y = some o
  | 0, _, hn, ⟨b, o, e⟩ => by rw [hn b (Nat.zero_le _)] at e; cases e
  | m + 1, hm, hn, hx => by
    cases q : h.get? m with
    | none =>
      refine trunc h m (by omega) (fun b hb => ?_) hx
      rcases Nat.eq_or_lt_of_le hb with rfl | hb
      · exact q
      · exact hn b hb
    | some om =>
      have sz : (h.objs.extract 0 (m + 1)).size = m + 1 := by rw [Array.size_extract]; omega
      have ge : ∀ b, b < m + 1 → Heap.get? ⟨h.objs.extract 0 (m + 1), h.life⟩ b = h.get? b := fun b hb => by
        have : (h.objs.extract 0 (m + 1))[b]? = h.objs[b]? := by
          rw [Array.getElem?_extract]
          simp only [Nat.zero_add]
          rw [if_pos (by omega)]
        unfold Heap.get?
        rw [this]
      refine ⟨⟨h.objs.extract 0 (m + 1), h.life⟩, fun b o e => ?_, fun b o e => ?_, m, om, sz.symm, (ge m (by omega)).trans q⟩
      · have hb : b < m + 1 := by
          rcases Nat.lt_or_ge b (m + 1) with c | c
          · exact c
          · rw [hn b c] at e; cases e
        rw [ge b hb]; exact e
      · have hb : b < m + 1 := by have := Heap.lt_size e; rwa [sz] at this
        rw [← ge b hb]; exact e
theorem grdOf {w : World} {h : Heap} {mg mb : Str → Option Value} {a : Addr} {o : Obj} (X : (KK w).In h) (T : TopRead vw lo mg mb h) (ha : h.get? a = some o) : ∃ z, Grd w z h := by
  obtain ⟨B, l1, l2, y, ob, e1, e2⟩ := trunc h h.objs.size (Nat.le_refl _) (fun b hb => by
    cases q : h.get? b with
    | none => rfl
    | some ob => exact absurd (Heap.lt_size q) (Nat.not_lt.mpr hb)) ⟨a, o, ha⟩
  exact ⟨B.objs.size, B, mg, mb, X.keeps l1, T.keeps l1, l2, rfl, y, ob, e1, e2⟩
theorem intsVals : ∀ {vs : List Value} {ws : List Int}, IntsAre vs ws → ∀ v ∈ vs, ∃ i t, v = .int i t
  | _, _, .nil, v, hv => by cases hv
  | _, _, .cons n t h, v, hv => by
    rcases List.mem_cons.mp hv with rfl | hv
    · exact ⟨n, t, rfl⟩
    · exact intsVals h v hv
theorem wellList {P : Params} {h : Heap} {a : Addr} {d : WData} {xs : List Value} (w : Well P h (.ref a) d) (hd : ∃ l, d = .list l) (hl : h.IsList a xs.toArray) : ListAt h a xs := by
  obtain ⟨l, rfl⟩ := hd
  cases w with
  | list e _ =>
    obtain ⟨o, e', c, n, q⟩ := hl
    rw [e] at e'
    cases e'
    cases q
    exact ⟨_, e⟩

end Mine
end

open PySem PySem.W PyProof.Rows PySem.Calls PySem.W.X

set_option maxRecDepth 100000 in
set_option maxHeartbeats 4000000 in
theorem PySem.Challenge.cw_jr0001_01_holds : PySem.Challenge.rw_jr0001_01.Holds := by
  refine holds_law Mine.said fun said => ?_
  refine holds_open (q := Mine.vw) (loose := Mine.lo) (Xt := Mine.hdXt) (XP := XL Mine.vw []) (Yf := Hook.obs Mine.hook) (Ya := Hook.val Mine.hook) (YP := Hook.says Mine.hook) (N := 2092)
    Mine.left (Hook.of Mine.hook) (Hook.keeps Mine.hook) (fun s e => xl_of s (Bool.and_eq_true_iff.mp e).1) XL.keeps (by rfl) (by rfl) (by rfl) (fun s e => recFacts_of (Bool.and_eq_true_iff.mp e).2) (by rfl) said (by decide +kernel) ⟨rfl, rfl, rfl, rfl, rfl, by decide +kernel⟩ ?hw ?hc
  case hw => w_witness2
  intro w s₀ s₁ mg mb G Y fa o pm cd doc dV kV ho hd hcd hD hmg hg args vals as hpre hlay hrd hwl hlo
  have KX := kIn_of Y
  have TR := topRead_of G.T
  wrow_args hpre hlay hrd hwl hlo
  rename_i ws hs0 hly0 hLx hrx hlx as0 as1 la vls as2 hL ra w1 r0 hI hrr hc63 htr
  have e147 := mg_of KX G.T.g (n := Str.ofString "law") (v := .ref 147) (by rfl)
  have efa : fa = 147 := by
    have : mg (Str.ofString "law") = some (.ref fa) := hmg
    rw [e147] at this; cases this; rfl
  subst efa
  have TR' : TopRead Mine.vw Mine.lo mg mb s₁.heap := TR
  have lsc : Mine.ListAt s₁.heap la vls := Mine.wellList w1 ⟨_, rfl⟩ hL
  obtain ⟨z, G'⟩ := Mine.grdOf KX TR' ho
  have hlen := hI.length
  have key : ∀ E, wpAny (model Mine.pr w) callerA (call (.ref 147) [.ref la]) (fun v s' => GoodWG PySem.Challenge.rw_jr0001_01.row.claim (classAt s₀.heap) (ExcName.means s₀.heap) [ofPy (PyData.list (List.map PyData.int ws))] s₁ (Except.ok (Flow.ret v)) s') E s₁ := fun E => by
    obtain ⟨hp, g, d, t, os⟩ := s₁
    refine Mine.law_spec G' ⟨rfl, by decide +kernel, by decide +kernel⟩ lsc (Mine.intsVals hI) (by omega) fun h' g' d' t' le kg => ?_
    refine ⟨.inl ⟨_, _, [], rfl, fun _ => rfl, ReadsW.bool true, ?_, fun _ => ⟨List.nodup_nil, fun _ hm => (nomatch hm)⟩⟩, .of_keep le, rfl, kg.2 (.of_eq hg)⟩
    wrow_post
  exact key _
