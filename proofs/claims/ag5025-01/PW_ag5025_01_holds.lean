import PyProof.Rows.All
import Wide.All
import OpenK.AllK
import Wide.FinOn
import PySem.Challenge.RW_ag5025_01
open PySem PySem.W PySem.Calls PyProof.Rows PySem.Spec
set_option Elab.async false
set_option maxRecDepth 100000
namespace Mine
section

abbrev st (i : Nat) : Stmt := PySem.Challenge.pw_ag5025_01.main.body.getD i (.Pass ⟨0, 0, 0, 0⟩)
abbrev sub : Stmt → List Stmt
  | .ClassDef _ _ _ b _ _ _ _ _ _ _ => b
  | _ => []
abbrev sc (i j : Nat) : Stmt := (sub (st i)).getD j (.Pass ⟨0, 0, 0, 0⟩)
abbrev fp : Stmt → Arguments
  | .FunctionDef _ a _ _ _ _ _ _ _ _ => a
  | _ => default
abbrev fb : Stmt → List Stmt
  | .FunctionDef _ _ b _ _ _ _ _ _ _ => b
  | _ => []
abbrev fs : Stmt → Scope
  | .FunctionDef _ _ _ _ _ _ s _ _ _ => s
  | _ => default
abbrev fn (name qual : Str) (s : Stmt) (dV kV doc pm : Value) (an : Option Addr) (cdv ct : Value) : FuncData := fnOf name qual (fp s) (fb s) (fs s) dV kV doc pm an cdv ct
abbrev en (P : Params) (n : Str) (k v : Value) : DictEntry := ⟨PyData.keyHash P n, k, v⟩

/-- the heap behind the top, as far as the law's call reads it -/
def K1 (P : Params) : Frag :=
  (nat_lit 2, { cls := .none, dict := none, data := .dict (List.toArray []) 0, slots := List.toArray [] }) ::
  (nat_lit 3, { cls := .type "dict", dict := none, data := .dict (List.toArray [en P (Str.ofString "__name__") (.str (Str.ofString "__name__") 165) (.str (Str.ofString "law_ag5025_01") 617), en P (Str.ofString "__doc__") (.str (Str.ofString "__doc__") 166) (.none), en P (Str.ofString "__package__") (.str (Str.ofString "__package__") 167) (.none), en P (Str.ofString "__loader__") (.str (Str.ofString "__loader__") 168) (.builtin "__main__.__loader__#opaque"), en P (Str.ofString "__spec__") (.str (Str.ofString "__spec__") 169) (.none), en P (Str.ofString "__annotations__") (.str (Str.ofString "__annotations__") 170) (.ref 6), en P (Str.ofString "__builtins__") (.str (Str.ofString "__builtins__") 171) (.ref 4), en P (Str.ofString "__file__") (.str (Str.ofString "__file__") 173) (.str (Str.ofString "/claim/cut.py") 172), en P (Str.ofString "__cached__") (.str (Str.ofString "__cached__") 174) (.none), en P (Str.ofString "_wall") (.str (Str.ofString "_wall") 193) (.ref 21), en P (Str.ofString "Counter") (.str (Str.ofString "Counter") 263) (.ref 74), en P (Str.ofString "find_ngrams") (.str (Str.ofString "find_ngrams") 271) (.ref 83), en P (Str.ofString "Base") (.str (Str.ofString "Base") 439) (.ref 201), en P (Str.ofString "Levenshtein") (.str (Str.ofString "Levenshtein") 509) (.ref 244), en P (Str.ofString "DamerauLevenshtein") (.str (Str.ofString "DamerauLevenshtein") 588) (.ref 285), en P (Str.ofString "Bag") (.str (Str.ofString "Bag") 616) (.ref 304), en P (Str.ofString "_law_drawn") (.str (Str.ofString "_law_drawn") 628) (.ref 313), en P (Str.ofString "_law_word") (.str (Str.ofString "_law_word") 634) (.ref 318), en P (Str.ofString "_law_turned") (.str (Str.ofString "_law_turned") 646) (.ref 325), en P (Str.ofString "_law_bag") (.str (Str.ofString "_law_bag") 652) (.ref 330), en P (Str.ofString "law") (.str (Str.ofString "law") 658) (.ref 335)]) 21, slots := List.toArray [] }) ::
  (nat_lit 15, { cls := .type "tuple", dict := none, data := .seq (List.toArray []) 0, slots := List.toArray [] }) ::
  (nat_lit 17, { cls := .type "tuple", dict := none, data := .seq (List.toArray [.str (Str.ofString "k") 190]) 0, slots := List.toArray [] }) ::
  (nat_lit 18, { cls := .type "tuple", dict := none, data := .seq (List.toArray []) 0, slots := List.toArray [] }) ::
  (nat_lit 20, { cls := .type "code", dict := none, data := .fields (List.toArray [.str (Str.ofString "_wall") 187, .str (Str.ofString "_wall") 188, .str (Str.ofString "/claim/cut.py") 189, .int (1) 0, .int (1) 0, .int (0) 0, .int (0) 0, .int (3) 0, .ref 15, .bool true, .int (181) 0, .ref 16, .none, .ref 17, .ref 18, .ref 19, .int (191) 0, .int (1) 0, .str (Str.ofString "/claim/cut.py") 192]), slots := List.toArray [] }) ::
  (nat_lit 21, { cls := .type "function", dict := none, data := .func (fn (Str.ofString "_wall") (Str.ofString "_wall") (st 0) (.none) (.none) (.none) (.str (Str.ofString "__main__") 164) none (.ref 20) (.none)), slots := List.toArray [] }) ::
  (nat_lit 22, { cls := .type "tuple", dict := none, data := .seq (List.toArray [.type "dict"]) 0, slots := List.toArray [] }) ::
  (nat_lit 29, { cls := .type "tuple", dict := none, data := .seq (List.toArray []) 0, slots := List.toArray [] }) ::
  (nat_lit 30, { cls := .type "tuple", dict := none, data := .seq (List.toArray [.ref 29]) 0, slots := List.toArray [] }) ::
  (nat_lit 31, { cls := .type "tuple", dict := none, data := .seq (List.toArray []) 0, slots := List.toArray [] }) ::
  (nat_lit 33, { cls := .type "tuple", dict := none, data := .seq (List.toArray [.str (Str.ofString "self") 211, .str (Str.ofString "items") 212, .str (Str.ofString "key") 213]) 0, slots := List.toArray [] }) ::
  (nat_lit 34, { cls := .type "tuple", dict := none, data := .seq (List.toArray []) 0, slots := List.toArray [] }) ::
  (nat_lit 36, { cls := .type "code", dict := none, data := .fields (List.toArray [.str (Str.ofString "__init__") 208, .str (Str.ofString "Counter.__init__") 209, .str (Str.ofString "/claim/cut.py") 210, .int (7) 0, .int (2) 0, .int (0) 0, .int (0) 0, .int (3) 0, .ref 31, .bool true, .int (181) 0, .ref 32, .none, .ref 33, .ref 34, .ref 35, .int (214) 0, .int (7) 0, .str (Str.ofString "/claim/cut.py") 215]), slots := List.toArray [] }) ::
  (nat_lit 37, { cls := .type "function", dict := none, data := .func (fn (Str.ofString "__init__") (Str.ofString "Counter.__init__") (sc 2 0) (.ref 30) (.none) (.none) (.str (Str.ofString "textdistance.outside") 194) none (.ref 36) (.none)), slots := List.toArray [] }) ::
  (nat_lit 38, { cls := .type "tuple", dict := none, data := .seq (List.toArray []) 0, slots := List.toArray [] }) ::
  (nat_lit 40, { cls := .type "tuple", dict := none, data := .seq (List.toArray [.str (Str.ofString "self") 220]) 0, slots := List.toArray [] }) ::
  (nat_lit 41, { cls := .type "tuple", dict := none, data := .seq (List.toArray []) 0, slots := List.toArray [] }) ::
  (nat_lit 43, { cls := .type "code", dict := none, data := .fields (List.toArray [.str (Str.ofString "copy") 217, .str (Str.ofString "Counter.copy") 218, .str (Str.ofString "/claim/cut.py") 219, .int (16) 0, .int (1) 0, .int (0) 0, .int (0) 0, .int (3) 0, .ref 38, .bool true, .int (181) 0, .ref 39, .none, .ref 40, .ref 41, .ref 42, .int (221) 0, .int (16) 0, .str (Str.ofString "/claim/cut.py") 222]), slots := List.toArray [] }) ::
  (nat_lit 44, { cls := .type "function", dict := none, data := .func (fn (Str.ofString "copy") (Str.ofString "Counter.copy") (sc 2 1) (.none) (.none) (.none) (.str (Str.ofString "textdistance.outside") 194) none (.ref 43) (.none)), slots := List.toArray [] }) ::
  (nat_lit 45, { cls := .type "tuple", dict := none, data := .seq (List.toArray []) 0, slots := List.toArray [] }) ::
  (nat_lit 48, { cls := .type "code", dict := none, data := .fields (List.toArray [.str (Str.ofString "__and__") 224, .str (Str.ofString "Counter.__and__") 225, .str (Str.ofString "/claim/cut.py") 226, .int (19) 0, .int (2) 0, .int (0) 0, .int (0) 0, .int (3) 0, .ref 45, .bool true, .int (181) 0, .ref 46, .none, .none, .none, .ref 47, .int (227) 0, .int (19) 0, .str (Str.ofString "/claim/cut.py") 228]), slots := List.toArray [] }) ::
  (nat_lit 49, { cls := .type "function", dict := none, data := .func (fn (Str.ofString "__and__") (Str.ofString "Counter.__and__") (sc 2 2) (.none) (.none) (.none) (.str (Str.ofString "textdistance.outside") 194) none (.ref 48) (.none)), slots := List.toArray [] }) ::
  (nat_lit 50, { cls := .type "tuple", dict := none, data := .seq (List.toArray []) 0, slots := List.toArray [] }) ::
  (nat_lit 53, { cls := .type "code", dict := none, data := .fields (List.toArray [.str (Str.ofString "__or__") 230, .str (Str.ofString "Counter.__or__") 231, .str (Str.ofString "/claim/cut.py") 232, .int (22) 0, .int (2) 0, .int (0) 0, .int (0) 0, .int (3) 0, .ref 50, .bool true, .int (181) 0, .ref 51, .none, .none, .none, .ref 52, .int (233) 0, .int (22) 0, .str (Str.ofString "/claim/cut.py") 234]), slots := List.toArray [] }) ::
  (nat_lit 54, { cls := .type "function", dict := none, data := .func (fn (Str.ofString "__or__") (Str.ofString "Counter.__or__") (sc 2 3) (.none) (.none) (.none) (.str (Str.ofString "textdistance.outside") 194) none (.ref 53) (.none)), slots := List.toArray [] }) ::
  (nat_lit 55, { cls := .type "tuple", dict := none, data := .seq (List.toArray []) 0, slots := List.toArray [] }) ::
  (nat_lit 57, { cls := .type "tuple", dict := none, data := .seq (List.toArray [.str (Str.ofString "self") 239, .str (Str.ofString "other") 240]) 0, slots := List.toArray [] }) ::
  (nat_lit 58, { cls := .type "tuple", dict := none, data := .seq (List.toArray []) 0, slots := List.toArray [] }) ::
  (nat_lit 60, { cls := .type "code", dict := none, data := .fields (List.toArray [.str (Str.ofString "__ior__") 236, .str (Str.ofString "Counter.__ior__") 237, .str (Str.ofString "/claim/cut.py") 238, .int (29) 0, .int (2) 0, .int (0) 0, .int (0) 0, .int (3) 0, .ref 55, .bool true, .int (181) 0, .ref 56, .none, .ref 57, .ref 58, .ref 59, .int (241) 0, .int (29) 0, .str (Str.ofString "/claim/cut.py") 242]), slots := List.toArray [] }) ::
  (nat_lit 61, { cls := .type "function", dict := none, data := .func (fn (Str.ofString "__ior__") (Str.ofString "Counter.__ior__") (sc 2 4) (.none) (.none) (.none) (.str (Str.ofString "textdistance.outside") 194) none (.ref 60) (.none)), slots := List.toArray [] }) ::
  (nat_lit 62, { cls := .type "tuple", dict := none, data := .seq (List.toArray []) 0, slots := List.toArray [] }) ::
  (nat_lit 65, { cls := .type "code", dict := none, data := .fields (List.toArray [.str (Str.ofString "__add__") 244, .str (Str.ofString "Counter.__add__") 245, .str (Str.ofString "/claim/cut.py") 246, .int (32) 0, .int (2) 0, .int (0) 0, .int (0) 0, .int (3) 0, .ref 62, .bool true, .int (181) 0, .ref 63, .none, .none, .none, .ref 64, .int (247) 0, .int (32) 0, .str (Str.ofString "/claim/cut.py") 248]), slots := List.toArray [] }) ::
  (nat_lit 66, { cls := .type "function", dict := none, data := .func (fn (Str.ofString "__add__") (Str.ofString "Counter.__add__") (sc 2 5) (.none) (.none) (.none) (.str (Str.ofString "textdistance.outside") 194) none (.ref 65) (.none)), slots := List.toArray [] }) ::
  (nat_lit 67, { cls := .type "tuple", dict := none, data := .seq (List.toArray []) 0, slots := List.toArray [] }) ::
  (nat_lit 70, { cls := .type "code", dict := none, data := .fields (List.toArray [.str (Str.ofString "__sub__") 250, .str (Str.ofString "Counter.__sub__") 251, .str (Str.ofString "/claim/cut.py") 252, .int (39) 0, .int (2) 0, .int (0) 0, .int (0) 0, .int (3) 0, .ref 67, .bool true, .int (181) 0, .ref 68, .none, .none, .none, .ref 69, .int (253) 0, .int (39) 0, .str (Str.ofString "/claim/cut.py") 254]), slots := List.toArray [] }) ::
  (nat_lit 71, { cls := .type "function", dict := none, data := .func (fn (Str.ofString "__sub__") (Str.ofString "Counter.__sub__") (sc 2 6) (.none) (.none) (.none) (.str (Str.ofString "textdistance.outside") 194) none (.ref 70) (.none)), slots := List.toArray [] }) ::
  (nat_lit 72, { cls := .type "tuple", dict := none, data := .seq (List.toArray []) 0, slots := List.toArray [] }) ::
  (nat_lit 73, { cls := .type "dict", dict := none, data := .dict (List.toArray [en P (Str.ofString "__module__") (.str (Str.ofString "__module__") 203) (.str (Str.ofString "textdistance.outside") 194), en P (Str.ofString "__firstlineno__") (.str (Str.ofString "__firstlineno__") 207) (.int (5) 206), en P (Str.ofString "__init__") (.str (Str.ofString "__init__") 216) (.ref 37), en P (Str.ofString "copy") (.str (Str.ofString "copy") 223) (.ref 44), en P (Str.ofString "__and__") (.str (Str.ofString "__and__") 229) (.ref 49), en P (Str.ofString "__or__") (.str (Str.ofString "__or__") 235) (.ref 54), en P (Str.ofString "__ior__") (.str (Str.ofString "__ior__") 243) (.ref 61), en P (Str.ofString "__add__") (.str (Str.ofString "__add__") 249) (.ref 66), en P (Str.ofString "__sub__") (.str (Str.ofString "__sub__") 255) (.ref 71), en P (Str.ofString "__static_attributes__") (.str (Str.ofString "__static_attributes__") 256) (.ref 72), en P (Str.ofString "__dict__") (.str (Str.ofString "__dict__") 258) (.ref 75), en P (Str.ofString "__weakref__") (.str (Str.ofString "__weakref__") 260) (.ref 76), en P (Str.ofString "__doc__") (.str (Str.ofString "__doc__") 261) (.none)]) 4, slots := List.toArray [] }) ::
  (nat_lit 74, { cls := .type "type", dict := none, data := .cls { name := (Str.ofString "Counter"), bases := [.type "dict"], mro := [.ref 74, .type "dict", .type "object"], ns := 73, qualname := (Str.ofString "Counter"), hasDict := true, slotNames := [], subclasses := [], abstract := false, collection := none, hasDel := false }, slots := List.toArray [some (.ref 22), none, some (.str (Str.ofString "Counter") 196), some (.str (Str.ofString "Counter") 204), some (.builtin "dict.__new__"), some (.bool true)] }) ::
  (nat_lit 75, { cls := .type "getset_descriptor", dict := none, data := .fields (List.toArray [.str (Str.ofString "__dict__") 257, .ref 74, .builtin "function.__dict__", .builtin "function.__dict__#set"]), slots := List.toArray [] }) ::
  (nat_lit 76, { cls := .type "getset_descriptor", dict := none, data := .fields (List.toArray [.str (Str.ofString "__weakref__") 259, .ref 74, .builtin "ExceptionGroup.__weakref__", .none]), slots := List.toArray [] }) ::
  (nat_lit 79, { cls := .type "tuple", dict := none, data := .seq (List.toArray []) 0, slots := List.toArray [] }) ::
  (nat_lit 82, { cls := .type "code", dict := none, data := .fields (List.toArray [.str (Str.ofString "find_ngrams") 266, .str (Str.ofString "find_ngrams") 267, .str (Str.ofString "/claim/cut.py") 268, .int (43) 0, .int (2) 0, .int (0) 0, .int (0) 0, .int (3) 0, .ref 79, .bool true, .int (181) 0, .ref 80, .none, .none, .none, .ref 81, .int (269) 0, .int (43) 0, .str (Str.ofString "/claim/cut.py") 270]), slots := List.toArray [] }) ::
  (nat_lit 83, { cls := .type "function", dict := none, data := .func (fn (Str.ofString "find_ngrams") (Str.ofString "find_ngrams") (st 4) (.none) (.none) (.none) (.str (Str.ofString "textdistance.utils") 264) none (.ref 82) (.none)), slots := List.toArray [] }) ::
  (nat_lit 91, { cls := .type "tuple", dict := none, data := .seq (List.toArray [.int (1) 286, .bool true]) 0, slots := List.toArray [] }) ::
  (nat_lit 92, { cls := .type "tuple", dict := none, data := .seq (List.toArray []) 0, slots := List.toArray [] }) ::
  (nat_lit 94, { cls := .type "tuple", dict := none, data := .seq (List.toArray [.str (Str.ofString "self") 290, .str (Str.ofString "qval") 291, .str (Str.ofString "external") 292]) 0, slots := List.toArray [] }) ::
  (nat_lit 95, { cls := .type "tuple", dict := none, data := .seq (List.toArray []) 0, slots := List.toArray [] }) ::
  (nat_lit 97, { cls := .type "code", dict := none, data := .fields (List.toArray [.str (Str.ofString "__init__") 287, .str (Str.ofString "Base.__init__") 288, .str (Str.ofString "/claim/cut.py") 289, .int (48) 0, .int (3) 0, .int (0) 0, .int (0) 0, .int (3) 0, .ref 92, .bool true, .int (181) 0, .ref 93, .none, .ref 94, .ref 95, .ref 96, .int (293) 0, .int (48) 0, .str (Str.ofString "/claim/cut.py") 294]), slots := List.toArray [] }) ::
  (nat_lit 98, { cls := .type "function", dict := none, data := .func (fn (Str.ofString "__init__") (Str.ofString "Base.__init__") (sc 6 0) (.ref 91) (.none) (.none) (.str (Str.ofString "textdistance.algorithms.base") 272) none (.ref 97) (.none)), slots := List.toArray [] }) ::
  (nat_lit 99, { cls := .type "tuple", dict := none, data := .seq (List.toArray []) 0, slots := List.toArray [] }) ::
  (nat_lit 101, { cls := .type "tuple", dict := none, data := .seq (List.toArray [.str (Str.ofString "self") 299, .str (Str.ofString "sequences") 300]) 0, slots := List.toArray [] }) ::
  (nat_lit 102, { cls := .type "tuple", dict := none, data := .seq (List.toArray []) 0, slots := List.toArray [] }) ::
  (nat_lit 104, { cls := .type "code", dict := none, data := .fields (List.toArray [.str (Str.ofString "__call__") 296, .str (Str.ofString "Base.__call__") 297, .str (Str.ofString "/claim/cut.py") 298, .int (52) 0, .int (1) 0, .int (0) 0, .int (0) 0, .int (7) 0, .ref 99, .bool true, .int (181) 0, .ref 100, .none, .ref 101, .ref 102, .ref 103, .int (301) 0, .int (52) 0, .str (Str.ofString "/claim/cut.py") 302]), slots := List.toArray [] }) ::
  (nat_lit 105, { cls := .type "function", dict := none, data := .func (fn (Str.ofString "__call__") (Str.ofString "Base.__call__") (sc 6 1) (.none) (.none) (.none) (.str (Str.ofString "textdistance.algorithms.base") 272) none (.ref 104) (.none)), slots := List.toArray [] }) ::
  (nat_lit 106, { cls := .type "tuple", dict := none, data := .seq (List.toArray []) 0, slots := List.toArray [] }) ::
  (nat_lit 108, { cls := .type "tuple", dict := none, data := .seq (List.toArray [.str (Str.ofString "sequences") 307]) 0, slots := List.toArray [] }) ::
  (nat_lit 109, { cls := .type "tuple", dict := none, data := .seq (List.toArray []) 0, slots := List.toArray [] }) ::
  (nat_lit 111, { cls := .type "code", dict := none, data := .fields (List.toArray [.str (Str.ofString "maximum") 304, .str (Str.ofString "Base.maximum") 305, .str (Str.ofString "/claim/cut.py") 306, .int (55) 0, .int (0) 0, .int (0) 0, .int (0) 0, .int (7) 0, .ref 106, .bool true, .int (181) 0, .ref 107, .none, .ref 108, .ref 109, .ref 110, .int (308) 0, .int (55) 0, .str (Str.ofString "/claim/cut.py") 309]), slots := List.toArray [] }) ::
  (nat_lit 112, { cls := .type "function", dict := none, data := .func (fn (Str.ofString "maximum") (Str.ofString "Base.maximum") (sc 6 2) (.none) (.none) (.none) (.str (Str.ofString "textdistance.algorithms.base") 272) (some 115) (.ref 111) (.none)), slots := List.toArray [] }) ::
  (nat_lit 113, { cls := .type "dict", dict := none, data := .dict (List.toArray [en P (Str.ofString "__module__") (.str (Str.ofString "__module__") 311) (.str (Str.ofString "textdistance.algorithms.base") 272), en P (Str.ofString "__name__") (.str (Str.ofString "__name__") 314) (.str (Str.ofString "maximum") 313), en P (Str.ofString "__qualname__") (.str (Str.ofString "__qualname__") 317) (.str (Str.ofString "Base.maximum") 316), en P (Str.ofString "__doc__") (.str (Str.ofString "__doc__") 319) (.none), en P (Str.ofString "__annotations__") (.str (Str.ofString "__annotations__") 321) (.ref 115)]) 5, slots := List.toArray [] }) ::
  (nat_lit 114, { cls := .type "staticmethod", dict := (some 113), data := .fields (List.toArray [.ref 112, .bool false]), slots := List.toArray [] }) ::
  (nat_lit 115, { cls := .type "dict", dict := none, data := .dict (List.toArray []) 0, slots := List.toArray [] }) ::
  (nat_lit 116, { cls := .type "tuple", dict := none, data := .seq (List.toArray []) 0, slots := List.toArray [] }) ::
  (nat_lit 118, { cls := .type "tuple", dict := none, data := .seq (List.toArray [.str (Str.ofString "self") 326, .str (Str.ofString "sequences") 327]) 0, slots := List.toArray [] }) ::
  (nat_lit 119, { cls := .type "tuple", dict := none, data := .seq (List.toArray []) 0, slots := List.toArray [] }) ::
  (nat_lit 121, { cls := .type "code", dict := none, data := .fields (List.toArray [.str (Str.ofString "distance") 323, .str (Str.ofString "Base.distance") 324, .str (Str.ofString "/claim/cut.py") 325, .int (59) 0, .int (1) 0, .int (0) 0, .int (0) 0, .int (7) 0, .ref 116, .bool true, .int (181) 0, .ref 117, .none, .ref 118, .ref 119, .ref 120, .int (328) 0, .int (59) 0, .str (Str.ofString "/claim/cut.py") 329]), slots := List.toArray [] }) ::
  (nat_lit 122, { cls := .type "function", dict := none, data := .func (fn (Str.ofString "distance") (Str.ofString "Base.distance") (sc 6 3) (.none) (.none) (.none) (.str (Str.ofString "textdistance.algorithms.base") 272) none (.ref 121) (.none)), slots := List.toArray [] }) ::
  (nat_lit 123, { cls := .type "tuple", dict := none, data := .seq (List.toArray []) 0, slots := List.toArray [] }) ::
  (nat_lit 125, { cls := .type "tuple", dict := none, data := .seq (List.toArray [.str (Str.ofString "self") 334, .str (Str.ofString "sequences") 335]) 0, slots := List.toArray [] }) ::
  (nat_lit 126, { cls := .type "tuple", dict := none, data := .seq (List.toArray []) 0, slots := List.toArray [] }) ::
  (nat_lit 128, { cls := .type "code", dict := none, data := .fields (List.toArray [.str (Str.ofString "similarity") 331, .str (Str.ofString "Base.similarity") 332, .str (Str.ofString "/claim/cut.py") 333, .int (62) 0, .int (1) 0, .int (0) 0, .int (0) 0, .int (7) 0, .ref 123, .bool true, .int (181) 0, .ref 124, .none, .ref 125, .ref 126, .ref 127, .int (336) 0, .int (62) 0, .str (Str.ofString "/claim/cut.py") 337]), slots := List.toArray [] }) ::
  (nat_lit 129, { cls := .type "function", dict := none, data := .func (fn (Str.ofString "similarity") (Str.ofString "Base.similarity") (sc 6 4) (.none) (.none) (.none) (.str (Str.ofString "textdistance.algorithms.base") 272) none (.ref 128) (.none)), slots := List.toArray [] }) ::
  (nat_lit 130, { cls := .type "tuple", dict := none, data := .seq (List.toArray []) 0, slots := List.toArray [] }) ::
  (nat_lit 132, { cls := .type "tuple", dict := none, data := .seq (List.toArray [.str (Str.ofString "self") 342, .str (Str.ofString "sequences") 343]) 0, slots := List.toArray [] }) ::
  (nat_lit 133, { cls := .type "tuple", dict := none, data := .seq (List.toArray []) 0, slots := List.toArray [] }) ::
  (nat_lit 135, { cls := .type "code", dict := none, data := .fields (List.toArray [.str (Str.ofString "normalized_distance") 339, .str (Str.ofString "Base.normalized_distance") 340, .str (Str.ofString "/claim/cut.py") 341, .int (65) 0, .int (1) 0, .int (0) 0, .int (0) 0, .int (7) 0, .ref 130, .bool true, .int (181) 0, .ref 131, .none, .ref 132, .ref 133, .ref 134, .int (344) 0, .int (65) 0, .str (Str.ofString "/claim/cut.py") 345]), slots := List.toArray [] }) ::
  (nat_lit 136, { cls := .type "function", dict := none, data := .func (fn (Str.ofString "normalized_distance") (Str.ofString "Base.normalized_distance") (sc 6 5) (.none) (.none) (.none) (.str (Str.ofString "textdistance.algorithms.base") 272) none (.ref 135) (.none)), slots := List.toArray [] }) ::
  (nat_lit 137, { cls := .type "tuple", dict := none, data := .seq (List.toArray []) 0, slots := List.toArray [] }) ::
  (nat_lit 139, { cls := .type "tuple", dict := none, data := .seq (List.toArray [.str (Str.ofString "self") 350, .str (Str.ofString "sequences") 351]) 0, slots := List.toArray [] }) ::
  (nat_lit 140, { cls := .type "tuple", dict := none, data := .seq (List.toArray []) 0, slots := List.toArray [] }) ::
  (nat_lit 142, { cls := .type "code", dict := none, data := .fields (List.toArray [.str (Str.ofString "normalized_similarity") 347, .str (Str.ofString "Base.normalized_similarity") 348, .str (Str.ofString "/claim/cut.py") 349, .int (68) 0, .int (1) 0, .int (0) 0, .int (0) 0, .int (7) 0, .ref 137, .bool true, .int (181) 0, .ref 138, .none, .ref 139, .ref 140, .ref 141, .int (352) 0, .int (68) 0, .str (Str.ofString "/claim/cut.py") 353]), slots := List.toArray [] }) ::
  (nat_lit 143, { cls := .type "function", dict := none, data := .func (fn (Str.ofString "normalized_similarity") (Str.ofString "Base.normalized_similarity") (sc 6 6) (.none) (.none) (.none) (.str (Str.ofString "textdistance.algorithms.base") 272) none (.ref 142) (.none)), slots := List.toArray [] }) ::
  (nat_lit 144, { cls := .type "tuple", dict := none, data := .seq (List.toArray []) 0, slots := List.toArray [] }) ::
  (nat_lit 146, { cls := .type "tuple", dict := none, data := .seq (List.toArray [.str (Str.ofString "self") 358, .str (Str.ofString "sequences") 359]) 0, slots := List.toArray [] }) ::
  (nat_lit 147, { cls := .type "tuple", dict := none, data := .seq (List.toArray []) 0, slots := List.toArray [] }) ::
  (nat_lit 149, { cls := .type "code", dict := none, data := .fields (List.toArray [.str (Str.ofString "quick_answer") 355, .str (Str.ofString "Base.quick_answer") 356, .str (Str.ofString "/claim/cut.py") 357, .int (71) 0, .int (1) 0, .int (0) 0, .int (0) 0, .int (7) 0, .ref 144, .bool true, .int (181) 0, .ref 145, .none, .ref 146, .ref 147, .ref 148, .int (360) 0, .int (71) 0, .str (Str.ofString "/claim/cut.py") 361]), slots := List.toArray [] }) ::
  (nat_lit 150, { cls := .type "function", dict := none, data := .func (fn (Str.ofString "quick_answer") (Str.ofString "Base.quick_answer") (sc 6 7) (.none) (.none) (.none) (.str (Str.ofString "textdistance.algorithms.base") 272) none (.ref 149) (.none)), slots := List.toArray [] }) ::
  (nat_lit 151, { cls := .type "tuple", dict := none, data := .seq (List.toArray []) 0, slots := List.toArray [] }) ::
  (nat_lit 153, { cls := .type "tuple", dict := none, data := .seq (List.toArray [.str (Str.ofString "elements") 366, .str (Str.ofString "e1") 367, .str (Str.ofString "e2") 368]) 0, slots := List.toArray [] }) ::
  (nat_lit 154, { cls := .type "tuple", dict := none, data := .seq (List.toArray []) 0, slots := List.toArray [] }) ::
  (nat_lit 156, { cls := .type "code", dict := none, data := .fields (List.toArray [.str (Str.ofString "_ident") 363, .str (Str.ofString "Base._ident") 364, .str (Str.ofString "/claim/cut.py") 365, .int (82) 0, .int (0) 0, .int (0) 0, .int (0) 0, .int (7) 0, .ref 151, .bool true, .int (181) 0, .ref 152, .none, .ref 153, .ref 154, .ref 155, .int (369) 0, .int (82) 0, .str (Str.ofString "/claim/cut.py") 370]), slots := List.toArray [] }) ::
  (nat_lit 157, { cls := .type "function", dict := none, data := .func (fn (Str.ofString "_ident") (Str.ofString "Base._ident") (sc 6 8) (.none) (.none) (.none) (.str (Str.ofString "textdistance.algorithms.base") 272) (some 160) (.ref 156) (.none)), slots := List.toArray [] }) ::
  (nat_lit 158, { cls := .type "dict", dict := none, data := .dict (List.toArray [en P (Str.ofString "__module__") (.str (Str.ofString "__module__") 372) (.str (Str.ofString "textdistance.algorithms.base") 272), en P (Str.ofString "__name__") (.str (Str.ofString "__name__") 375) (.str (Str.ofString "_ident") 374), en P (Str.ofString "__qualname__") (.str (Str.ofString "__qualname__") 378) (.str (Str.ofString "Base._ident") 377), en P (Str.ofString "__doc__") (.str (Str.ofString "__doc__") 380) (.none), en P (Str.ofString "__annotations__") (.str (Str.ofString "__annotations__") 382) (.ref 160)]) 5, slots := List.toArray [] }) ::
  (nat_lit 159, { cls := .type "staticmethod", dict := (some 158), data := .fields (List.toArray [.ref 157, .bool false]), slots := List.toArray [] }) ::
  (nat_lit 160, { cls := .type "dict", dict := none, data := .dict (List.toArray []) 0, slots := List.toArray [] }) ::
  (nat_lit 161, { cls := .type "tuple", dict := none, data := .seq (List.toArray []) 0, slots := List.toArray [] }) ::
  (nat_lit 164, { cls := .type "code", dict := none, data := .fields (List.toArray [.str (Str.ofString "_get_sequences") 384, .str (Str.ofString "Base._get_sequences") 385, .str (Str.ofString "/claim/cut.py") 386, .int (92) 0, .int (1) 0, .int (0) 0, .int (0) 0, .int (7) 0, .ref 161, .bool true, .int (181) 0, .ref 162, .none, .none, .none, .ref 163, .int (387) 0, .int (92) 0, .str (Str.ofString "/claim/cut.py") 388]), slots := List.toArray [] }) ::
  (nat_lit 165, { cls := .type "function", dict := none, data := .func (fn (Str.ofString "_get_sequences") (Str.ofString "Base._get_sequences") (sc 6 9) (.none) (.none) (.none) (.str (Str.ofString "textdistance.algorithms.base") 272) none (.ref 164) (.none)), slots := List.toArray [] }) ::
  (nat_lit 166, { cls := .type "tuple", dict := none, data := .seq (List.toArray []) 0, slots := List.toArray [] }) ::
  (nat_lit 169, { cls := .type "code", dict := none, data := .fields (List.toArray [.str (Str.ofString "_get_counters") 390, .str (Str.ofString "Base._get_counters") 391, .str (Str.ofString "/claim/cut.py") 392, .int (99) 0, .int (1) 0, .int (0) 0, .int (0) 0, .int (7) 0, .ref 166, .bool true, .int (181) 0, .ref 167, .none, .none, .none, .ref 168, .int (393) 0, .int (99) 0, .str (Str.ofString "/claim/cut.py") 394]), slots := List.toArray [] }) ::
  (nat_lit 170, { cls := .type "function", dict := none, data := .func (fn (Str.ofString "_get_counters") (Str.ofString "Base._get_counters") (sc 6 10) (.none) (.none) (.none) (.str (Str.ofString "textdistance.algorithms.base") 272) none (.ref 169) (.none)), slots := List.toArray [] }) ::
  (nat_lit 171, { cls := .type "tuple", dict := none, data := .seq (List.toArray []) 0, slots := List.toArray [] }) ::
  (nat_lit 173, { cls := .type "tuple", dict := none, data := .seq (List.toArray [.str (Str.ofString "self") 399, .str (Str.ofString "sequences") 400, .str (Str.ofString "intersection") 401, .str (Str.ofString "s") 402]) 0, slots := List.toArray [] }) ::
  (nat_lit 174, { cls := .type "tuple", dict := none, data := .seq (List.toArray []) 0, slots := List.toArray [] }) ::
  (nat_lit 176, { cls := .type "code", dict := none, data := .fields (List.toArray [.str (Str.ofString "_intersect_counters") 396, .str (Str.ofString "Base._intersect_counters") 397, .str (Str.ofString "/claim/cut.py") 398, .int (104) 0, .int (1) 0, .int (0) 0, .int (0) 0, .int (7) 0, .ref 171, .bool true, .int (181) 0, .ref 172, .none, .ref 173, .ref 174, .ref 175, .int (403) 0, .int (104) 0, .str (Str.ofString "/claim/cut.py") 404]), slots := List.toArray [] }) ::
  (nat_lit 177, { cls := .type "function", dict := none, data := .func (fn (Str.ofString "_intersect_counters") (Str.ofString "Base._intersect_counters") (sc 6 11) (.none) (.none) (.none) (.str (Str.ofString "textdistance.algorithms.base") 272) none (.ref 176) (.none)), slots := List.toArray [] }) ::
  (nat_lit 178, { cls := .type "tuple", dict := none, data := .seq (List.toArray []) 0, slots := List.toArray [] }) ::
  (nat_lit 180, { cls := .type "tuple", dict := none, data := .seq (List.toArray [.str (Str.ofString "self") 409, .str (Str.ofString "sequences") 410]) 0, slots := List.toArray [] }) ::
  (nat_lit 181, { cls := .type "tuple", dict := none, data := .seq (List.toArray []) 0, slots := List.toArray [] }) ::
  (nat_lit 183, { cls := .type "code", dict := none, data := .fields (List.toArray [.str (Str.ofString "_union_counters") 406, .str (Str.ofString "Base._union_counters") 407, .str (Str.ofString "/claim/cut.py") 408, .int (110) 0, .int (1) 0, .int (0) 0, .int (0) 0, .int (7) 0, .ref 178, .bool true, .int (181) 0, .ref 179, .none, .ref 180, .ref 181, .ref 182, .int (411) 0, .int (110) 0, .str (Str.ofString "/claim/cut.py") 412]), slots := List.toArray [] }) ::
  (nat_lit 184, { cls := .type "function", dict := none, data := .func (fn (Str.ofString "_union_counters") (Str.ofString "Base._union_counters") (sc 6 12) (.none) (.none) (.none) (.str (Str.ofString "textdistance.algorithms.base") 272) none (.ref 183) (.none)), slots := List.toArray [] }) ::
  (nat_lit 185, { cls := .type "tuple", dict := none, data := .seq (List.toArray []) 0, slots := List.toArray [] }) ::
  (nat_lit 187, { cls := .type "tuple", dict := none, data := .seq (List.toArray [.str (Str.ofString "self") 417, .str (Str.ofString "sequences") 418]) 0, slots := List.toArray [] }) ::
  (nat_lit 188, { cls := .type "tuple", dict := none, data := .seq (List.toArray []) 0, slots := List.toArray [] }) ::
  (nat_lit 190, { cls := .type "code", dict := none, data := .fields (List.toArray [.str (Str.ofString "_sum_counters") 414, .str (Str.ofString "Base._sum_counters") 415, .str (Str.ofString "/claim/cut.py") 416, .int (113) 0, .int (1) 0, .int (0) 0, .int (0) 0, .int (7) 0, .ref 185, .bool true, .int (181) 0, .ref 186, .none, .ref 187, .ref 188, .ref 189, .int (419) 0, .int (113) 0, .str (Str.ofString "/claim/cut.py") 420]), slots := List.toArray [] }) ::
  (nat_lit 191, { cls := .type "function", dict := none, data := .func (fn (Str.ofString "_sum_counters") (Str.ofString "Base._sum_counters") (sc 6 13) (.none) (.none) (.none) (.str (Str.ofString "textdistance.algorithms.base") 272) none (.ref 190) (.none)), slots := List.toArray [] }) ::
  (nat_lit 192, { cls := .type "tuple", dict := none, data := .seq (List.toArray []) 0, slots := List.toArray [] }) ::
  (nat_lit 194, { cls := .type "tuple", dict := none, data := .seq (List.toArray [.str (Str.ofString "self") 425, .str (Str.ofString "counter") 426]) 0, slots := List.toArray [] }) ::
  (nat_lit 195, { cls := .type "tuple", dict := none, data := .seq (List.toArray []) 0, slots := List.toArray [] }) ::
  (nat_lit 197, { cls := .type "code", dict := none, data := .fields (List.toArray [.str (Str.ofString "_count_counters") 422, .str (Str.ofString "Base._count_counters") 423, .str (Str.ofString "/claim/cut.py") 424, .int (116) 0, .int (2) 0, .int (0) 0, .int (0) 0, .int (3) 0, .ref 192, .bool true, .int (181) 0, .ref 193, .none, .ref 194, .ref 195, .ref 196, .int (427) 0, .int (116) 0, .str (Str.ofString "/claim/cut.py") 428]), slots := List.toArray [] }) ::
  (nat_lit 198, { cls := .type "function", dict := none, data := .func (fn (Str.ofString "_count_counters") (Str.ofString "Base._count_counters") (sc 6 14) (.none) (.none) (.none) (.str (Str.ofString "textdistance.algorithms.base") 272) none (.ref 197) (.none)), slots := List.toArray [] }) ::
  (nat_lit 199, { cls := .type "tuple", dict := none, data := .seq (List.toArray [.str (Str.ofString "external") 430, .str (Str.ofString "qval") 431]) 0, slots := List.toArray [] }) ::
  (nat_lit 200, { cls := .type "dict", dict := none, data := .dict (List.toArray [en P (Str.ofString "__module__") (.str (Str.ofString "__module__") 281) (.str (Str.ofString "textdistance.algorithms.base") 272), en P (Str.ofString "__firstlineno__") (.str (Str.ofString "__firstlineno__") 285) (.int (46) 284), en P (Str.ofString "__init__") (.str (Str.ofString "__init__") 295) (.ref 98), en P (Str.ofString "__call__") (.str (Str.ofString "__call__") 303) (.ref 105), en P (Str.ofString "maximum") (.str (Str.ofString "maximum") 322) (.ref 114), en P (Str.ofString "distance") (.str (Str.ofString "distance") 330) (.ref 122), en P (Str.ofString "similarity") (.str (Str.ofString "similarity") 338) (.ref 129), en P (Str.ofString "normalized_distance") (.str (Str.ofString "normalized_distance") 346) (.ref 136), en P (Str.ofString "normalized_similarity") (.str (Str.ofString "normalized_similarity") 354) (.ref 143), en P (Str.ofString "quick_answer") (.str (Str.ofString "quick_answer") 362) (.ref 150), en P (Str.ofString "_ident") (.str (Str.ofString "_ident") 383) (.ref 159), en P (Str.ofString "_get_sequences") (.str (Str.ofString "_get_sequences") 389) (.ref 165), en P (Str.ofString "_get_counters") (.str (Str.ofString "_get_counters") 395) (.ref 170), en P (Str.ofString "_intersect_counters") (.str (Str.ofString "_intersect_counters") 405) (.ref 177), en P (Str.ofString "_union_counters") (.str (Str.ofString "_union_counters") 413) (.ref 184), en P (Str.ofString "_sum_counters") (.str (Str.ofString "_sum_counters") 421) (.ref 191), en P (Str.ofString "_count_counters") (.str (Str.ofString "_count_counters") 429) (.ref 198), en P (Str.ofString "__static_attributes__") (.str (Str.ofString "__static_attributes__") 432) (.ref 199), en P (Str.ofString "__dict__") (.str (Str.ofString "__dict__") 434) (.ref 202), en P (Str.ofString "__weakref__") (.str (Str.ofString "__weakref__") 436) (.ref 203), en P (Str.ofString "__doc__") (.str (Str.ofString "__doc__") 437) (.none)]) 4, slots := List.toArray [] }) ::
  (nat_lit 201, { cls := .type "type", dict := none, data := .cls { name := (Str.ofString "Base"), bases := [.type "object"], mro := [.ref 201, .type "object"], ns := 200, qualname := (Str.ofString "Base"), hasDict := true, slotNames := [], subclasses := [.ref 244, .ref 285, .ref 304], abstract := false, collection := none, hasDel := false }, slots := List.toArray [none, none, some (.str (Str.ofString "Base") 274), some (.str (Str.ofString "Base") 282), some (.builtin "object.__new__"), some (.bool true)] }) ::
  (nat_lit 202, { cls := .type "getset_descriptor", dict := none, data := .fields (List.toArray [.str (Str.ofString "__dict__") 433, .ref 201, .builtin "function.__dict__", .builtin "function.__dict__#set"]), slots := List.toArray [] }) ::
  (nat_lit 203, { cls := .type "getset_descriptor", dict := none, data := .fields (List.toArray [.str (Str.ofString "__weakref__") 435, .ref 201, .builtin "ExceptionGroup.__weakref__", .none]), slots := List.toArray [] }) ::
  (nat_lit 206, { cls := .type "tuple", dict := none, data := .seq (List.toArray [.ref 201]) 0, slots := List.toArray [] }) ::
  (nat_lit 213, { cls := .type "tuple", dict := none, data := .seq (List.toArray [.int (1) 454, .none, .bool true]) 0, slots := List.toArray [] }) ::
  (nat_lit 214, { cls := .type "tuple", dict := none, data := .seq (List.toArray []) 0, slots := List.toArray [] }) ::
  (nat_lit 216, { cls := .type "tuple", dict := none, data := .seq (List.toArray [.str (Str.ofString "self") 458, .str (Str.ofString "qval") 459, .str (Str.ofString "test_func") 460, .str (Str.ofString "external") 461]) 0, slots := List.toArray [] }) ::
  (nat_lit 217, { cls := .type "tuple", dict := none, data := .seq (List.toArray []) 0, slots := List.toArray [] }) ::
  (nat_lit 219, { cls := .type "code", dict := none, data := .fields (List.toArray [.str (Str.ofString "__init__") 455, .str (Str.ofString "Levenshtein.__init__") 456, .str (Str.ofString "/claim/cut.py") 457, .int (124) 0, .int (4) 0, .int (0) 0, .int (0) 0, .int (3) 0, .ref 214, .bool true, .int (181) 0, .ref 215, .none, .ref 216, .ref 217, .ref 218, .int (462) 0, .int (124) 0, .str (Str.ofString "/claim/cut.py") 463]), slots := List.toArray [] }) ::
  (nat_lit 220, { cls := .type "function", dict := none, data := .func (fn (Str.ofString "__init__") (Str.ofString "Levenshtein.__init__") (sc 8 0) (.ref 213) (.none) (.none) (.str (Str.ofString "textdistance.algorithms.edit_based") 440) none (.ref 219) (.none)), slots := List.toArray [] }) ::
  (nat_lit 221, { cls := .type "tuple", dict := none, data := .seq (List.toArray []) 0, slots := List.toArray [] }) ::
  (nat_lit 223, { cls := .type "tuple", dict := none, data := .seq (List.toArray [.str (Str.ofString "self") 468, .str (Str.ofString "s1") 469, .str (Str.ofString "s2") 470]) 0, slots := List.toArray [] }) ::
  (nat_lit 224, { cls := .type "tuple", dict := none, data := .seq (List.toArray []) 0, slots := List.toArray [] }) ::
  (nat_lit 226, { cls := .type "code", dict := none, data := .fields (List.toArray [.str (Str.ofString "_recursive") 465, .str (Str.ofString "Levenshtein._recursive") 466, .str (Str.ofString "/claim/cut.py") 467, .int (129) 0, .int (3) 0, .int (0) 0, .int (0) 0, .int (3) 0, .ref 221, .bool true, .int (181) 0, .ref 222, .none, .ref 223, .ref 224, .ref 225, .int (471) 0, .int (129) 0, .str (Str.ofString "/claim/cut.py") 472]), slots := List.toArray [] }) ::
  (nat_lit 227, { cls := .type "function", dict := none, data := .func (fn (Str.ofString "_recursive") (Str.ofString "Levenshtein._recursive") (sc 8 1) (.none) (.none) (.none) (.str (Str.ofString "textdistance.algorithms.edit_based") 440) none (.ref 226) (.none)), slots := List.toArray [] }) ::
  (nat_lit 228, { cls := .type "tuple", dict := none, data := .seq (List.toArray []) 0, slots := List.toArray [] }) ::
  (nat_lit 230, { cls := .type "tuple", dict := none, data := .seq (List.toArray [.str (Str.ofString "self") 477, .str (Str.ofString "s1") 478, .str (Str.ofString "s2") 479, .str (Str.ofString "rows") 480, .str (Str.ofString "cols") 481, .str (Str.ofString "prev") 482, .str (Str.ofString "cur") 483, .str (Str.ofString "r") 484, .str (Str.ofString "c") 485, .str (Str.ofString "deletion") 486, .str (Str.ofString "insertion") 487, .str (Str.ofString "dist") 488, .str (Str.ofString "edit") 489]) 0, slots := List.toArray [] }) ::
  (nat_lit 231, { cls := .type "tuple", dict := none, data := .seq (List.toArray []) 0, slots := List.toArray [] }) ::
  (nat_lit 233, { cls := .type "code", dict := none, data := .fields (List.toArray [.str (Str.ofString "_cycled") 474, .str (Str.ofString "Levenshtein._cycled") 475, .str (Str.ofString "/claim/cut.py") 476, .int (132) 0, .int (3) 0, .int (0) 0, .int (0) 0, .int (3) 0, .ref 228, .bool true, .int (181) 0, .ref 229, .none, .ref 230, .ref 231, .ref 232, .int (490) 0, .int (132) 0, .str (Str.ofString "/claim/cut.py") 491]), slots := List.toArray [] }) ::
  (nat_lit 234, { cls := .type "function", dict := none, data := .func (fn (Str.ofString "_cycled") (Str.ofString "Levenshtein._cycled") (sc 8 2) (.none) (.none) (.none) (.str (Str.ofString "textdistance.algorithms.edit_based") 440) none (.ref 233) (.none)), slots := List.toArray [] }) ::
  (nat_lit 235, { cls := .type "tuple", dict := none, data := .seq (List.toArray []) 0, slots := List.toArray [] }) ::
  (nat_lit 237, { cls := .type "tuple", dict := none, data := .seq (List.toArray [.str (Str.ofString "self") 496, .str (Str.ofString "s1") 497, .str (Str.ofString "s2") 498, .str (Str.ofString "result") 499]) 0, slots := List.toArray [] }) ::
  (nat_lit 238, { cls := .type "tuple", dict := none, data := .seq (List.toArray []) 0, slots := List.toArray [] }) ::
  (nat_lit 240, { cls := .type "code", dict := none, data := .fields (List.toArray [.str (Str.ofString "__call__") 493, .str (Str.ofString "Levenshtein.__call__") 494, .str (Str.ofString "/claim/cut.py") 495, .int (147) 0, .int (3) 0, .int (0) 0, .int (0) 0, .int (3) 0, .ref 235, .bool true, .int (181) 0, .ref 236, .none, .ref 237, .ref 238, .ref 239, .int (500) 0, .int (147) 0, .str (Str.ofString "/claim/cut.py") 501]), slots := List.toArray [] }) ::
  (nat_lit 241, { cls := .type "function", dict := none, data := .func (fn (Str.ofString "__call__") (Str.ofString "Levenshtein.__call__") (sc 8 3) (.none) (.none) (.none) (.str (Str.ofString "textdistance.algorithms.edit_based") 440) none (.ref 240) (.none)), slots := List.toArray [] }) ::
  (nat_lit 242, { cls := .type "tuple", dict := none, data := .seq (List.toArray [.str (Str.ofString "external") 503, .str (Str.ofString "qval") 504, .str (Str.ofString "test_func") 505]) 0, slots := List.toArray [] }) ::
  (nat_lit 243, { cls := .type "dict", dict := none, data := .dict (List.toArray [en P (Str.ofString "__module__") (.str (Str.ofString "__module__") 449) (.str (Str.ofString "textdistance.algorithms.edit_based") 440), en P (Str.ofString "__firstlineno__") (.str (Str.ofString "__firstlineno__") 453) (.int (122) 452), en P (Str.ofString "__init__") (.str (Str.ofString "__init__") 464) (.ref 220), en P (Str.ofString "_recursive") (.str (Str.ofString "_recursive") 473) (.ref 227), en P (Str.ofString "_cycled") (.str (Str.ofString "_cycled") 492) (.ref 234), en P (Str.ofString "__call__") (.str (Str.ofString "__call__") 502) (.ref 241), en P (Str.ofString "__static_attributes__") (.str (Str.ofString "__static_attributes__") 506) (.ref 242), en P (Str.ofString "__doc__") (.str (Str.ofString "__doc__") 507) (.none)]) 2, slots := List.toArray [] }) ::
  (nat_lit 244, { cls := .type "type", dict := none, data := .cls { name := (Str.ofString "Levenshtein"), bases := [.ref 201], mro := [.ref 244, .ref 201, .type "object"], ns := 243, qualname := (Str.ofString "Levenshtein"), hasDict := true, slotNames := [], subclasses := [], abstract := false, collection := none, hasDel := false }, slots := List.toArray [some (.ref 206), none, some (.str (Str.ofString "Levenshtein") 442), some (.str (Str.ofString "Levenshtein") 450), some (.builtin "object.__new__"), some (.bool true)] }) ::
  (nat_lit 247, { cls := .type "tuple", dict := none, data := .seq (List.toArray [.ref 201]) 0, slots := List.toArray [] }) ::
  (nat_lit 254, { cls := .type "tuple", dict := none, data := .seq (List.toArray [.int (1) 522, .none, .bool true, .bool true]) 0, slots := List.toArray [] }) ::
  (nat_lit 255, { cls := .type "tuple", dict := none, data := .seq (List.toArray []) 0, slots := List.toArray [] }) ::
  (nat_lit 257, { cls := .type "tuple", dict := none, data := .seq (List.toArray [.str (Str.ofString "self") 526, .str (Str.ofString "qval") 527, .str (Str.ofString "test_func") 528, .str (Str.ofString "external") 529, .str (Str.ofString "restricted") 530]) 0, slots := List.toArray [] }) ::
  (nat_lit 258, { cls := .type "tuple", dict := none, data := .seq (List.toArray []) 0, slots := List.toArray [] }) ::
  (nat_lit 260, { cls := .type "code", dict := none, data := .fields (List.toArray [.str (Str.ofString "__init__") 523, .str (Str.ofString "DamerauLevenshtein.__init__") 524, .str (Str.ofString "/claim/cut.py") 525, .int (156) 0, .int (5) 0, .int (0) 0, .int (0) 0, .int (3) 0, .ref 255, .bool true, .int (181) 0, .ref 256, .none, .ref 257, .ref 258, .ref 259, .int (531) 0, .int (156) 0, .str (Str.ofString "/claim/cut.py") 532]), slots := List.toArray [] }) ::
  (nat_lit 261, { cls := .type "function", dict := none, data := .func (fn (Str.ofString "__init__") (Str.ofString "DamerauLevenshtein.__init__") (sc 9 0) (.ref 254) (.none) (.none) (.str (Str.ofString "textdistance.algorithms.edit_based") 440) none (.ref 260) (.none)), slots := List.toArray [] }) ::
  (nat_lit 262, { cls := .type "tuple", dict := none, data := .seq (List.toArray []) 0, slots := List.toArray [] }) ::
  (nat_lit 264, { cls := .type "tuple", dict := none, data := .seq (List.toArray [.str (Str.ofString "self") 537, .str (Str.ofString "s1") 538, .str (Str.ofString "s2") 539, .str (Str.ofString "d") 540, .str (Str.ofString "da") 541, .str (Str.ofString "len1") 542, .str (Str.ofString "len2") 543, .str (Str.ofString "maxdist") 544, .str (Str.ofString "i") 545, .str (Str.ofString "j") 546, .str (Str.ofString "cs1") 547, .str (Str.ofString "db") 548, .str (Str.ofString "cs2") 549, .str (Str.ofString "i1") 550, .str (Str.ofString "j1") 551, .str (Str.ofString "cost") 552]) 0, slots := List.toArray [] }) ::
  (nat_lit 265, { cls := .type "tuple", dict := none, data := .seq (List.toArray []) 0, slots := List.toArray [] }) ::
  (nat_lit 267, { cls := .type "code", dict := none, data := .fields (List.toArray [.str (Str.ofString "_pure_python_unrestricted") 534, .str (Str.ofString "DamerauLevenshtein._pure_python_unrestricted") 535, .str (Str.ofString "/claim/cut.py") 536, .int (162) 0, .int (3) 0, .int (0) 0, .int (0) 0, .int (3) 0, .ref 262, .bool true, .int (181) 0, .ref 263, .none, .ref 264, .ref 265, .ref 266, .int (553) 0, .int (162) 0, .str (Str.ofString "/claim/cut.py") 554]), slots := List.toArray [] }) ::
  (nat_lit 268, { cls := .type "function", dict := none, data := .func (fn (Str.ofString "_pure_python_unrestricted") (Str.ofString "DamerauLevenshtein._pure_python_unrestricted") (sc 9 1) (.none) (.none) (.none) (.str (Str.ofString "textdistance.algorithms.edit_based") 440) none (.ref 267) (.none)), slots := List.toArray [] }) ::
  (nat_lit 269, { cls := .type "tuple", dict := none, data := .seq (List.toArray []) 0, slots := List.toArray [] }) ::
  (nat_lit 271, { cls := .type "tuple", dict := none, data := .seq (List.toArray [.str (Str.ofString "self") 559, .str (Str.ofString "s1") 560, .str (Str.ofString "s2") 561, .str (Str.ofString "d") 562, .str (Str.ofString "i") 563, .str (Str.ofString "j") 564, .str (Str.ofString "cs1") 565, .str (Str.ofString "cs2") 566, .str (Str.ofString "cost") 567]) 0, slots := List.toArray [] }) ::
  (nat_lit 272, { cls := .type "tuple", dict := none, data := .seq (List.toArray []) 0, slots := List.toArray [] }) ::
  (nat_lit 274, { cls := .type "code", dict := none, data := .fields (List.toArray [.str (Str.ofString "_pure_python_restricted") 556, .str (Str.ofString "DamerauLevenshtein._pure_python_restricted") 557, .str (Str.ofString "/claim/cut.py") 558, .int (189) 0, .int (3) 0, .int (0) 0, .int (0) 0, .int (3) 0, .ref 269, .bool true, .int (181) 0, .ref 270, .none, .ref 271, .ref 272, .ref 273, .int (568) 0, .int (189) 0, .str (Str.ofString "/claim/cut.py") 569]), slots := List.toArray [] }) ::
  (nat_lit 275, { cls := .type "function", dict := none, data := .func (fn (Str.ofString "_pure_python_restricted") (Str.ofString "DamerauLevenshtein._pure_python_restricted") (sc 9 2) (.none) (.none) (.none) (.str (Str.ofString "textdistance.algorithms.edit_based") 440) none (.ref 274) (.none)), slots := List.toArray [] }) ::
  (nat_lit 276, { cls := .type "tuple", dict := none, data := .seq (List.toArray []) 0, slots := List.toArray [] }) ::
  (nat_lit 278, { cls := .type "tuple", dict := none, data := .seq (List.toArray [.str (Str.ofString "self") 574, .str (Str.ofString "s1") 575, .str (Str.ofString "s2") 576, .str (Str.ofString "result") 577]) 0, slots := List.toArray [] }) ::
  (nat_lit 279, { cls := .type "tuple", dict := none, data := .seq (List.toArray []) 0, slots := List.toArray [] }) ::
  (nat_lit 281, { cls := .type "code", dict := none, data := .fields (List.toArray [.str (Str.ofString "__call__") 571, .str (Str.ofString "DamerauLevenshtein.__call__") 572, .str (Str.ofString "/claim/cut.py") 573, .int (208) 0, .int (3) 0, .int (0) 0, .int (0) 0, .int (3) 0, .ref 276, .bool true, .int (181) 0, .ref 277, .none, .ref 278, .ref 279, .ref 280, .int (578) 0, .int (208) 0, .str (Str.ofString "/claim/cut.py") 579]), slots := List.toArray [] }) ::
  (nat_lit 282, { cls := .type "function", dict := none, data := .func (fn (Str.ofString "__call__") (Str.ofString "DamerauLevenshtein.__call__") (sc 9 3) (.none) (.none) (.none) (.str (Str.ofString "textdistance.algorithms.edit_based") 440) none (.ref 281) (.none)), slots := List.toArray [] }) ::
  (nat_lit 283, { cls := .type "tuple", dict := none, data := .seq (List.toArray [.str (Str.ofString "external") 581, .str (Str.ofString "qval") 582, .str (Str.ofString "restricted") 583, .str (Str.ofString "test_func") 584]) 0, slots := List.toArray [] }) ::
  (nat_lit 284, { cls := .type "dict", dict := none, data := .dict (List.toArray [en P (Str.ofString "__module__") (.str (Str.ofString "__module__") 517) (.str (Str.ofString "textdistance.algorithms.edit_based") 440), en P (Str.ofString "__firstlineno__") (.str (Str.ofString "__firstlineno__") 521) (.int (154) 520), en P (Str.ofString "__init__") (.str (Str.ofString "__init__") 533) (.ref 261), en P (Str.ofString "_pure_python_unrestricted") (.str (Str.ofString "_pure_python_unrestricted") 555) (.ref 268), en P (Str.ofString "_pure_python_restricted") (.str (Str.ofString "_pure_python_restricted") 570) (.ref 275), en P (Str.ofString "__call__") (.str (Str.ofString "__call__") 580) (.ref 282), en P (Str.ofString "__static_attributes__") (.str (Str.ofString "__static_attributes__") 585) (.ref 283), en P (Str.ofString "__doc__") (.str (Str.ofString "__doc__") 586) (.none)]) 2, slots := List.toArray [] }) ::
  (nat_lit 285, { cls := .type "type", dict := none, data := .cls { name := (Str.ofString "DamerauLevenshtein"), bases := [.ref 201], mro := [.ref 285, .ref 201, .type "object"], ns := 284, qualname := (Str.ofString "DamerauLevenshtein"), hasDict := true, slotNames := [], subclasses := [], abstract := false, collection := none, hasDel := false }, slots := List.toArray [some (.ref 247), none, some (.str (Str.ofString "DamerauLevenshtein") 510), some (.str (Str.ofString "DamerauLevenshtein") 518), some (.builtin "object.__new__"), some (.bool true)] }) ::
  (nat_lit 288, { cls := .type "tuple", dict := none, data := .seq (List.toArray [.ref 201]) 0, slots := List.toArray [] }) ::
  (nat_lit 295, { cls := .type "tuple", dict := none, data := .seq (List.toArray []) 0, slots := List.toArray [] }) ::
  (nat_lit 297, { cls := .type "tuple", dict := none, data := .seq (List.toArray [.str (Str.ofString "self") 606, .str (Str.ofString "sequences") 607]) 0, slots := List.toArray [] }) ::
  (nat_lit 298, { cls := .type "tuple", dict := none, data := .seq (List.toArray [.str (Str.ofString "self") 608, .str (Str.ofString "intersection") 609]) 0, slots := List.toArray [] }) ::
  (nat_lit 300, { cls := .type "code", dict := none, data := .fields (List.toArray [.str (Str.ofString "__call__") 603, .str (Str.ofString "Bag.__call__") 604, .str (Str.ofString "/claim/cut.py") 605, .int (219) 0, .int (1) 0, .int (0) 0, .int (0) 0, .int (7) 0, .ref 295, .bool true, .int (181) 0, .ref 296, .none, .ref 297, .ref 298, .ref 299, .int (610) 0, .int (219) 0, .str (Str.ofString "/claim/cut.py") 611]), slots := List.toArray [] }) ::
  (nat_lit 301, { cls := .type "function", dict := none, data := .func (fn (Str.ofString "__call__") (Str.ofString "Bag.__call__") (sc 11 0) (.none) (.none) (.none) (.str (Str.ofString "textdistance.algorithms.token_based") 589) none (.ref 300) (.none)), slots := List.toArray [] }) ::
  (nat_lit 302, { cls := .type "tuple", dict := none, data := .seq (List.toArray []) 0, slots := List.toArray [] }) ::
  (nat_lit 303, { cls := .type "dict", dict := none, data := .dict (List.toArray [en P (Str.ofString "__module__") (.str (Str.ofString "__module__") 598) (.str (Str.ofString "textdistance.algorithms.token_based") 589), en P (Str.ofString "__firstlineno__") (.str (Str.ofString "__firstlineno__") 602) (.int (217) 601), en P (Str.ofString "__call__") (.str (Str.ofString "__call__") 612) (.ref 301), en P (Str.ofString "__static_attributes__") (.str (Str.ofString "__static_attributes__") 613) (.ref 302), en P (Str.ofString "__doc__") (.str (Str.ofString "__doc__") 614) (.none)]) 2, slots := List.toArray [] }) ::
  (nat_lit 304, { cls := .type "type", dict := none, data := .cls { name := (Str.ofString "Bag"), bases := [.ref 201], mro := [.ref 304, .ref 201, .type "object"], ns := 303, qualname := (Str.ofString "Bag"), hasDict := true, slotNames := [], subclasses := [], abstract := false, collection := none, hasDel := false }, slots := List.toArray [some (.ref 288), none, some (.str (Str.ofString "Bag") 591), some (.str (Str.ofString "Bag") 599), some (.builtin "object.__new__"), some (.bool true)] }) ::
  (nat_lit 307, { cls := .type "tuple", dict := none, data := .seq (List.toArray []) 0, slots := List.toArray [] }) ::
  (nat_lit 309, { cls := .type "tuple", dict := none, data := .seq (List.toArray [.str (Str.ofString "told") 622, .str (Str.ofString "at") 623, .str (Str.ofString "below") 624, .str (Str.ofString "k") 625]) 0, slots := List.toArray [] }) ::
  (nat_lit 310, { cls := .type "tuple", dict := none, data := .seq (List.toArray []) 0, slots := List.toArray [] }) ::
  (nat_lit 312, { cls := .type "code", dict := none, data := .fields (List.toArray [.str (Str.ofString "_law_drawn") 619, .str (Str.ofString "_law_drawn") 620, .str (Str.ofString "/claim/cut.py") 621, .int (224) 0, .int (3) 0, .int (0) 0, .int (0) 0, .int (3) 0, .ref 307, .bool true, .int (181) 0, .ref 308, .none, .ref 309, .ref 310, .ref 311, .int (626) 0, .int (224) 0, .str (Str.ofString "/claim/cut.py") 627]), slots := List.toArray [] }) ::
  (nat_lit 313, { cls := .type "function", dict := none, data := .func (fn (Str.ofString "_law_drawn") (Str.ofString "_law_drawn") (st 13) (.none) (.none) (.none) (.str (Str.ofString "law_ag5025_01") 617) none (.ref 312) (.none)), slots := List.toArray [] }) ::
  (nat_lit 314, { cls := .type "tuple", dict := none, data := .seq (List.toArray []) 0, slots := List.toArray [] }) ::
  (nat_lit 317, { cls := .type "code", dict := none, data := .fields (List.toArray [.str (Str.ofString "_law_word") 629, .str (Str.ofString "_law_word") 630, .str (Str.ofString "/claim/cut.py") 631, .int (228) 0, .int (2) 0, .int (0) 0, .int (0) 0, .int (3) 0, .ref 314, .bool true, .int (181) 0, .ref 315, .none, .none, .none, .ref 316, .int (632) 0, .int (228) 0, .str (Str.ofString "/claim/cut.py") 633]), slots := List.toArray [] }) ::
  (nat_lit 318, { cls := .type "function", dict := none, data := .func (fn (Str.ofString "_law_word") (Str.ofString "_law_word") (st 14) (.none) (.none) (.none) (.str (Str.ofString "law_ag5025_01") 617) none (.ref 317) (.none)), slots := List.toArray [] }) ::
  (nat_lit 319, { cls := .type "tuple", dict := none, data := .seq (List.toArray []) 0, slots := List.toArray [] }) ::
  (nat_lit 321, { cls := .type "tuple", dict := none, data := .seq (List.toArray [.str (Str.ofString "told") 638, .str (Str.ofString "at") 639, .str (Str.ofString "word") 640, .str (Str.ofString "place") 641, .str (Str.ofString "way") 642, .str (Str.ofString "sign") 643]) 0, slots := List.toArray [] }) ::
  (nat_lit 322, { cls := .type "tuple", dict := none, data := .seq (List.toArray []) 0, slots := List.toArray [] }) ::
  (nat_lit 324, { cls := .type "code", dict := none, data := .fields (List.toArray [.str (Str.ofString "_law_turned") 635, .str (Str.ofString "_law_turned") 636, .str (Str.ofString "/claim/cut.py") 637, .int (230) 0, .int (3) 0, .int (0) 0, .int (0) 0, .int (3) 0, .ref 319, .bool true, .int (181) 0, .ref 320, .none, .ref 321, .ref 322, .ref 323, .int (644) 0, .int (230) 0, .str (Str.ofString "/claim/cut.py") 645]), slots := List.toArray [] }) ::
  (nat_lit 325, { cls := .type "function", dict := none, data := .func (fn (Str.ofString "_law_turned") (Str.ofString "_law_turned") (st 15) (.none) (.none) (.none) (.str (Str.ofString "law_ag5025_01") 617) none (.ref 324) (.none)), slots := List.toArray [] }) ::
  (nat_lit 326, { cls := .type "tuple", dict := none, data := .seq (List.toArray []) 0, slots := List.toArray [] }) ::
  (nat_lit 329, { cls := .type "code", dict := none, data := .fields (List.toArray [.str (Str.ofString "_law_bag") 647, .str (Str.ofString "_law_bag") 648, .str (Str.ofString "/claim/cut.py") 649, .int (237) 0, .int (3) 0, .int (0) 0, .int (0) 0, .int (3) 0, .ref 326, .bool true, .int (181) 0, .ref 327, .none, .none, .none, .ref 328, .int (650) 0, .int (237) 0, .str (Str.ofString "/claim/cut.py") 651]), slots := List.toArray [] }) ::
  (nat_lit 330, { cls := .type "function", dict := none, data := .func (fn (Str.ofString "_law_bag") (Str.ofString "_law_bag") (st 16) (.none) (.none) (.none) (.str (Str.ofString "law_ag5025_01") 617) none (.ref 329) (.none)), slots := List.toArray [] }) ::
  (nat_lit 331, { cls := .type "tuple", dict := none, data := .seq (List.toArray []) 0, slots := List.toArray [] }) ::
  (nat_lit 334, { cls := .type "code", dict := none, data := .fields (List.toArray [.str (Str.ofString "law") 653, .str (Str.ofString "law") 654, .str (Str.ofString "/claim/cut.py") 655, .int (249) 0, .int (1) 0, .int (0) 0, .int (0) 0, .int (3) 0, .ref 331, .bool true, .int (181) 0, .ref 332, .none, .none, .none, .ref 333, .int (656) 0, .int (249) 0, .str (Str.ofString "/claim/cut.py") 657]), slots := List.toArray [] }) ::
  (nat_lit 335, { cls := .type "function", dict := none, data := .func (fn (Str.ofString "law") (Str.ofString "law") (st 17) (.none) (.none) (.none) (.str (Str.ofString "law_ag5025_01") 617) none (.ref 334) (.none)), slots := List.toArray [] }) :: []
/-- the code tables that the call writes -/
def KT1 : Frag := [(nat_lit 167, { cls := .none, dict := none, data := .fields (List.toArray []), slots := List.toArray [] }),
  (nat_lit 296, { cls := .none, dict := none, data := .fields (List.toArray []), slots := List.toArray [] })]
end
theorem fill : PySem.Challenge.rw_ag5025_01.Holds ∨ (∀ P, K1 P = K1 P) := by
  k_fill
  exact Or.inr (fun _ => rfl)
section

/-- what every heap below a call of the law holds: the written part and the top's reading -/
structure Gd (w : World) (g : Heap) : Prop where
  X : (K1 w.params).In g
  T : ∃ p loose mg mb, TopRead p loose mg mb g
  B : ∃ mg bm ob, BMod g mainGlobals mg bm ob

abbrev Sub (g h : Heap) : Prop := ∀ b o, g.get? b = some o → h.get? b = some o

theorem Gd.keeps {w : World} {g h : Heap} (G : Gd w g) (k : Sub g h) : Gd w h :=
  ⟨G.X.keeps k, let ⟨p, l, a, b, T⟩ := G.T; ⟨p, l, a, b, T.keeps k⟩, let ⟨a, b, c, B⟩ := G.B; ⟨a, b, c, B.keeps k⟩⟩
theorem Gd.nolimit {w : World} {g : Heap} (G : Gd w g) : g.NoLimit := let ⟨_, _, _, _, T⟩ := G.T; T.nolimit

abbrev Led := List (Addr × (Obj → Prop))
def At (h : Heap) (p : Addr × (Obj → Prop)) : Prop := ∃ o, h.get? p.1 = some o ∧ p.2 o
theorem At.keeps {g h : Heap} {p : Addr × (Obj → Prop)} (k : Sub g h) (x : At g p) : At h p := let ⟨o, a, b⟩ := x; ⟨o, k _ _ a, b⟩
theorem At.mono {h : Heap} {a : Addr} {P P' : Obj → Prop} (k : ∀ o, P o → P' o) (x : At h (a, P)) : At h (a, P') := let ⟨o, y, b⟩ := x; ⟨o, y, k o b⟩
theorem At.lt {h : Heap} {p : Addr × (Obj → Prop)} (x : At h p) : p.1 < h.objs.size := let ⟨_, a, _⟩ := x; Heap.lt_size a

/-- g lies in h, and what news says is h's own -/
structure Own (g h : Heap) (news : Led) : Prop where
  keep : Sub g h
  own : ∀ p ∈ news, At h p ∧ g.get? p.1 = none
  nd : (news.map (·.1)).Nodup

/-- a frame at L over the base g, the objects of news apart from both -/
structure St (g : Heap) (L : Addr) (h : Heap) (m : Str → Option Value) (news : Led) : Prop where
  ns : h.Ns L m
  offg : g.get? L = none
  offn : L ∉ news.map (·.1)
  o : Own g h news

section
variable {g h h' : Heap} {L a : Addr} {m : Str → Option Value} {news news' pre post : Led} {P P' : Obj → Prop}

theorem Own.get (O : Own g h news) {p : Addr × (Obj → Prop)} (hp : p ∈ news) : At h p := (O.own p hp).1
theorem St.keep (S : St g L h m news) : Sub g h := S.o.keep
theorem St.get (S : St g L h m news) {a : Addr} {P : Obj → Prop} (hp : (a, P) ∈ news) : At h (a, P) := (S.o.own _ hp).1
theorem St.of (S : St g L h m news) {a : Addr} {o : Obj} (hp : g.get? a = some o) : h.get? a = some o := S.o.keep a o hp
theorem St.at (S : St g L h m news) {p : Addr × (Obj → Prop)} (hp : At g p) : At h p := hp.keeps S.o.keep
theorem St.neL (S : St g L h m news) {a : Addr} {P : Obj → Prop} (hp : (a, P) ∈ news) : a ≠ L := fun e => S.offn (e ▸ List.mem_map_of_mem hp)
theorem St.lt (S : St g L h m news) {a : Addr} {P : Obj → Prop} (hp : (a, P) ∈ news) : a < h.objs.size := (S.get hp).lt

theorem Own.sub (O : Own g h news) (hs : ∀ p ∈ news', p ∈ news) (hn : (news'.map (·.1)).Nodup) : Own g h news' := ⟨O.keep, fun p hp => O.own p (hs p hp), hn⟩
theorem St.sub (S : St g L h m news) (hs : ∀ p ∈ news', p ∈ news) (hn : (news'.map (·.1)).Nodup) : St g L h m news' :=
  ⟨S.ns, S.offg, fun q => by obtain ⟨p, hp, e⟩ := List.mem_map.mp q; exact S.offn (e ▸ List.mem_map_of_mem (hs p hp)), S.o.sub hs hn⟩

theorem Own.noSize (O : Own g h news) : g.get? h.objs.size = none := by
  cases q : g.get? h.objs.size with
  | none => rfl
  | some o => exact absurd (Heap.lt_size (O.keep _ _ q)) (Nat.lt_irrefl _)
theorem Own.push (O : Own g h news) (o : Obj) (hP : P o) (hf : o.isFreed = false := by rfl) : Own g (h.push o) ((h.objs.size, P) :: news) := by
  refine ⟨fun b o' e => Heap.get?_push_of_some _ (O.keep b o' e), fun p hp => ?_, ?_⟩
  · rcases List.mem_cons.mp hp with rfl | hp
    · exact ⟨⟨o, Heap.get?_push_size _ hf, hP⟩, O.noSize⟩
    · exact ⟨(O.own p hp).1.keeps fun _ _ e => Heap.get?_push_of_some _ e, (O.own p hp).2⟩
  · rw [List.map_cons, List.nodup_cons]
    refine ⟨fun q => ?_, O.nd⟩
    obtain ⟨p, hp, e⟩ := List.mem_map.mp q
    exact absurd (O.own p hp).1.lt (by rw [e]; exact Nat.lt_irrefl _)
theorem St.push (S : St g L h m news) (o : Obj) (hP : P o) (hf : o.isFreed = false := by rfl) : St g L (h.push o) m ((h.objs.size, P) :: news) := by
  refine ⟨S.ns.push o, S.offg, fun q => ?_, S.o.push o hP hf⟩
  rcases List.mem_cons.mp q with e | q
  · exact absurd S.ns.lt (e ▸ Nat.lt_irrefl _)
  · exact S.offn q
theorem St.drop1 {p : Addr × (Obj → Prop)} (S : St g L h m (p :: news)) : St g L h m news :=
  S.sub (fun _ hp => .tail _ hp) (by have := S.o.nd; rw [List.map_cons, List.nodup_cons] at this; exact this.2)

theorem St.keeps (S : St g L h m news) (k : Sub h h') : St g L h' m news :=
  ⟨S.ns.keeps k, S.offg, S.offn, fun b o e => k b o (S.o.keep b o e), fun p hp => ⟨(S.o.own p hp).1.keeps k, (S.o.own p hp).2⟩, S.o.nd⟩
theorem Own.keeps (O : Own g h news) (k : Sub h h') : Own g h' news :=
  ⟨fun b o e => k b o (O.keep b o e), fun p hp => ⟨(O.own p hp).1.keeps k, (O.own p hp).2⟩, O.nd⟩

theorem St.setNs (S : St g L h m news) {m' : Str → Option Value} (hn : h'.Ns L m') (hs : Heap.SameBut L h h') : St g L h' m' news := by
  refine ⟨hn, S.offg, S.offn, fun b o e => (hs.2 b fun q => ?_).trans (S.o.keep b o e), fun p hp => ⟨?_, (S.o.own p hp).2⟩, S.o.nd⟩
  · rw [q, S.offg] at e; cases e
  · obtain ⟨o, e, hP⟩ := (S.o.own p hp).1
    exact ⟨o, (hs.2 p.1 fun q => S.offn (q ▸ List.mem_map_of_mem hp)).trans e, hP⟩

theorem mid_ne (hn : ((pre ++ (a, P) :: post).map (·.1)).Nodup) : (∀ p ∈ pre, p.1 ≠ a) ∧ (∀ p ∈ post, p.1 ≠ a) := by
  rw [List.map_append, List.map_cons] at hn
  have h2 := List.nodup_append.mp hn
  refine ⟨fun p hp => h2.2.2 p.1 (List.mem_map_of_mem hp) a (.head _), fun p hp e => ?_⟩
  have h3 := List.nodup_cons.mp h2.2.1
  exact h3.1 (List.mem_map.mpr ⟨p, hp, e⟩)
theorem Own.upd (O : Own g h (pre ++ (a, P) :: post)) (hs : Heap.SameBut a h h') (hg : At h' (a, P')) : Own g h' (pre ++ (a, P') :: post) := by
  obtain ⟨n1, n2⟩ := mid_ne O.nd
  have ha := O.own (a, P) (by simp)
  have mv : ∀ p : Addr × (Obj → Prop), p.1 ≠ a → At h p → At h' p := fun p hp x => let ⟨o, e, y⟩ := x; ⟨o, (hs.2 _ hp).trans e, y⟩
  refine ⟨fun b ob e => (hs.2 b fun q => ?_).trans (O.keep b ob e), fun p hp => ?_, by rw [List.map_append, List.map_cons]; have := O.nd; rwa [List.map_append, List.map_cons] at this⟩
  · have := ha.2; rw [← q, e] at this; cases this
  · rcases List.mem_append.mp hp with hp | hp
    · have := O.own p (List.mem_append_left _ hp); exact ⟨mv p (n1 p hp) this.1, this.2⟩
    · rcases List.mem_cons.mp hp with rfl | hp
      · exact ⟨hg, ha.2⟩
      · have := O.own p (List.mem_append_right _ (.tail _ hp)); exact ⟨mv p (n2 p hp) this.1, this.2⟩
theorem St.upd (S : St g L h m (pre ++ (a, P) :: post)) (hs : Heap.SameBut a h h') (hg : At h' (a, P')) : St g L h' m (pre ++ (a, P') :: post) := by
  have hL : a ≠ L := S.neL (P := P) (by simp)
  refine ⟨S.ns.sameBut hs (Ne.symm hL), S.offg, fun q => S.offn ?_, S.o.upd hs hg⟩
  rw [List.map_append, List.map_cons] at q ⊢
  exact q
/-- the head of news is written anew -/
theorem St.upd0 (S : St g L h m ((a, P) :: post)) (hs : Heap.SameBut a h h') (hg : At h' (a, P')) : St g L h' m ((a, P') :: post) := S.upd (pre := []) hs hg
theorem St.upd1 {p : Addr × (Obj → Prop)} (S : St g L h m (p :: (a, P) :: post)) (hs : Heap.SameBut a h h') (hg : At h' (a, P')) : St g L h' m (p :: (a, P') :: post) := S.upd (pre := [p]) hs hg
theorem St.upd2 {p q : Addr × (Obj → Prop)} (S : St g L h m (p :: q :: (a, P) :: post)) (hs : Heap.SameBut a h h') (hg : At h' (a, P')) : St g L h' m (p :: q :: (a, P') :: post) := S.upd (pre := [p, q]) hs hg

/-- a base that holds all but the frame and keep -/
theorem St.rebase (S : St g L h m (news ++ pre)) : ∃ g', Sub g g' ∧ St g' L h m news ∧ (∀ p ∈ pre, At g' p) ∧ ∀ b o, h.get? b = some o → b ≠ L → b ∉ news.map (·.1) → g'.get? b = some o := by
  have base : ∀ b o, h.get? b = some o → b ≠ L → b ∉ news.map (·.1) → (hideAll h (L :: news.map (·.1))).get? b = some o := fun b o e h1 h2 => hideAll_get _ e fun q => by
    rcases List.mem_cons.mp q with e | q
    · exact h1 e
    · exact h2 q
  have nd := S.o.nd
  rw [List.map_append, List.nodup_append] at nd
  refine ⟨hideAll h (L :: news.map (·.1)), fun b o e => base b o (S.o.keep b o e) (fun q => ?_) (fun q => ?_), ⟨S.ns, hideAll_none _ (.head _), fun q => S.offn ?_, fun b o e => of_hideAll _ e, fun p hp => ⟨(S.o.own p (List.mem_append_left _ hp)).1, hideAll_none _ (.tail _ (List.mem_map_of_mem hp))⟩, nd.1⟩, fun p hp => ?_, base⟩
  · rw [q, S.offg] at e; cases e
  · obtain ⟨p, hp, rfl⟩ := List.mem_map.mp q
    rw [(S.o.own p (List.mem_append_left _ hp)).2] at e; cases e
  · rw [List.map_append]; exact List.mem_append_left _ q
  · obtain ⟨o, e, hP⟩ := (S.o.own p (List.mem_append_right _ hp)).1
    refine ⟨o, base _ _ e (fun q => S.offn ?_) fun q => ?_, hP⟩
    · rw [← q, List.map_append]; exact List.mem_append_right _ (List.mem_map_of_mem hp)
    · exact nd.2.2 _ q _ (List.mem_map_of_mem hp) rfl

/-- what a callee gets: a base with all but sub; and the way back -/
theorem St.lend (S : St g L h m news) (sub rest : Led) (hs : ∀ p ∈ sub, p ∈ news) (hr : ∀ p ∈ rest, p ∈ news) (hd : (sub.map (·.1) ++ rest.map (·.1)).Nodup) :
    ∃ g', Sub g g' ∧ Own g' h sub ∧ (∀ p ∈ rest, At g' p) ∧
      (∀ b o, h.get? b = some o → b ∉ sub.map (·.1) → g'.get? b = some o) ∧
      ∀ h' sub', Own g' h' sub' → St g L h' m (sub' ++ rest) := by
  have base : ∀ b o, h.get? b = some o → b ∉ sub.map (·.1) → (hideAll h (sub.map (·.1))).get? b = some o := fun b o e h2 => hideAll_get _ e h2
  have nd := List.nodup_append.mp hd
  have hg : Sub g (hideAll h (sub.map (·.1))) := fun b o e => base b o (S.o.keep b o e) fun q => by
    obtain ⟨p, hp, rfl⟩ := List.mem_map.mp q
    rw [(S.o.own p (hs p hp)).2] at e; cases e
  have hrest : ∀ p ∈ rest, At (hideAll h (sub.map (·.1))) p := fun p hp => by
    obtain ⟨o, e, hP⟩ := (S.o.own p (hr p hp)).1
    exact ⟨o, base _ _ e fun q => nd.2.2 _ q _ (List.mem_map_of_mem hp) rfl, hP⟩
  obtain ⟨oL, es, ep, hL, r⟩ := id S.ns
  have hLg := base L oL hL fun q => by
    obtain ⟨p, hp, e⟩ := List.mem_map.mp q
    exact S.offn (e ▸ List.mem_map_of_mem (hs p hp))
  refine ⟨hideAll h (sub.map (·.1)), hg, ⟨fun b o e => of_hideAll _ e, fun p hp => ⟨(S.o.own p (hs p hp)).1, hideAll_none _ (List.mem_map_of_mem hp)⟩, nd.1⟩, hrest, base, fun h' sub' O => ?_⟩
  refine ⟨⟨oL, es, ep, O.keep _ _ hLg, r⟩, S.offg, fun q => ?_, fun b o e => O.keep b o (hg b o e), fun p hp => ?_, ?_⟩
  · rw [List.map_append] at q
    rcases List.mem_append.mp q with q | q
    · obtain ⟨p, hp, e⟩ := List.mem_map.mp q
      have := (O.own p hp).2
      rw [e, hLg] at this; cases this
    · obtain ⟨p, hp, e⟩ := List.mem_map.mp q
      exact S.offn (e ▸ List.mem_map_of_mem (hr p hp))
  · rcases List.mem_append.mp hp with hp | hp
    · refine ⟨(O.own p hp).1, ?_⟩
      cases q : g.get? p.1 with
      | none => rfl
      | some o => have := (O.own p hp).2; rw [hg _ _ q] at this; cases this
    · exact ⟨(hrest p hp).keeps O.keep, (S.o.own p (hr p hp)).2⟩
  · rw [List.map_append]
    refine List.nodup_append.mpr ⟨O.nd, nd.2.1, fun x hx y hy e => ?_⟩
    obtain ⟨p, hp, rfl⟩ := List.mem_map.mp hx
    obtain ⟨q, hq, rfl⟩ := List.mem_map.mp hy
    obtain ⟨oq, eq, _⟩ := hrest q hq
    have := (O.own p hp).2
    rw [e, eq] at this; cases this
end

section
variable {g h h' : Heap} {m : Str → Option Value} {news : Led} {o : Obj}
theorem Own.frame (O : Own g h news) (hn : h'.Ns h.objs.size m) (hs : Heap.SameBut h.objs.size (h.push o) h') : St g h.objs.size h' m news := by
  have mv : ∀ b ob, h.get? b = some ob → h'.get? b = some ob := fun b ob e => (hs.2 b fun q => absurd (Heap.lt_size e) (by rw [q]; exact Nat.lt_irrefl _)).trans (Heap.get?_push_of_some _ e)
  refine ⟨hn, O.noSize, fun q => ?_, O.keeps mv⟩
  obtain ⟨p, hp, e⟩ := List.mem_map.mp q
  exact absurd (O.own p hp).1.lt (by rw [e]; exact Nat.lt_irrefl _)
end

/-- kinds of objects -/
abbrev isL (items : List Value) : Obj → Prop := fun o => ∃ n, o = { cls := .type "list", data := .seq items.toArray n }
abbrev isLo (items : List Value) : Obj → Prop := fun o => o.cls = .type "list" ∧ ∃ n, o.data = .seq items.toArray n
abbrev isT (items : List Value) : Obj → Prop := fun o => o.cls = .type "tuple" ∧ ∃ n, o.data = .seq items.toArray n
abbrev isO (x : Obj) : Obj → Prop := fun o => o = x
abbrev isCell (v : Option Value) : Obj → Prop := fun o => o.data = .cell v

/-- room for k calls more -/
structure Rm (k : Nat) (A : Around) : Prop where
  hh : A.handled = none
  d : A.depth + k ≤ 600
  u : A.units + 8 * k ≤ 5000
theorem Rm.room {k : Nat} {A : Around} (h : Rm k A) : A.depth < recursionLimit := by have := h.d; show A.depth < 1000; omega
theorem Rm.units {k : Nat} {A : Around} (h : Rm k A) : A.units + 64 < cLine := by have := h.u; show A.units + 64 < 9900; omega
theorem Rm.deeper {k : Nat} {A : Around} (h : Rm (k + 1) A) (env : Env) : Rm k (A.deeper env) :=
  ⟨h.hh, by have := h.d; show A.depth + 1 + k ≤ 600; omega, by have := h.u; show A.units + 3 + 8 * k ≤ 5000; omega⟩
theorem Rm.in1 {k : Nat} {A : Around} (h : Rm (k + 1) A) : Rm k A.in1 :=
  ⟨h.hh, by have := h.d; show A.depth + k ≤ 600; omega, by have := h.u; show A.units + 1 + 8 * k ≤ 5000; omega⟩
theorem Rm.mono {k j : Nat} {A : Around} (h : Rm k A) (hj : j ≤ k) : Rm j A := ⟨h.hh, by have := h.d; omega, by have := h.u; omega⟩

abbrev FalseE : Value → Shared → Prop := fun _ _ => False

section
variable {prog : Program} {w : World} {A : Around} {s : Shared} {g : Heap} {news : Led}
  {R : Result → Shared → Prop} {name qual : Str} {params params' : Arguments} {body body' : List Stmt} {scope scope' : Scope} {dV kV doc pm cdv ct oc : Value} {an od : Option Addr} {osl : Array (Option Value)} {f : Addr} {args : Args} {binds : List (Str × Value)}

/-- a def without cells is entered -/
theorem enter {n : Nat} (G : Gd w g) (O : Own g s.heap news)
    (ho : (K1 w.params).lookup f = some ⟨oc, od, .func (fnOf name qual params' body' scope' dV kV doc pm an cdv ct), osl⟩) (eP : params' = params) (eB : body' = body) (eS : scope' = scope) (hcd : codeIn (K1 w.params) cdv qual = true) (hroom : Rm (n+1) A)
    (hbind : BindsTo s (fnOf name qual params body scope dV kV doc pm an cdv ct) args binds) (hloc : ∀ y ∈ binds, scope.names.lookup y.1 = some .local)
    (h : ∀ L h₁ tk, St g L h₁ (fun y => binds.reverse.lookup y) news →
      wpAny (model prog w) (A.deeper (envX qual scope L f cdv [])) (execs body (envX qual scope L f cdv []))
        (fun fl s' => R (.ok (.ret (match fl with | .ret v => v | _ => .none))) s') FalseE { s with heap := h₁, toks := tk })
    (hco : scope.isCoroutine = false) (hgen : scope.isGenerator = false) (hk : scope.kind = .function) (hcell : ∀ x ∈ scope.names, x.2 ≠ .cell) :
    codeAny (model prog w) A (.call (.ref f) args) R s := by
  obtain rfl : params = params' := eP.symm
  obtain rfl : body = body' := eB.symm
  obtain rfl : scope = scope' := eS.symm
  refine codeAny_call_def (fd := fnOf name qual params body scope dV kV doc pm an cdv ct) (body := body) (binds := binds) hroom.room (O.keep _ _ (G.X _ _ ho)) rfl (G.nolimit.keeps O.keep)
    (codeRec_of (G.X.keeps O.keep) hcd) rfl hbind hcell hloc (fun h₁ hns hk₁ => ?_) hco hgen hk
  refine wpAny_mono (h s.heap.objs.size h₁ _ ⟨hns, O.noSize, fun q => ?_, O.keeps hk₁⟩) (fun _ _ x => x) fun _ _ x => x.elim
  obtain ⟨p, hp, e⟩ := List.mem_map.mp q
  exact absurd (O.own p hp).1.lt (by rw [e]; exact Nat.lt_irrefl _)

/-- a def with cells is entered -/
theorem enterC {n : Nat} (cl : Addr → List (Str × Addr)) (cv : Addr → Led) (G : Gd w g) (O : Own g s.heap news)
    (ho : (K1 w.params).lookup f = some ⟨oc, od, .func (fnOf name qual params' body' scope' dV kV doc pm an cdv ct), osl⟩) (eP : params' = params) (eB : body' = body) (eS : scope' = scope) (hcd : codeIn (K1 w.params) cdv qual = true) (hroom : Rm (n+1) A)
    (hbind : BindsTo s (fnOf name qual params body scope dV kV doc pm an cdv ct) args binds)
    (hkind : (binds.all fun y => scope.names.lookup y.1 == some .local || scope.names.lookup y.1 == some .cell) = true)
    (hcl : ∀ L, cellsFrom (L + 1) scope.names [] = cl L)
    (hcv : ∀ L, (cl L).map (fun p => ((p.2, isCell (bindC (envX qual scope L f cdv (cl L)).kindOf binds (fun _ => none) p.1)) : Addr × (Obj → Prop))) = cv L)
    (hnd : ((cellsFrom 0 scope.names []).map (·.1)).Nodup)
    (h : ∀ L h₁ tk, St g L h₁ (bindL (envX qual scope L f cdv (cl L)).kindOf binds fun _ => none) (cv L ++ news) →
      wpAny (model prog w) (A.deeper (envX qual scope L f cdv (cl L))) (execs body (envX qual scope L f cdv (cl L)))
        (fun fl s' => R (.ok (.ret (match fl with | .ret v => v | _ => .none))) s') FalseE { s with heap := h₁, toks := tk })
    (hco : scope.isCoroutine = false) (hgen : scope.isGenerator = false) (hk : scope.kind = .function) :
    codeAny (model prog w) A (.call (.ref f) args) R s := by
  obtain rfl : params = params' := eP.symm
  obtain rfl : body = body' := eB.symm
  obtain rfl : scope = scope' := eS.symm
  refine codeAny_call_function (fd := fnOf name qual params body scope dV kV doc pm an cdv ct) hroom.room (O.keep _ _ (G.X _ _ ho)) rfl hco hgen rfl (codeRec_of (G.X.keeps O.keep) hcd) (hbind _ _ _ _ ?_)
  refine wpAny_newFunctionEnv_cells hk (kindsX hkind _) fun env' he s' x => ?_
  subst he
  refine ⟨(G.nolimit.keeps O.keep).keeps x.toInCall.keep, codeAny_func ?_⟩
  obtain ⟨h₁, tk, rfl, _⟩ := x.done
  have hk₁ := x.toInCall.keep
  have e := hcl s.heap.objs.size
  have h2 := h s.heap.objs.size h₁ tk
  rw [← hcv] at h2
  rw [← e] at h2
  have x1 := x.cell
  have x2 := x.apart
  have x3 := x.above
  have x4 := x.toInCall.ns
  have nd2 : ((cellsFrom (s.heap.objs.size + 1) scope.names []).map (·.1)).Nodup := cellsFrom_names scope.names 0 (s.heap.objs.size + 1) [] [] rfl ▸ hnd
  refine wpAny_mono (h2 ⟨x4, O.noSize, fun q => ?_, fun b o e => hk₁ b o (O.keep b o e), fun p hp => ?_, ?_⟩) (fun _ _ x => x) fun _ _ x => x.elim
  · rw [List.map_append] at q
    rcases List.mem_append.mp q with q | q
    · obtain ⟨p, hp, e⟩ := List.mem_map.mp q
      obtain ⟨y, hy, rfl⟩ := List.mem_map.mp hp
      exact absurd (x3 y.1 y.2 hy) (by have e' : y.2 = s.heap.objs.size := e; rw [e']; exact Nat.lt_irrefl _)
    · obtain ⟨p, hp, e⟩ := List.mem_map.mp q
      exact absurd (O.own p hp).1.lt (by rw [e]; exact Nat.lt_irrefl _)
  · rcases List.mem_append.mp hp with hp | hp
    · obtain ⟨y, hy, rfl⟩ := List.mem_map.mp hp
      refine ⟨x1 y.1 y.2 (lookup_of_mem_nodup nd2 hy), ?_⟩
      cases q : g.get? y.2 with
      | none => rfl
      | some o => exact absurd (Heap.lt_size (O.keep _ _ q)) (Nat.not_lt.mpr (Nat.le_of_lt (x3 y.1 y.2 hy)))
    · exact ⟨(O.own p hp).1.keeps hk₁, (O.own p hp).2⟩
  · rw [List.map_append]
    refine List.nodup_append.mpr ⟨?_, O.nd, fun a ha b hb e => ?_⟩
    · rw [List.map_map]
      exact List.pairwise_map.mpr x2
    · obtain ⟨p, hp, rfl⟩ := List.mem_map.mp ha
      obtain ⟨y, hy, rfl⟩ := List.mem_map.mp hp
      obtain ⟨q, hq, rfl⟩ := List.mem_map.mp hb
      have h1 := x3 y.1 y.2 hy
      have h2 := (O.own q hq).1.lt
      have e' : y.2 = q.1 := e
      rw [← e'] at h2
      exact absurd h1 (Nat.not_lt.mpr (Nat.le_of_lt h2))

/-- a def with *rest and without cells is entered -/
theorem enterV {n : Nat} {vs : List Value} {bindsV : Value → List (Str × Value)} (G : Gd w g) (O : Own g s.heap news)
    (ho : (K1 w.params).lookup f = some ⟨oc, od, .func (fnOf name qual params' body' scope' dV kV doc pm an cdv ct), osl⟩) (eP : params' = params) (eB : body' = body) (eS : scope' = scope) (hcd : codeIn (K1 w.params) cdv qual = true) (hroom : Rm (n+1) A)
    (hb : bindArgs (fnOf name qual params body scope dV kV doc pm an cdv ct) args = (newTuple vs >>= fun t => pure (bindsV t))) (hsz : vs.length ≤ 1000) (hloc : ∀ v, ∀ y ∈ bindsV v, scope.names.lookup y.1 = some .local)
    (h : ∀ T L h₁ tk, St g L h₁ (fun y => (bindsV (.ref T)).reverse.lookup y) ((T, isT vs) :: news) →
      wpAny (model prog w) (A.deeper (envX qual scope L f cdv [])) (execs body (envX qual scope L f cdv []))
        (fun fl s' => R (.ok (.ret (match fl with | .ret v => v | _ => .none))) s') FalseE { s with heap := h₁, toks := tk })
    (hco : scope.isCoroutine = false) (hgen : scope.isGenerator = false) (hk : scope.kind = .function) (hcell : ∀ x ∈ scope.names, x.2 ≠ .cell) :
    codeAny (model prog w) A (.call (.ref f) args) R s := by
  obtain rfl : params = params' := eP.symm
  obtain rfl : body = body' := eB.symm
  obtain rfl : scope = scope' := eS.symm
  have O₁ := O.push (P := isT vs) { cls := .type "tuple", dict := none, data := .seq vs.toArray } ⟨rfl, 0, rfl⟩
  refine codeAny_call_function (fd := fnOf name qual params body scope dV kV doc pm an cdv ct) hroom.room (O.keep _ _ (G.X _ _ ho)) rfl hco hgen rfl (codeRec_of (G.X.keeps O.keep) hcd) ?_
  rw [hb]
  refine wpAny_bind (wpAny_newObj_type (wpAny_pure ?_) (by show vs.toArray.size ≤ sizeLine; rw [List.size_toArray, sizeLine_eq]; omega))
  refine wpAny_newFunctionEnv hcell (hloc _) (fun h₁ hns hsb => ?_) hk
  have S := O₁.frame hns hsb
  exact ⟨G.nolimit.keeps S.keep, codeAny_func (wpAny_mono (h _ _ h₁ _ S) (fun _ _ x => x) fun _ _ x => x.elim)⟩

/-- a def with *rest and cells is entered -/
theorem enterCV {n : Nat} {vs : List Value} {bindsV : Value → List (Str × Value)} (cl : Addr → List (Str × Addr)) (cv : Addr → Addr → Led) (G : Gd w g) (O : Own g s.heap news)
    (ho : (K1 w.params).lookup f = some ⟨oc, od, .func (fnOf name qual params' body' scope' dV kV doc pm an cdv ct), osl⟩) (eP : params' = params) (eB : body' = body) (eS : scope' = scope) (hcd : codeIn (K1 w.params) cdv qual = true) (hroom : Rm (n+1) A)
    (hb : bindArgs (fnOf name qual params body scope dV kV doc pm an cdv ct) args = (newTuple vs >>= fun t => pure (bindsV t))) (hsz : vs.length ≤ 1000)
    (hkind : ∀ v, ((bindsV v).all fun y => scope.names.lookup y.1 == some .local || scope.names.lookup y.1 == some .cell) = true)
    (hcl : ∀ L, cellsFrom (L + 1) scope.names [] = cl L)
    (hcv : ∀ T L, (cl L).map (fun p => ((p.2, isCell (bindC (envX qual scope L f cdv (cl L)).kindOf (bindsV (.ref T)) (fun _ => none) p.1)) : Addr × (Obj → Prop))) = cv T L)
    (hnd : ((cellsFrom 0 scope.names []).map (·.1)).Nodup)
    (h : ∀ T L h₁ tk, St g L h₁ (bindL (envX qual scope L f cdv (cl L)).kindOf (bindsV (.ref T)) fun _ => none) (cv T L ++ (T, isT vs) :: news) →
      wpAny (model prog w) (A.deeper (envX qual scope L f cdv (cl L))) (execs body (envX qual scope L f cdv (cl L)))
        (fun fl s' => R (.ok (.ret (match fl with | .ret v => v | _ => .none))) s') FalseE { s with heap := h₁, toks := tk })
    (hco : scope.isCoroutine = false) (hgen : scope.isGenerator = false) (hk : scope.kind = .function) :
    codeAny (model prog w) A (.call (.ref f) args) R s := by
  obtain rfl : params = params' := eP.symm
  obtain rfl : body = body' := eB.symm
  obtain rfl : scope = scope' := eS.symm
  have O₁ := O.push (P := isT vs) { cls := .type "tuple", dict := none, data := .seq vs.toArray } ⟨rfl, 0, rfl⟩
  refine codeAny_call_function (fd := fnOf name qual params body scope dV kV doc pm an cdv ct) hroom.room (O.keep _ _ (G.X _ _ ho)) rfl hco hgen rfl (codeRec_of (G.X.keeps O.keep) hcd) ?_
  rw [hb]
  refine wpAny_bind (wpAny_newObj_type (wpAny_pure ?_) (by show vs.toArray.size ≤ sizeLine; rw [List.size_toArray, sizeLine_eq]; omega))
  have h' := h s.heap.objs.size
  have hcv' := hcv s.heap.objs.size
  generalize s.heap.objs.size = T at *
  generalize s.heap.push { cls := .type "tuple", dict := none, data := .seq vs.toArray } = H at *
  refine wpAny_newFunctionEnv_cells hk (kindsX (hkind _) _) fun env' he s' x => ?_
  subst he
  obtain ⟨h₁, tk, rfl, _⟩ := x.done
  have hk₁ := x.toInCall.keep
  refine ⟨(G.nolimit.keeps O₁.keep).keeps hk₁, codeAny_func ?_⟩
  have e := hcl H.objs.size
  have h2 := h' H.objs.size h₁ tk
  rw [← hcv'] at h2
  rw [← e] at h2
  have x1 := x.cell
  have x2 := x.apart
  have x3 := x.above
  have x4 := x.toInCall.ns
  have nd2 : ((cellsFrom (H.objs.size + 1) scope.names []).map (·.1)).Nodup := cellsFrom_names scope.names 0 (H.objs.size + 1) [] [] rfl ▸ hnd
  refine wpAny_mono (h2 ⟨x4, O₁.noSize, fun q => ?_, fun b o e => hk₁ b o (O₁.keep b o e), fun p hp => ?_, ?_⟩) (fun _ _ x => x) fun _ _ x => x.elim
  · rw [List.map_append] at q
    rcases List.mem_append.mp q with q | q
    · obtain ⟨p, hp, e⟩ := List.mem_map.mp q
      obtain ⟨y, hy, rfl⟩ := List.mem_map.mp hp
      exact absurd (x3 y.1 y.2 hy) (by have e' : y.2 = H.objs.size := e; rw [e']; exact Nat.lt_irrefl _)
    · obtain ⟨p, hp, e⟩ := List.mem_map.mp q
      exact absurd (O₁.own p hp).1.lt (by rw [e]; exact Nat.lt_irrefl _)
  · rcases List.mem_append.mp hp with hp | hp
    · obtain ⟨y, hy, rfl⟩ := List.mem_map.mp hp
      refine ⟨x1 y.1 y.2 (lookup_of_mem_nodup nd2 hy), ?_⟩
      cases q : g.get? y.2 with
      | none => rfl
      | some o => exact absurd (Heap.lt_size (O₁.keep _ _ q)) (Nat.not_lt.mpr (Nat.le_of_lt (x3 y.1 y.2 hy)))
    · exact ⟨(O₁.own p hp).1.keeps hk₁, (O₁.own p hp).2⟩
  · rw [List.map_append]
    refine List.nodup_append.mpr ⟨?_, O₁.nd, fun a ha b hb e => ?_⟩
    · rw [List.map_map]
      exact List.pairwise_map.mpr x2
    · obtain ⟨p, hp, rfl⟩ := List.mem_map.mp ha
      obtain ⟨y, hy, rfl⟩ := List.mem_map.mp hp
      obtain ⟨q, hq, rfl⟩ := List.mem_map.mp hb
      have h1 := x3 y.1 y.2 hy
      have h2 := (O₁.own q hq).1.lt
      have e' : y.2 = q.1 := e
      rw [← e'] at h2
      exact absurd h1 (Nat.not_lt.mpr (Nat.le_of_lt h2))
end
end
section

abbrev eX (cs : Scope) (L : Addr) (cl : List (Str × Addr)) (q : Str) (fo : Option Addr) (co : Value) (fr : Option Addr) : Env :=
  { scope := cs, locals := L, globals := mainGlobals, cells := cl, qual := q, func := fo, code := co, frame := fr, builtins := builtinsNs }

section
variable {M : Model} {w : World} {A : Around} {E : Value → Shared → Prop} {s : Shared} {g : Heap} {L a : Addr} {m : Str → Option Value} {q : Str} {cs : Scope} {fo : Option Addr} {co : Value} {fr : Option Addr} {cl : List (Str × Addr)}
  {x : Str} {pos : Pos} {v : Value} {Q : Value → Shared → Prop} {news : Led} {c : Addr}

theorem nL (S : St g L s.heap m news) (hv : m x = some v) (h : Q v s)
    (hk : cs.kind = .function := by rfl) (hx : (eX cs L cl q fo co fr).kindOf x = some .local := by rfl) (hd : (x == ("__debug__" : Str)) = false := by decide) :
    wpAny M A (eval (.Name x pos) (eX cs L cl q fo co fr)) Q E s := wpAny_Name (wpAny_loadName_local hk hx S.ns hv h) hd
theorem nlL (S : St g L s.heap m news) (hv : m x = some v) (h : Q v s)
    (hk : cs.kind = .function := by rfl) (hx : (eX cs L cl q fo co fr).kindOf x = some .local := by rfl) :
    wpAny M A (loadName (eX cs L cl q fo co fr) x) Q E s := wpAny_loadName_local hk hx S.ns hv h
theorem nK (S : St g L s.heap m news) (G : Gd w g) (e : nsIn (K1 w.params) mainGlobals x = some (some v)) (h : Q v s)
    (hk : cs.kind = .function := by rfl) (hx : (eX cs L cl q fo co fr).kindOf x = some .globalImplicit := by rfl) (hd : (x == ("__debug__" : Str)) = false := by decide) :
    wpAny M A (eval (.Name x pos) (eX cs L cl q fo co fr)) Q E s := by
  obtain ⟨X, ⟨p, l, mg, mb, T⟩, _⟩ := G
  exact Name_function_global hk hx (loadGlobal_global (env := eX cs L cl q fo co fr) (T.g.keeps S.keep) (mg_of X T.g e) h) hd
theorem nB (S : St g L s.heap m news) (G : Gd w g) (e : nsIn (K1 w.params) mainGlobals x = some none) (hv : bootBuiltins x = some v) (hn : x ≠ "__name__") (h : Q v s)
    (hk : cs.kind = .function := by rfl) (hx : (eX cs L cl q fo co fr).kindOf x = some .globalImplicit := by rfl) (hd : (x == ("__debug__" : Str)) = false := by decide) :
    wpAny M A (eval (.Name x pos) (eX cs L cl q fo co fr)) Q E s := by
  obtain ⟨X, ⟨p, l, mg, mb, T⟩, _⟩ := G
  exact Name_function_global hk hx (loadGlobal_builtin (env := eX cs L cl q fo co fr) (T.g.keeps S.keep) (mg_none_of X T.g e) (T.b.keeps S.keep) ((T.builtins x hn).trans hv) h) hd
theorem nC (hc : cl.lookup x = some c) (hm : At s.heap (c, isCell (some v))) (h : Q v s)
    (hk : cs.kind = .function := by rfl) (hx : (eX cs L cl q fo co fr).kindOf x = some .cell := by rfl) (hb : (x == ("__debug__" : Str)) = false := by decide) :
    wpAny M A (eval (.Name x pos) (eX cs L cl q fo co fr)) Q E s := wpAny_Name (wpAny_loadName_cell hk hx hc hm h) hb
theorem nF (hc : cl.lookup x = some c) (hm : At s.heap (c, isCell (some v))) (h : Q v s)
    (hk : cs.kind = .function := by rfl) (hx : (eX cs L cl q fo co fr).kindOf x = some .free := by rfl) (hb : (x == ("__debug__" : Str)) = false := by decide) (hn : (x == ("__classdict__" : Str)) = false := by decide) :
    wpAny M A (eval (.Name x pos) (eX cs L cl q fo co fr)) Q E s := wpAny_Name (wpAny_loadName_free hk hx hc hm h hn) hb
end

section
variable {M : Model} {A : Around} {E : Value → Shared → Prop} {s : Shared} {g : Heap} {L a : Addr} {m : Str → Option Value} {q : Str} {cs : Scope} {fo : Option Addr} {co : Value} {fr : Option Addr} {cl : List (Str × Addr)}
  {x : Str} {v : Value} {Q : Unit → Shared → Prop} {news pre post : Led} {c : Addr} {v₀ : Option Value}
theorem stL (S : St g L s.heap m news)
    (h : ∀ h' tk, St g L h' (fun y => if y = x then some v else m y) news → Q () { s with heap := h', toks := tk })
    (hk : cs.kind = .function := by rfl) (hx : (eX cs L cl q fo co fr).kindOf x = some .local := by rfl) : wpAny M A (storeName (eX cs L cl q fo co fr) x v) Q E s :=
  wpAny_storeName_local hx S.ns (fun h' hn hs => h h' _ (S.setNs hn hs)) (by show (cs.kind == .class || (cs.kind == .module && L != mainGlobals)) = false; rw [hk]; rfl)
theorem stC (S : St g L s.heap m (pre ++ (c, isCell v₀) :: post)) (hc : cl.lookup x = some c)
    (h : ∀ h' tk, St g L h' m (pre ++ (c, isCell (some v)) :: post) → Q () { s with heap := h', toks := tk })
    (hk : cs.kind = .function := by rfl) (hx : (eX cs L cl q fo co fr).kindOf x = some .cell := by rfl) : wpAny M A (storeName (eX cs L cl q fo co fr) x v) Q E s := by
  have hmem := S.get (a := c) (P := isCell v₀) (by simp)
  exact wpAny_storeName_cell hk hx hc hmem fun h' hv hs => h h' s.toks (S.upd hs hv)
theorem stC_0 (S : St g L s.heap m ((c, isCell v₀) :: post)) (hc : cl.lookup x = some c)
    (h : ∀ h' tk, St g L h' m ((c, isCell (some v)) :: post) → Q () { s with heap := h', toks := tk })
    (hk : cs.kind = .function := by rfl) (hx : (eX cs L cl q fo co fr).kindOf x = some .cell := by rfl) : wpAny M A (storeName (eX cs L cl q fo co fr) x v) Q E s := stC (pre := []) S hc h hk hx
theorem stC_1 {p0 : Addr × (Obj → Prop)} (S : St g L s.heap m (p0 :: (c, isCell v₀) :: post)) (hc : cl.lookup x = some c)
    (h : ∀ h' tk, St g L h' m (p0 :: (c, isCell (some v)) :: post) → Q () { s with heap := h', toks := tk })
    (hk : cs.kind = .function := by rfl) (hx : (eX cs L cl q fo co fr).kindOf x = some .cell := by rfl) : wpAny M A (storeName (eX cs L cl q fo co fr) x v) Q E s := stC (pre := [p0]) S hc h hk hx
theorem stC_2 {p0 p1 : Addr × (Obj → Prop)} (S : St g L s.heap m (p0 :: p1 :: (c, isCell v₀) :: post)) (hc : cl.lookup x = some c)
    (h : ∀ h' tk, St g L h' m (p0 :: p1 :: (c, isCell (some v)) :: post) → Q () { s with heap := h', toks := tk })
    (hk : cs.kind = .function := by rfl) (hx : (eX cs L cl q fo co fr).kindOf x = some .cell := by rfl) : wpAny M A (storeName (eX cs L cl q fo co fr) x v) Q E s := stC (pre := [p0, p1]) S hc h hk hx
theorem stC_3 {p0 p1 p2 : Addr × (Obj → Prop)} (S : St g L s.heap m (p0 :: p1 :: p2 :: (c, isCell v₀) :: post)) (hc : cl.lookup x = some c)
    (h : ∀ h' tk, St g L h' m (p0 :: p1 :: p2 :: (c, isCell (some v)) :: post) → Q () { s with heap := h', toks := tk })
    (hk : cs.kind = .function := by rfl) (hx : (eX cs L cl q fo co fr).kindOf x = some .cell := by rfl) : wpAny M A (storeName (eX cs L cl q fo co fr) x v) Q E s := stC (pre := [p0, p1, p2]) S hc h hk hx
theorem stC_4 {p0 p1 p2 p3 : Addr × (Obj → Prop)} (S : St g L s.heap m (p0 :: p1 :: p2 :: p3 :: (c, isCell v₀) :: post)) (hc : cl.lookup x = some c)
    (h : ∀ h' tk, St g L h' m (p0 :: p1 :: p2 :: p3 :: (c, isCell (some v)) :: post) → Q () { s with heap := h', toks := tk })
    (hk : cs.kind = .function := by rfl) (hx : (eX cs L cl q fo co fr).kindOf x = some .cell := by rfl) : wpAny M A (storeName (eX cs L cl q fo co fr) x v) Q E s := stC (pre := [p0, p1, p2, p3]) S hc h hk hx
end

section
variable {M : Model} {prog : Program} {w : World} {A : Around} {E : Value → Shared → Prop} {s : Shared} {g : Heap} {L a l : Addr} {m : Str → Option Value} {news pre post : Led} {Q : Value → Shared → Prop}

theorem newList_S {vs : List Value} (S : St g L s.heap m news)
    (h : ∀ l h', St g L h' m ((l, isL vs) :: news) → Q (.ref l) { s with heap := h' }) (hsz : vs.length ≤ sizeLine := by size_fits) : wpAny M A (newList vs) Q E s :=
  wpAny_newObj_type (h _ _ (S.push _ ⟨0, rfl⟩)) (by show vs.toArray.size ≤ sizeLine; rw [List.size_toArray]; exact hsz)
theorem newTuple_S {vs : List Value} (S : St g L s.heap m news)
    (h : ∀ l h', St g L h' m ((l, isT vs) :: news) → Q (.ref l) { s with heap := h' }) (hsz : vs.length ≤ sizeLine := by size_fits) : wpAny M A (newTuple vs) Q E s :=
  wpAny_newObj_type (h _ _ (S.push _ ⟨rfl, 0, rfl⟩)) (by show vs.toArray.size ≤ sizeLine; rw [List.size_toArray]; exact hsz)

theorem plain_of {h : Heap} {l : Addr} {vs : List Value} (x : At h (l, isL vs)) : h.PlainList l vs.toArray := let ⟨_, a, n, e⟩ := x; ⟨n, e ▸ a⟩
theorem isList_of {h : Heap} {l : Addr} {vs : List Value} (x : At h (l, isL vs)) : h.IsList l vs.toArray := (plain_of x).isList
theorem isList_lo {h : Heap} {l : Addr} {vs : List Value} (x : At h (l, isLo vs)) : h.IsList l vs.toArray := let ⟨o, a, b, c⟩ := x; ⟨o, a, b, c⟩
theorem isTup_of {h : Heap} {l : Addr} {vs : List Value} (x : At h (l, isT vs)) : IsTup h l vs.toArray := let ⟨o, a, b, c⟩ := x; ⟨o, a, b, c⟩
theorem at_list {h : Heap} {l : Addr} {vs : Array Value} (x : h.PlainList l vs) : At h (l, isL vs.toList) := let ⟨n, a⟩ := x; ⟨_, a, n, by simp⟩
theorem mapSeq_set_plain (its : Array Value) (n : Nat) (j : Nat) (x : Value) : ∃ n', Obj.mapSeq (·.setIfInBounds j x) { cls := .type "list", data := .seq its n } = { cls := .type "list", data := .seq (its.setIfInBounds j x) n' } := by
  simp [Obj.mapSeq]
theorem setItem_plain {prog : Program} {w : World} {A : Around} {E : Value → Shared → Prop} {s : Shared} {l : Addr} {items : Array Value} {k : Int} {t : Tok} {v : Value} {Q : Unit → Shared → Prop} (hl : s.heap.PlainList l items)
    (h0 : 0 ≤ k) (hfit : k < 2 ^ 63) (hn : k < items.size)
    (hQ : ∀ h', h'.PlainList l (items.setIfInBounds k.toNat v) → Heap.SameBut l s.heap h' → Q () { s with heap := h' }) :
    wpAny (model prog w) A (setItem (.ref l) (.int k t) v) Q E s := by
  obtain ⟨n, ho⟩ := hl
  have hT : s.TypeIs (.ref l) "list" := ⟨_, ho, rfl⟩
  unfold setItem
  try with_reducible refine wpAny_holding ?_
  first | refine wpAny_bind (wpAny_pure ?_) | skip
  refine wpAny_bind (wpAny_sequenceKey hT (by decide) ?_)
  refine wpAny_bind (wpAny_callSpecial?_slot (name := Str.ofString "__setitem__") hT PySem.slot_list_setitem
    (wpAny_call_entry PySem.slot_list_setitem hT PySem.entry_list_setitem ?_ (PySem.args_list_setitem _ _ _)))
  show wpAny _ _ (Builtin.List.listSubscript? (.int k t) >>= _) _ _ s
  refine wpAny_bind (wpAny_listSubscript_int (fitsIndex_of h0 hfit) ?_)
  clear hfit
  obtain ⟨j, rfl⟩ := Int.eq_ofNat_of_zero_le h0
  have hj : j < items.size := by omega
  have hx' : items[j]? = some items[j] := Array.getElem?_eq_getElem hj
  show wpAny _ _ ((seqItemAt l j >>= fun r => pure (r.map (j, ·))) >>= _) _ _ s
  refine wpAny_bind (wpAny_bind (wpAny_seqItemAt ho rfl (wpAny_pure ?_)))
  rw [hx']
  show wpAny _ _ (setSeqItemAt l j v >>= _) _ _ s
  obtain ⟨n', hd'⟩ := mapSeq_set_plain items n j v
  have hfin : (s.heap.update l (Obj.mapSeq (·.setIfInBounds j v))).PlainList l (items.setIfInBounds j v) :=
    ⟨n', by rw [Heap.get?_update_self _ ho (by rw [hd']; rfl), hd']⟩
  refine wpAny_bind (wpAny_setSeqItemAt ho rfl ?_)
  first
    | exact wpAny_bind (wpAny_pure (wpAny_pure ⟨.none, rfl, wpAny_pure (hQ _ hfin (Heap.SameBut.update ..))⟩))
    | exact wpAny_pure ⟨.none, rfl, wpAny_pure (hQ _ hfin (Heap.SameBut.update ..))⟩

/-- an item of a list at an index in bounds -/
theorem subL {value slice : Expr} {vs : List Value} {k : Int} {u : Tok} {v : Value} (hm : s.heap.IsList l vs.toArray) (h0 : 0 ≤ k) (hhi : k < 2 ^ 63) (hx : vs[k.toNat]? = some v) (h : Q v s)
    (hs : subscripted slice false (.ref l) (.int k u) = operate [.ref l, .int k u] (getItem (.ref l) (.int k u)) := by with_unfolding_all rfl) :
    wpAny (model prog w) A (subscriptTail value slice (.ref l) (.int k u)) Q E s :=
  tail_any hm.typeIs slot_list_getitem.lookup (wpAny_getItem_list hm h0 hhi (by simpa using hx) h) hs
theorem setL {vs : List Value} {k : Int} {t : Tok} {v : Value} {Q : Unit → Shared → Prop} (S : St g L s.heap m (pre ++ (l, isL vs) :: post))
    (h0 : 0 ≤ k) (hfit : k < 2 ^ 63) (hn : k < vs.length)
    (hQ : ∀ h', St g L h' m (pre ++ (l, isL (vs.set k.toNat v)) :: post) → Q () { s with heap := h' }) :
    wpAny (model prog w) A (setItem (.ref l) (.int k t) v) Q E s := by
  have hl := plain_of (S.get (a := l) (P := isL vs) (by simp))
  refine setItem_plain hl h0 hfit (by simpa using hn) fun h' hl' hs => hQ h' (S.upd hs ?_)
  have := at_list hl'
  simpa using this
theorem setL_0 {vs : List Value} {k : Int} {t : Tok} {v : Value} {Q : Unit → Shared → Prop} (S : St g L s.heap m ((l, isL vs) :: post))
    (h0 : 0 ≤ k) (hfit : k < 2 ^ 63) (hn : k < vs.length)
    (hQ : ∀ h', St g L h' m ((l, isL (vs.set k.toNat v)) :: post) → Q () { s with heap := h' }) :
    wpAny (model prog w) A (setItem (.ref l) (.int k t) v) Q E s := setL (pre := []) S h0 hfit hn hQ
theorem setL_1 {vs : List Value} {p0 : Addr × (Obj → Prop)} {k : Int} {t : Tok} {v : Value} {Q : Unit → Shared → Prop} (S : St g L s.heap m (p0 :: (l, isL vs) :: post))
    (h0 : 0 ≤ k) (hfit : k < 2 ^ 63) (hn : k < vs.length)
    (hQ : ∀ h', St g L h' m (p0 :: (l, isL (vs.set k.toNat v)) :: post) → Q () { s with heap := h' }) :
    wpAny (model prog w) A (setItem (.ref l) (.int k t) v) Q E s := setL (pre := [p0]) S h0 hfit hn hQ
theorem setL_2 {vs : List Value} {p0 p1 : Addr × (Obj → Prop)} {k : Int} {t : Tok} {v : Value} {Q : Unit → Shared → Prop} (S : St g L s.heap m (p0 :: p1 :: (l, isL vs) :: post))
    (h0 : 0 ≤ k) (hfit : k < 2 ^ 63) (hn : k < vs.length)
    (hQ : ∀ h', St g L h' m (p0 :: p1 :: (l, isL (vs.set k.toNat v)) :: post) → Q () { s with heap := h' }) :
    wpAny (model prog w) A (setItem (.ref l) (.int k t) v) Q E s := setL (pre := [p0, p1]) S h0 hfit hn hQ
theorem setL_3 {vs : List Value} {p0 p1 p2 : Addr × (Obj → Prop)} {k : Int} {t : Tok} {v : Value} {Q : Unit → Shared → Prop} (S : St g L s.heap m (p0 :: p1 :: p2 :: (l, isL vs) :: post))
    (h0 : 0 ≤ k) (hfit : k < 2 ^ 63) (hn : k < vs.length)
    (hQ : ∀ h', St g L h' m (p0 :: p1 :: p2 :: (l, isL (vs.set k.toNat v)) :: post) → Q () { s with heap := h' }) :
    wpAny (model prog w) A (setItem (.ref l) (.int k t) v) Q E s := setL (pre := [p0, p1, p2]) S h0 hfit hn hQ
theorem lenL {vs : List Value} (hm : s.heap.IsList l vs.toArray) (hfit : vs.length ≤ 1000) (h : ∀ t tk, Q (.int (vs.length : Int) t) { s with toks := tk }) :
    wpAny (model prog w) A (call (.builtin "len") [.ref l]) Q E s :=
  len_list hm (by simp; omega) (by have := h (s.toks + 1) (s.toks + 1 + 1); simpa using this)
end
end
section

theorem toFalse {α : Type} {M : Model} {A : Around} {t : Sem α} {Q : α → Shared → Prop} {E : Value → Shared → Prop} {s : Shared} (h : wpAny M A t Q FalseE s) : wpAny M A t Q E s :=
  wpAny_mono h (fun _ _ x => x) fun _ _ x => x.elim

/-- an iterator at hand -/
structure It (prog : Program) (w : World) (A : Around) (I : Addr) (fp : List Addr) (n : Nat) (P : Nat → Value → Prop) (Si : Nat → Heap → Prop) : Prop where
  W : Walks prog w A I fp [I] n P Si
  alive : ∀ i h, Si i h → ∀ b ∈ fp, ∃ o, h.get? b = some o
theorem It.self {prog : Program} {w : World} {A : Around} {I : Addr} {fp : List Addr} {n : Nat} {P : Nat → Value → Prop} {Si : Nat → Heap → Prop} (X : It prog w A I fp n P Si) : I ∈ fp := X.W.sub I (.head _)

/-- where an iterator stands among the rest -/
structure ItOff (g : Heap) (L I : Addr) (fp : List Addr) (mu rest : Led) : Prop where
  g : g.get? I = none
  L : L ∉ fp
  mu : ∀ p ∈ mu, p.1 ∉ fp
  rest : I ∉ rest.map (·.1)

section
variable {g h h' : Heap} {L I : Addr} {fp : List Addr} {m : Str → Option Value} {mu rest : Led}
theorem St.next (S : St g L h m (mu ++ rest)) (X : ItOff g L I fp mu rest) (hI : I ∈ fp) (k : ∀ b o, b ∉ [I] → h.get? b = some o → h'.get? b = some o) : St g L h' m (mu ++ rest) := by
  have kk : ∀ b o, b ≠ I → h.get? b = some o → h'.get? b = some o := fun b o q e => k b o (by simpa using q) e
  refine ⟨S.ns.at' fun o e => kk _ o (fun q => X.L (q ▸ hI)) e, S.offg, S.offn, fun b o e => kk b o (fun q => ?_) (S.keep b o e), fun p hp => ⟨?_, (S.o.own p hp).2⟩, S.o.nd⟩
  · rw [q, X.g] at e; cases e
  · obtain ⟨o, e, hP⟩ := (S.o.own p hp).1
    refine ⟨o, kk _ _ (fun q => ?_) e, hP⟩
    rcases List.mem_append.mp hp with hp | hp
    · exact X.mu p hp (q ▸ hI)
    · exact X.rest (q ▸ List.mem_map_of_mem hp)
end

section
variable {prog : Program} {w : World} {A : Around} {s : Shared} {env : Env} {g : Heap} {Q : Flow → Shared → Prop} {I : Addr} {fp : List Addr} {n : Nat} {P : Nat → Value → Prop} {Si : Nat → Heap → Prop}

def TurnEnd (s : Shared) (g : Heap) (L : Addr) (J : (Str → Option Value) → Led → Prop) (Q : Flow → Shared → Prop) (f : Flow) (s' : Shared) : Prop := match f with
  | .ret v => Q (.ret v) s'
  | .brk => Q .next s'
  | _ => ∃ h tk m mu, s' = { s with heap := h, toks := tk } ∧ St g L h m mu ∧ J m mu

theorem TurnEnd.next {s₀ : Shared} {L : Addr} {J : (Str → Option Value) → Led → Prop} {h : Heap} {tk : Nat} {m : Str → Option Value} {mu : Led} (S : St g L h m mu) (j : J m mu) :
    TurnEnd s₀ g L J Q .next { s₀ with heap := h, toks := tk } := ⟨h, tk, m, mu, rfl, S, j⟩

/-- a for over an iterator that is at hand -/
theorem loop_S {x : Str} {px : Pos} {body : List Stmt} {m : Str → Option Value} {mu rest : Led} (J : Nat → (Str → Option Value) → Led → Prop)
    (X : It prog w A I fp n P Si) (hx : env.kindOf x = some .local) (hp : (env.scope.kind == .class || (env.scope.kind == .module && env.locals != env.globals)) = false)
    (S : St g env.locals s.heap m (mu ++ rest)) (hst : Si 0 s.heap) (off : ItOff g env.locals I fp mu rest) (j0 : J 0 m mu)
    (turn : ∀ i v m₁ mu₁ g₁ h tk, i < n → P i v → J i m₁ mu₁ → Sub g g₁ → (∀ p ∈ rest, At g₁ p) → (∀ b o, s.heap.get? b = some o → b ≠ env.locals → b ≠ I → b ∉ mu.map (·.1) → g₁.get? b = some o) →
      St g₁ env.locals h (fun y => if y = x then some v else m₁ y) mu₁ →
      wpAny (model prog w) A (execs body env) (TurnEnd s g₁ env.locals (J (i + 1)) Q) FalseE { s with heap := h, toks := tk })
    (done : ∀ m₁ mu₁ h tk, J n m₁ mu₁ → St g env.locals h m₁ (mu₁ ++ rest) → Q .next { s with heap := h, toks := tk }) :
    codeAny (model prog w) A (.forLoop (.Name x px) (.ref I) body [] env) (fun r s' => match r with | .ok f => Q f s' | .error _ => False) s := by
  refine codeAny_forLoop (fun k s' => ∃ i h tk m₁ mu₁, s' = { s with heap := h, toks := tk } ∧ Si i h ∧ St g env.locals h m₁ (mu₁ ++ rest) ∧ ItOff g env.locals I fp mu₁ rest ∧ J i m₁ mu₁ ∧
    (∀ b o, s.heap.get? b = some o → b ≠ env.locals → b ≠ I → b ∉ mu.map (·.1) → h.get? b = some o ∧ b ∉ mu₁.map (·.1)) ∧ i ≤ n ∧ k = n + 1 - i) ?_ (n + 1)
    ⟨0, s.heap, s.toks, m, mu, rfl, hst, S, off, j0, fun b o e _ _ q => ⟨e, q⟩, Nat.zero_le _, rfl⟩
  rintro k s' ⟨i, h, tk, m₁, mu₁, rfl, hsi, S₁, off₁, j₁, kept, hi, rfl⟩
  by_cases hlt : i < n
  · refine X.W.item i _ _ _ hlt hsi fun v h₁ tk₁ hP hst₁ hk₁ => ?_
    have S₂ := S₁.next off₁ X.self hk₁
    refine wpAny_assign_Name (wpAny_storeName_local hx S₂.ns (fun h₂ hn₂ hs₂ => ?_) hp)
    have S₃ := S₂.setNs hn₂ hs₂
    have hst₂ : Si (i + 1) h₂ := X.W.frame _ _ _ hst₁ fun b hb o e => (hs₂.2 b fun q => off.L (q ▸ hb)).trans e
    obtain ⟨g₁, sub₁, S₄, at₁, all₁⟩ := S₃.rebase
    have fpg : ∀ b ∈ fp, ∀ o, h₂.get? b = some o → g₁.get? b = some o := fun b hb o e => all₁ b o e (fun q => off.L (q ▸ hb)) fun q => by
      obtain ⟨p, hp, e⟩ := List.mem_map.mp q
      exact off₁.mu p hp (by rw [e]; exact hb)
    have up : ∀ b o, s.heap.get? b = some o → b ≠ env.locals → b ≠ I → b ∉ mu.map (·.1) → g₁.get? b = some o := fun b o e q1 q2 q3 => by
      obtain ⟨e1, e2⟩ := kept b o e q1 q2 q3
      exact all₁ b o ((hs₂.2 b q1).trans (hk₁ b o (by simpa using q2) e1)) q1 e2
    refine toFalse (wpAny_mono (turn i v m₁ mu₁ g₁ h₂ _ hlt hP j₁ sub₁ at₁ up S₄) (fun f s₃ h₃ => ?_) fun _ _ e => e)
    have fin : (∃ h tk m mu, s₃ = { s with heap := h, toks := tk } ∧ St g₁ env.locals h m mu ∧ J (i + 1) m mu) → ∃ m, m < n + 1 - i ∧ ∃ i h tk m₁ mu₁, s₃ = { s with heap := h, toks := tk } ∧ Si i h ∧ St g env.locals h m₁ (mu₁ ++ rest) ∧ ItOff g env.locals I fp mu₁ rest ∧ J i m₁ mu₁ ∧
        (∀ b o, s.heap.get? b = some o → b ≠ env.locals → b ≠ I → b ∉ mu.map (·.1) → h.get? b = some o ∧ b ∉ mu₁.map (·.1)) ∧ i ≤ n ∧ m = n + 1 - i := by
      rintro ⟨h₄, tk₃, m₂, mu₂, rfl, S₅, j₂⟩
      have apart : ∀ b o, g₁.get? b = some o → b ∉ mu₂.map (·.1) := fun b o e q => by
        obtain ⟨p, hp, rfl⟩ := List.mem_map.mp q
        rw [(S₅.o.own p hp).2] at e; cases e
      refine ⟨n + 1 - (i + 1), by omega, i + 1, h₄, tk₃, m₂, mu₂, rfl, ?_, ?_, ?_, j₂, fun b o e q1 q2 q3 => ⟨S₅.keep _ _ (up b o e q1 q2 q3), apart b o (up b o e q1 q2 q3)⟩, hlt, rfl⟩
      · exact X.W.frame _ _ _ hst₂ fun b hb o e => S₅.keep b o (fpg b hb o e)
      · refine ⟨S₅.ns, S.offg, fun q => ?_, fun b o e => S₅.keep b o (sub₁ b o e), fun p hp => ?_, ?_⟩
        · rw [List.map_append] at q
          rcases List.mem_append.mp q with q | q
          · exact S₅.offn q
          · exact S.offn (by rw [List.map_append]; exact List.mem_append_right _ q)
        · rcases List.mem_append.mp hp with hp | hp
          · refine ⟨(S₅.o.own p hp).1, ?_⟩
            cases q : g.get? p.1 with
            | none => rfl
            | some o => have := (S₅.o.own p hp).2; rw [sub₁ _ _ q] at this; cases this
          · exact ⟨(at₁ p hp).keeps S₅.keep, (S.o.own p (List.mem_append_right _ hp)).2⟩
        · rw [List.map_append]
          have nd := S.o.nd
          rw [List.map_append, List.nodup_append] at nd
          refine List.nodup_append.mpr ⟨S₅.o.nd, nd.2.1, fun a ha b hb e => ?_⟩
          obtain ⟨q, hq, rfl⟩ := List.mem_map.mp hb
          obtain ⟨o, eo, _⟩ := at₁ q hq
          exact apart _ _ eo (e ▸ ha)
      · refine ⟨off.g, off.L, fun p hp q => ?_, off.rest⟩
        obtain ⟨o, eo⟩ := X.alive _ _ hst₂ p.1 q
        exact apart _ _ (fpg _ q _ eo) (List.mem_map_of_mem hp)
    cases f with
    | ret v => exact h₃
    | brk => exact h₃
    | next => exact fin h₃
    | cont => exact fin h₃
  · have hin : i = n := by omega
    subst hin
    refine X.W.done _ _ _ hsi fun h₁ tk₁ hk₁ => wpAny_execs_nil ?_
    exact done m₁ mu₁ h₁ tk₁ j₁ (S₁.next off₁ X.self hk₁)

theorem for_S {x : Str} {px pos : Pos} {iter : Expr} {body : List Stmt}
    (h : wpAny (model prog w) A (eval iter env) (fun xv s₁ => wpAny (model prog w) A (pyIter xv) (fun it s₂ => ∃ I, it = .ref I ∧ codeAny (model prog w) A (.forLoop (.Name x px) (.ref I) body [] env) (fun r s' => match r with | .ok f => Q f s' | .error _ => False) s₂) FalseE s₁) FalseE s)
    (hs : ∀ x, foldedSetIterable iter env x = pure x) :
    wpAny (model prog w) A (exec (.For (.Name x px) iter body [] pos) env) Q FalseE s := by
  refine wpAny_For (wpAny_mono h (fun xv s₁ h₁ => wpAny_mono h₁ (fun it s₂ h₂ => ?_) fun _ _ e => e) fun _ _ e => e) hs
  obtain ⟨I, rfl, hc⟩ := h₂
  exact codeAny_mono hc fun r s' z => by
    cases r with
    | ok f => exact z
    | error e => exact z.elim
end
end
section

section
variable {g g₁ h h' : Heap} {L : Addr} {m m' : Str → Option Value} {news mu rest : Led} {o : Obj}
theorem St.noFrame (S : St g L h m news) (hs : Heap.SameBut L h h') : Own g h' news := by
  refine ⟨fun b o e => (hs.2 b fun q => ?_).trans (S.o.keep b o e), fun p hp => ⟨?_, (S.o.own p hp).2⟩, S.o.nd⟩
  · rw [q, S.offg] at e; cases e
  · obtain ⟨o, e, hP⟩ := (S.o.own p hp).1
    exact ⟨o, (hs.2 p.1 fun q => S.offn (q ▸ List.mem_map_of_mem hp)).trans e, hP⟩
/-- back to the smaller base -/
theorem St.unbase (S : St g₁ L h m mu) (sub : Sub g g₁) (at₁ : ∀ p ∈ rest, At g₁ p) (off : ∀ p ∈ rest, g.get? p.1 = none ∧ p.1 ≠ L) (nd : (rest.map (·.1)).Nodup) : St g L h m (mu ++ rest) := by
  have apart : ∀ b o, g₁.get? b = some o → b ∉ mu.map (·.1) := fun b o e q => by
    obtain ⟨p, hp, rfl⟩ := List.mem_map.mp q
    rw [(S.o.own p hp).2] at e; cases e
  refine ⟨S.ns, ?_, fun q => ?_, fun b o e => S.keep b o (sub b o e), fun p hp => ?_, ?_⟩
  · cases q : g.get? L with
    | none => rfl
    | some o => have := S.offg; rw [sub _ _ q] at this; cases this
  · rw [List.map_append] at q
    rcases List.mem_append.mp q with q | q
    · exact S.offn q
    · obtain ⟨p, hp, e⟩ := List.mem_map.mp q
      exact (off p hp).2 e
  · rcases List.mem_append.mp hp with hp | hp
    · refine ⟨(S.o.own p hp).1, ?_⟩
      cases q : g.get? p.1 with
      | none => rfl
      | some o => have := (S.o.own p hp).2; rw [sub _ _ q] at this; cases this
    · exact ⟨(at₁ p hp).keeps S.keep, (off p hp).1⟩
  · rw [List.map_append]
    refine List.nodup_append.mpr ⟨S.o.nd, nd, fun a ha b hb e => ?_⟩
    obtain ⟨q, hq, rfl⟩ := List.mem_map.mp hb
    obtain ⟨o, eo, _⟩ := at₁ q hq
    exact apart _ _ eo (e ▸ ha)
end

section
variable {prog : Program} {w : World} {A : Around} {s : Shared} {env : Env} {g : Heap} {Q : Value → Shared → Prop} {I : Addr} {fp : List Addr} {n : Nat} {P : Nat → Value → Prop} {Si : Nat → Heap → Prop}

def LcEnd (s : Shared) (g₁ : Heap) (C : Addr) (J : List Value → Led → Prop) (ys : List Value) (y : Value) (s' : Shared) : Prop :=
  ∃ h' tk' m' mu₂, s' = { s with heap := h', toks := tk' } ∧ St g₁ C h' m' mu₂ ∧ J (ys ++ [y]) mu₂
theorem LcEnd.mk {s : Shared} {g₁ : Heap} {C : Addr} {J : List Value → Led → Prop} {ys : List Value} {y : Value} {h : Heap} {tk : Nat} {m : Str → Option Value} {mu : Led} (S : St g₁ C h m mu) (j : J (ys ++ [y]) mu) : LcEnd s g₁ C J ys y { s with heap := h, toks := tk } :=
  ⟨h, tk, m, mu, rfl, S, j⟩
/-- the loop of a list comprehension without tests -/
theorem lcLoop {elt iter : Expr} {x : Str} {px : Pos} {scope : Scope} {pos : Pos} {cenv : Env} {D : Addr} {m : Str → Option Value} {mu : Led} {R : Result → Shared → Prop}
    (J : Nat → List Value → Led → Prop) (X : It prog w A I fp n P Si) (hn : n ≤ sizeLine) (hx : cenv.kindOf x = some .local) (hp : (cenv.scope.kind == .class || (cenv.scope.kind == .module && cenv.locals != cenv.globals)) = false)
    (S : St g cenv.locals s.heap m (mu ++ [(D, isL [])])) (hst : Si 0 s.heap) (off : ItOff g cenv.locals I fp mu [(D, isL [])]) (hD : D ∉ fp) (j0 : J 0 [] mu)
    (turn : ∀ i v ys (m₁ : Str → Option Value) mu₁ g₁ h tk, i < n → P i v → J i ys mu₁ → Sub g g₁ →
      St g₁ cenv.locals h (fun y => if y = x then some v else m₁ y) mu₁ →
      wpAny (model prog w) A (eval elt cenv) (LcEnd s g₁ cenv.locals (J (i + 1)) ys) FalseE { s with heap := h, toks := tk })
    (done : ∀ ys m₁ mu₁ h tk, J n ys mu₁ → St g cenv.locals h m₁ (mu₁ ++ [(D, isL ys)]) → R (.ok .next) { s with heap := h, toks := tk }) :
    codeAny (model prog w) A (.compLoop (.ListComp elt [⟨.Name x px, iter, [], 0⟩] scope pos) 0 (.ref I) (.ref D) cenv) R s := by
  refine codeAny_compLoop_list (fun k s' => ∃ i h tk m₁ ys mu₁, s' = { s with heap := h, toks := tk } ∧ Si i h ∧ St g cenv.locals h m₁ (mu₁ ++ [(D, isL ys)]) ∧ (∀ p ∈ mu₁, p.1 ∉ fp) ∧ J i ys mu₁ ∧ ys.length = i ∧ i ≤ n ∧ k = n + 1 - i) ?_ (n + 1)
    ⟨0, s.heap, s.toks, m, [], mu, rfl, hst, S, off.mu, j0, rfl, Nat.zero_le _, rfl⟩
  rintro k s' ⟨i, h, tk, m₁, ys, mu₁, rfl, hsi, S₁, off₁, j₁, hl, hi, rfl⟩
  have O₁ : ItOff g cenv.locals I fp mu₁ [(D, isL ys)] := ⟨off.g, off.L, off₁, fun q => off.rest (by simpa using q)⟩
  by_cases hlt : i < n
  · refine X.W.item i _ _ _ hlt hsi fun v h₁ tk₁ hP hst₁ hk₁ => ?_
    have S₂ := S₁.next O₁ X.self hk₁
    refine wpAny_assign_Name (wpAny_storeName_local hx S₂.ns (fun h₂ hn₂ hs₂ => ?_) hp)
    have S₃ := S₂.setNs hn₂ hs₂
    have hst₂ : Si (i + 1) h₂ := X.W.frame _ _ _ hst₁ fun b hb o e => (hs₂.2 b fun q => off.L (q ▸ hb)).trans e
    obtain ⟨g₁, sub₁, S₄, at₁, all₁⟩ := S₃.rebase
    have fpg : ∀ b ∈ fp, ∀ o, h₂.get? b = some o → g₁.get? b = some o := fun b hb o e => all₁ b o e (fun q => off.L (q ▸ hb)) fun q => by
      obtain ⟨p, hp, e⟩ := List.mem_map.mp q
      exact off₁ p hp (by rw [e]; exact hb)
    refine toFalse (wpAny_mono (turn i v ys m₁ mu₁ g₁ h₂ _ hlt hP j₁ sub₁ S₄) (fun y s₃ h₃ => ?_) fun _ _ e => e)
    obtain ⟨h₃, tk₃, m₂, mu₂, rfl, S₅, j₂⟩ := h₃
    have apart : ∀ b o, g₁.get? b = some o → b ∉ mu₂.map (·.1) := fun b o e q => by
      obtain ⟨p, hp, rfl⟩ := List.mem_map.mp q
      rw [(S₅.o.own p hp).2] at e; cases e
    have S₆ := S₅.unbase sub₁ at₁ (fun p hp => by
      rw [List.mem_singleton.mp hp]
      exact ⟨(S₁.o.own (D, isL ys) (List.mem_append_right _ (.head _))).2, S₁.neL (List.mem_append_right _ (.head _))⟩) (by simp)
    have hDl := plain_of (S₆.get (a := D) (P := isL ys) (List.mem_append_right _ (.head _)))
    refine wpAny_list_append_plain hDl (fun h₄ hl₄ hs₄ => ?_) (by simp; omega)
    have aD : At h₄ (D, isL (ys ++ [y])) := by
      have := at_list hl₄
      simpa using this
    have S₇ := S₆.upd (post := []) hs₄ aD
    have hDg : ∀ b ∈ fp, ∀ o, h₂.get? b = some o → h₄.get? b = some o := fun b hb o e => (hs₄.2 b fun q => hD (q ▸ hb)).trans (S₅.keep b o (fpg b hb o e))
    refine ⟨n + 1 - (i + 1), by omega, i + 1, h₄, tk₃, m₂, ys ++ [y], mu₂, rfl, X.W.frame _ _ _ hst₂ hDg, S₇, fun p hp q => ?_, j₂, by simp [hl], hlt, rfl⟩
    obtain ⟨o, eo⟩ := X.alive _ _ hst₂ p.1 q
    exact apart _ _ (fpg _ q _ eo) (List.mem_map_of_mem hp)
  · have hin : i = n := by omega
    subst hin
    refine X.W.done _ _ _ hsi fun h₁ tk₁ hk₁ => ?_
    exact done ys m₁ mu₁ h₁ tk₁ j₁ (S₁.next O₁ X.self hk₁)

/-- a list comprehension without tests, its iterator at hand -/
theorem lcAt {elt iter : Expr} {x : Str} {px : Pos} {scope : Scope} {pos : Pos} {cl : List (Str × Addr)} {m : Str → Option Value} {mu rest : Led} {PI : Obj → Prop} {RR : Value → Addr → Result → Shared → Prop}
    (J : Nat → List Value → Led → Prop) (hcell : ∀ y ∈ scope.names, y.2 ≠ .cell) (hkind : scope.kind = .function) (hx : scope.names.lookup x = some .local)
    (X : It prog w A I fp n P Si) (hn : n ≤ sizeLine) (hst : Si 0 s.heap) (S : St g env.locals s.heap m ((I, PI) :: mu ++ rest)) (hmu : ∀ p ∈ mu, p.1 ∉ fp) (hfp : ∀ b ∈ fp, b < s.heap.objs.size) (j0 : J 0 [] mu)
    (turn : ∀ i v ys (m₁ : Str → Option Value) mu₁ g₁ C h tk, i < n → P i v → J i ys mu₁ → Sub g g₁ → (∀ p ∈ rest, At g₁ p) → (∀ b o, s.heap.get? b = some o → b ≠ I → b ∉ mu.map (·.1) → g₁.get? b = some o) →
      St g₁ C h (fun y => if y = x then some v else m₁ y) mu₁ →
      wpAny (model prog w) A (eval elt (compEnvC scope cl C env)) (LcEnd s g₁ C (J (i + 1)) ys) FalseE { s with heap := h, toks := tk })
    (done : ∀ ys mu₁ D C m' h tk, J n ys mu₁ → h.Ns C m' → g.get? C = none → C ≠ env.locals → C ∉ ((D, isL ys) :: mu₁ ++ rest).map (·.1) → St g env.locals h m ((D, isL ys) :: mu₁ ++ rest) → RR (.ref D) C (.ok .next) { s with heap := h, toks := tk }) :
    wpAny (model prog w) A (newList []) (fun acc s₃ => wpAny (model prog w) A (newFunctionEnv scope env.globals cl [] env.qual none .none (some env)) (fun cenv s₄ =>
      codeAny (model prog w) A (.compStart (.ListComp elt [⟨.Name x px, iter, [], 0⟩] scope pos) 0 (.ref I) acc { cenv with scope := relabel scope env }) (RR acc cenv.locals) s₄) FalseE s₃) FalseE s := by
  have nd := S.o.nd
  obtain ⟨g', hg, O, hrest, hall, back⟩ := S.lend ((I, PI) :: mu) rest (fun p hp => List.mem_append_left _ hp) (fun p hp => List.mem_append_right _ hp) (by rw [List.map_append] at nd; exact nd)
  refine wpAny_newObj_type ?_
  have O₁ := O.push (P := isL []) { cls := .type "list", dict := none, data := .seq ([] : List Value).toArray } ⟨0, rfl⟩
  refine wpAny_newFunctionEnv hcell (by intro y hy; simp at hy) (fun h₁ hns₁ hsb₁ => ?_) hkind
  have S₁ := O₁.frame hns₁ hsb₁
  have hDf : s.heap.objs.size ∉ fp := fun q => Nat.lt_irrefl _ (hfp _ q)
  have lt2 : ∀ b ∈ fp, b < (s.heap.push { cls := .type "list", dict := none, data := .seq ([] : List Value).toArray }).objs.size := fun b hb => by rw [Heap.size_push]; exact Nat.lt_succ_of_lt (hfp b hb)
  have hst₁ : Si 0 h₁ := X.W.frame _ _ _ hst fun b hb o e => (hsb₁.2 b fun q => absurd (lt2 b hb) (by rw [q]; exact Nat.lt_irrefl _)).trans (Heap.get?_push_of_some _ (Heap.get?_push_of_some _ e))
  have S₂ : St g' (s.heap.push { cls := .type "list", dict := none, data := .seq ([] : List Value).toArray }).objs.size h₁ _ (mu ++ [(s.heap.objs.size, isL [])]) := S₁.sub (fun p hp => by
    rcases List.mem_append.mp hp with hp | hp
    · exact .tail _ (.tail _ hp)
    · rw [List.mem_singleton.mp hp]; exact .head _) (by
    have nd₁ := S₁.o.nd
    rw [List.map_cons, List.map_cons, List.nodup_cons, List.nodup_cons] at nd₁
    rw [List.map_append]
    refine List.nodup_append.mpr ⟨nd₁.2.2, by simp, fun a ha b hb e => ?_⟩
    rw [List.map_cons, List.map_nil, List.mem_singleton] at hb
    exact nd₁.1 (.tail _ (by rw [← hb, ← e]; exact ha)))
  have loop : ∀ s₃ : Shared, s₃ = { s with heap := h₁, toks := s.toks + ([] : List (Str × Value)).length } →
      codeAny (model prog w) A (.compLoop (.ListComp elt [⟨.Name x px, iter, [], 0⟩] scope pos) 0 (.ref I) (.ref s.heap.objs.size) (compEnvC scope cl (s.heap.push { cls := .type "list", dict := none, data := .seq ([] : List Value).toArray }).objs.size env))
        (RR (.ref s.heap.objs.size) (s.heap.push { cls := .type "list", dict := none, data := .seq ([] : List Value).toArray }).objs.size) s₃ := by
    rintro s₃ rfl
    refine lcLoop (g := g') (cenv := compEnvC scope cl _ env) J X hn (lookup_relabel_local hx) (by simp [compEnvC, relabel, hkind]) S₂ hst₁
      ⟨(O.own (I, PI) (.head _)).2, fun q => absurd (lt2 _ q) (Nat.lt_irrefl _), hmu, fun q => ?_⟩ hDf j0 (fun i v ys m₁ mu₁ g₁ h tk hi hP j sub S' => ?_) fun ys m₁ mu₁ h tk j S' => ?_
    · have : I = s.heap.objs.size := by simpa using q
      exact hDf (this ▸ X.self)
    · exact turn i v ys m₁ mu₁ g₁ _ h tk hi hP j (fun b o e => sub b o (hg b o e)) (fun p hp => (hrest p hp).keeps sub) (fun b o e q1 q2 => sub b o (hall b o e (fun q => by
        rw [List.map_cons] at q
        rcases List.mem_cons.mp q with q | q
        · exact q1 q
        · exact q2 q))) S'
    · have perm : ∀ h', Own g' h' (mu₁ ++ [(s.heap.objs.size, isL ys)]) → Own g' h' ((s.heap.objs.size, isL ys) :: mu₁) := fun h' O' => O'.sub (fun p hp => by
        rcases List.mem_cons.mp hp with rfl | hp
        · exact List.mem_append_right _ (.head _)
        · exact List.mem_append_left _ hp) (by
        have nd := O'.nd
        rw [List.map_append, List.nodup_append] at nd
        rw [List.map_cons, List.nodup_cons]
        exact ⟨fun q => nd.2.2 _ q _ (by simp) rfl, nd.1⟩)
      have hgC : g.get? (s.heap.push { cls := .type "list", dict := none, data := .seq ([] : List Value).toArray }).objs.size = none := by
        cases q : g.get? (s.heap.push { cls := .type "list", dict := none, data := .seq ([] : List Value).toArray }).objs.size with
        | none => rfl
        | some o => have h7 : g'.get? (s.heap.push { cls := .type "list", dict := none, data := .seq ([] : List Value).toArray }).objs.size = none := S'.offg
                    rw [hg _ _ q] at h7; cases h7
      refine done ys mu₁ _ _ m₁ h tk j S'.ns hgC (fun q => ?_) (fun q => ?_) (back h _ (perm h S'.o))
      · have := S.ns.lt
        have h8 : (s.heap.push { cls := .type "list", dict := none, data := .seq ([] : List Value).toArray }).objs.size = env.locals := q
        rw [← h8, Heap.size_push] at this
        exact Nat.lt_irrefl _ (Nat.lt_of_succ_lt this)
      · rw [List.map_append] at q
        rcases List.mem_append.mp q with q | q
        · refine S'.offn ?_
          rw [List.map_append]
          rcases List.mem_cons.mp q with q | q
          · rw [q]; exact List.mem_append_right _ (.head _)
          · exact List.mem_append_left _ q
        · obtain ⟨p, hp, e⟩ := List.mem_map.mp q
          have h1 := (hrest p hp)
          obtain ⟨o, eo, _⟩ := h1
          have h7 : g'.get? (s.heap.push { cls := .type "list", dict := none, data := .seq ([] : List Value).toArray }).objs.size = none := S'.offg
          rw [← e, eo] at h7; cases h7
  exact codeAny_compStart_list (loop _ rfl) (X.W.self 0 _ _ _ hst₁ (loop _ rfl))

theorem St.sameBut {g h h' : Heap} {L C : Addr} {m : Str → Option Value} {news : Led} (S : St g L h m news) (hs : Heap.SameBut C h h') (hg : g.get? C = none) (hL : C ≠ L) (hn : C ∉ news.map (·.1)) : St g L h' m news := by
  refine ⟨S.ns.sameBut hs (Ne.symm hL), S.offg, S.offn, fun b o e => (hs.2 b fun q => ?_).trans (S.keep b o e), fun p hp => ⟨?_, (S.o.own p hp).2⟩, S.o.nd⟩
  · rw [q, hg] at e; cases e
  · obtain ⟨o, e, hP⟩ := (S.o.own p hp).1
    exact ⟨o, (hs.2 p.1 fun q => hn (q ▸ List.mem_map_of_mem hp)).trans e, hP⟩

/-- an iterator at hand for a list comprehension: what lcS asks for -/
def LcAt (prog : Program) (w : World) (A : Around) (env : Env) (scope : Scope) (cl : List (Str × Addr)) (elt : Expr) (x : Str) (it : Value) (s : Shared) (up : (Str → Option Value) → Addr → Str → Option Value) (fin : Addr → Heap → Nat → Prop) : Prop :=
  ∃ (g : Heap) (m : Str → Option Value) (I : Addr) (fp : List Addr) (n : Nat) (P : Nat → Value → Prop) (Si : Nat → Heap → Prop) (mu rest : Led) (PI : Obj → Prop) (J : Nat → List Value → Led → Prop), it = .ref I ∧ It prog w A I fp n P Si ∧ n ≤ sizeLine ∧ Si 0 s.heap ∧
    St g env.locals s.heap m ((I, PI) :: mu ++ rest) ∧ (∀ p ∈ mu, p.1 ∉ fp) ∧ (∀ b ∈ fp, b < s.heap.objs.size) ∧ J 0 [] mu ∧
    (∀ i v ys (m₁ : Str → Option Value) mu₁ g₁ C h tk, i < n → P i v → J i ys mu₁ → Sub g g₁ → (∀ p ∈ rest, At g₁ p) → (∀ b o, s.heap.get? b = some o → b ≠ I → b ∉ mu.map (·.1) → g₁.get? b = some o) →
      St g₁ C h (fun y => if y = x then some v else m₁ y) mu₁ →
      wpAny (model prog w) A (eval elt (compEnvC scope cl C env)) (LcEnd s g₁ C (J (i + 1)) ys) FalseE { s with heap := h, toks := tk }) ∧
    (∀ ys mu₁ D h tk, J n ys mu₁ → St g env.locals h (up m D) ((D, isL ys) :: mu₁ ++ rest) → fin D h tk)

theorem lcS {elt iter : Expr} {x : Str} {px : Pos} {scope : Scope} {pos : Pos} {cl : List (Str × Addr)} {Q : Value → Shared → Prop}
    (hclos : closureFor scope env = pure cl) (hcell : ∀ y ∈ scope.names, y.2 ≠ .cell) (hkind : scope.kind = .function) (hnames : ∀ y ∈ scope.names, y.2 = .local → scope.names.lookup y.1 = some .local) (hx : scope.names.lookup x = some .local)
    (h : wpAny (model prog w) A (eval iter env) (fun xv s₁ => wpAny (model prog w) A (pyIter xv) (fun it s₂ => LcAt prog w A env scope cl elt x it s₂ (fun m _ => m) (fun D h tk => Q (.ref D) { s₂ with heap := h, toks := tk })) FalseE s₁) FalseE s)
    (hs : ∀ x, foldedSetIterable iter env x = pure x := by intro _; rfl) :
    wpAny (model prog w) A (eval (.ListComp elt [⟨.Name x px, iter, [], 0⟩] scope pos) env) Q FalseE s := by
  rw [eval_ListComp]
  refine wpAny_comprehension_free (use := none) rfl hs hclos hkind hnames (wpAny_mono h (fun xv s₁ h₁ => wpAny_mono h₁ (fun it s₂ h₂ => ?_) fun _ _ e => e) fun _ _ e => e)
  obtain ⟨g, m, I, fp, n, P, Si, mu, rest, PI, J, rfl, X, hsz, hst, S, hmu, hfp, j0, turn, fin⟩ := h₂
  refine lcAt (RR := fun acc C => compPost (model prog w) A FalseE none Q acc C) J hcell hkind hx X hsz hst S hmu hfp j0 turn fun ys mu₁ D C m' h tk j hns hg hL hn S' => ?_
  exact ⟨m', hns, fun h' hs => fin ys mu₁ D h' tk j (S'.sameBut hs hg hL hn)⟩

/-- y = [..], the comprehension's own name swapped in -/
theorem lcAsS {elt iter : Expr} {x y : Str} {px py : Pos} {scope : Scope} {pos spos : Pos} {cl : List (Str × Addr)} {Q : Flow → Shared → Prop}
    (hsw : swapsWith (.ListComp elt [⟨.Name x px, iter, [], 0⟩] scope pos) (some (.Name y py)) spos.line env = pure true)
    (hclos : closureFor scope env = pure cl) (hcell : ∀ y ∈ scope.names, y.2 ≠ .cell) (hkind : scope.kind = .function) (hnames : ∀ y ∈ scope.names, y.2 = .local → scope.names.lookup y.1 = some .local) (hx : scope.names.lookup x = some .local)
    (hy : env.kindOf y = some .local) (hp : (env.scope.kind == .class || (env.scope.kind == .module && env.locals != env.globals)) = false)
    (h : wpAny (model prog w) A (eval iter env) (fun xv s₁ => wpAny (model prog w) A (pyIter xv) (fun it s₂ => LcAt prog w A env scope cl elt x it s₂ (fun m D => fun z => if z = y then some (.ref D) else m z) (fun D h tk => Q .next { s₂ with heap := h, toks := tk })) FalseE s₁) FalseE s)
    (hs : ∀ x, foldedSetIterable iter env x = pure x := by intro _; rfl) :
    wpAny (model prog w) A (exec (.Assign [.Name y py] (.ListComp elt [⟨.Name x px, iter, [], 0⟩] scope pos) spos) env) Q FalseE s := by
  rw [exec_Assign_Name_used _ _ _ _ hsw]
  refine wpAny_bind (wpAny_standAt (wpAny_bind ?_))
  show wpAny _ A (do let _ ← comprehension (.ListComp elt [⟨.Name x px, iter, [], 0⟩] scope pos) scope env _ (newList []) false (eval iter env) (some (assign (.Name y py) env))) _ _ s
  refine wpAny_bind (wpAny_mono (wpAny_comprehension_free (use := some (assign (.Name y py) env)) (Q := fun _ s' => Q .next s') rfl hs hclos hkind hnames
    (wpAny_mono h (fun xv s₁ h₁ => wpAny_mono h₁ (fun it s₂ h₂ => ?_) fun _ _ e => e) fun _ _ e => e)) (fun _ s' hq => wpAny_pure (wpAny_pure hq)) fun _ _ e => e)
  obtain ⟨g, m, I, fp, n, P, Si, mu, rest, PI, J, rfl, X, hsz, hst, S, hmu, hfp, j0, turn, fin⟩ := h₂
  refine lcAt (RR := fun acc C => compPost (model prog w) A FalseE (some (assign (.Name y py) env)) (fun _ s' => Q .next s') acc C) J hcell hkind hx X hsz hst S hmu hfp j0 turn fun ys mu₁ D C m' h tk j hns hg hL hn S' => ?_
  show wpAny _ A (assign (.Name y py) env (.ref D)) _ _ _
  refine wpAny_assign_Name (wpAny_storeName_local hy S'.ns (fun h₂ hn₂ hs₂ => ?_) hp)
  exact ⟨m', hns.sameBut hs₂ hL, fun h₃ hs₃ => fin ys mu₁ D h₃ _ j ((S'.setNs hn₂ hs₂).sameBut hs₃ hg hL hn)⟩
end
end
section

abbrev any : Obj → Prop := fun _ => True
section
variable {prog : Program} {w : World} {A : Around} {s : Shared} {g : Heap} {L : Addr} {m : Str → Option Value} {news : Led} {E : Value → Shared → Prop} {Q : Value → Shared → Prop}

theorem iter_range {r : Addr} {a b : Int} {t u v : Tok} {n : Nat} (hh : A.handled = none) (hr : IsRange s.heap r a b 1 t u v) (hsmall : Builtin.Range.small a b 1 = true) (hn : Builtin.Range.rangeSize a b 1 = (n : Int))
    (S : St g L s.heap m news)
    (h : ∀ I h' Si, It prog w A I [I] n (fun i v => i < n ∧ ∃ t, v = .int (a + i) t) Si → Si 0 h' → St g L h' m ((I, any) :: news) → (∀ b ∈ [I], b < h'.objs.size) → (∀ c o, s.heap.get? c = some o → h'.get? c = some o ∧ c ≠ I) → Q (.ref I) { s with heap := h' }) :
    wpAny (model prog w) A (pyIter (.ref r)) Q E s := by
  refine wpAny_pyIter_range hr hsmall (h _ _ (fun i h => IsRangeIter h s.heap.objs.size (a + (i : Nat) * 1) ((n : Int) - (i : Nat)) 1) ⟨?_, ?_⟩ ?_ (S.push _ trivial) ?_ (fun c o e => ⟨Heap.get?_push_of_some _ e, Nat.ne_of_lt (Heap.lt_size e)⟩))
  · have W := (Walks.range (prog := prog) (w := w) hh s.heap.objs.size a 1 n).bound
    refine ⟨W.sub, W.frame, fun i s Q E hi st hQ => W.item i s Q E hi st fun v h' tk hP => hQ v h' tk ⟨hP.1, ?_⟩, W.done, W.self⟩
    obtain ⟨_, t, e⟩ := hP
    rw [Int.mul_one] at e
    exact ⟨t, e⟩
  · intro i h st b hb
    rw [List.mem_singleton.mp hb]
    exact ⟨_, st⟩
  · show IsRangeIter _ _ _ _ _
    rw [hn]; simpa using Heap.get?_push_size _ rfl
  · intro b hb
    rw [List.mem_singleton.mp hb, Heap.size_push]; exact Nat.lt_succ_self _

theorem iter_list {l : Addr} {vs : List Value} (hh : A.handled = none) (hl : At s.heap (l, isL vs)) (S : St g L s.heap m news)
    (h : ∀ I h' Si, It prog w A I [I, l] vs.length (fun i v => vs[i]? = some v) Si → Si 0 h' → St g L h' m ((I, any) :: news) → (∀ b ∈ [I, l], b < h'.objs.size) → l < I → (∀ c o, s.heap.get? c = some o → h'.get? c = some o ∧ c ≠ I) → Q (.ref I) { s with heap := h' }) :
    wpAny (model prog w) A (pyIter (.ref l)) Q E s := by
  have hlt : l < s.heap.objs.size := hl.lt
  have hll := isList_of hl
  have W := Walks.list (prog := prog) (w := w) hh s.heap.objs.size l (Nat.ne_of_lt hlt) vs.toArray
  refine wpAny_pyIter_list hll (h _ _ (fun i h => h.IsListIter s.heap.objs.size l i ∧ h.IsList l vs.toArray) ⟨?_, ?_⟩ ?_ (S.push _ trivial) ?_ hlt (fun c o e => ⟨Heap.get?_push_of_some _ e, Nat.ne_of_lt (Heap.lt_size e)⟩))
  · simpa using W
  · intro i h st b hb
    rcases List.mem_cons.mp hb with rfl | hb
    · obtain ⟨o, e, _⟩ := st.1; exact ⟨o, e⟩
    · rw [List.mem_singleton.mp hb]; obtain ⟨o, e, _⟩ := st.2; exact ⟨o, e⟩
  · exact ⟨⟨_, Heap.get?_push_size _ rfl, rfl, rfl⟩, hll.at fun o e => Heap.get?_push_of_some _ e⟩
  · intro b hb
    rw [Heap.size_push]
    rcases List.mem_cons.mp hb with rfl | hb
    · exact Nat.lt_succ_self _
    · rw [List.mem_singleton.mp hb]; exact Nat.lt_succ_of_lt hlt

theorem iter_tuple {l : Addr} {vs : List Value} (hh : A.handled = none) (hl : At s.heap (l, isT vs)) (S : St g L s.heap m news)
    (h : ∀ I h' Si, It prog w A I [I, l] vs.length (fun i v => vs[i]? = some v) Si → Si 0 h' → St g L h' m ((I, any) :: news) → (∀ b ∈ [I, l], b < h'.objs.size) → l < I → (∀ c o, s.heap.get? c = some o → h'.get? c = some o ∧ c ≠ I) → Q (.ref I) { s with heap := h' }) :
    wpAny (model prog w) A (pyIter (.ref l)) Q E s := by
  have hlt : l < s.heap.objs.size := hl.lt
  have hll : s.heap.IsTuple l vs.toArray := isTup_of hl
  have W := Walks.tuple (prog := prog) (w := w) hh s.heap.objs.size l (Nat.ne_of_lt hlt) vs.toArray
  refine wpAny_pyIter_tuple hll (h _ _ (fun i h => h.IsTupleIter s.heap.objs.size l i ∧ h.IsTuple l vs.toArray) ⟨?_, ?_⟩ ?_ (S.push _ trivial) ?_ hlt (fun c o e => ⟨Heap.get?_push_of_some _ e, Nat.ne_of_lt (Heap.lt_size e)⟩))
  · simpa using W
  · intro i h st b hb
    rcases List.mem_cons.mp hb with rfl | hb
    · obtain ⟨o, e, _⟩ := st.1; exact ⟨o, e⟩
    · rw [List.mem_singleton.mp hb]; obtain ⟨o, e, _⟩ := st.2; exact ⟨o, e⟩
  · exact ⟨⟨_, Heap.get?_push_size _ rfl, rfl, rfl⟩, hll.at fun o e => Heap.get?_push_of_some _ e⟩
  · intro b hb
    rw [Heap.size_push]
    rcases List.mem_cons.mp hb with rfl | hb
    · exact Nat.lt_succ_self _
    · rw [List.mem_singleton.mp hb]; exact Nat.lt_succ_of_lt hlt

theorem iter_str {x : Str} {t : Tok} (hh : A.handled = none) (S : St g L s.heap m news)
    (h : ∀ I h' Si, It prog w A I [I] x.cps.size (SignAt x) Si → Si 0 h' → St g L h' m ((I, any) :: news) → (∀ b ∈ [I], b < h'.objs.size) → (∀ c o, s.heap.get? c = some o → h'.get? c = some o ∧ c ≠ I) → Q (.ref I) { s with heap := h' }) :
    wpAny (model prog w) A (pyIter (.str x t)) Q E s := by
  have bd : ∀ o : Obj, ∀ b ∈ [s.heap.objs.size], b < (s.heap.push o).objs.size := fun o b hb => by rw [List.mem_singleton.mp hb, Heap.size_push]; exact Nat.lt_succ_self _
  cases ha : x.cps.all (· < 128)
  · refine wpAny_pyIter_wide ha (h _ _ (fun i h => h.IsStrIter s.heap.objs.size "str_iterator" x t i) ⟨Walks.strWide hh _ x t, ?_⟩ ⟨_, Heap.get?_push_size _ rfl, rfl, rfl⟩ (S.push _ trivial) (bd _) (fun c o e => ⟨Heap.get?_push_of_some _ e, Nat.ne_of_lt (Heap.lt_size e)⟩))
    intro i h st b hb
    rw [List.mem_singleton.mp hb]; obtain ⟨o, e, _⟩ := st; exact ⟨o, e⟩
  · refine wpAny_pyIter_ascii ha (h _ _ (fun i h => h.IsStrIter s.heap.objs.size "str_ascii_iterator" x t i) ⟨Walks.strAscii hh _ x t, ?_⟩ ⟨_, Heap.get?_push_size _ rfl, rfl, rfl⟩ (S.push _ trivial) (bd _) (fun c o e => ⟨Heap.get?_push_of_some _ e, Nat.ne_of_lt (Heap.lt_size e)⟩))
    intro i h st b hb
    rw [List.mem_singleton.mp hb]; obtain ⟨o, e, _⟩ := st; exact ⟨o, e⟩
end

section
variable {prog : Program} {w : World} {A : Around} {s : Shared} {E : Value → Shared → Prop} {Q : Value → Shared → Prop}
theorem lenStr {x : Str} {t : Tok} (hf : x.cps.size ≤ 1000) (h : Q (.int x.cps.size (s.toks + 1)) { s with toks := s.toks + 1 + 1 }) : wpAny (model prog w) A (call (.builtin "len") [.str x t]) Q E s :=
  len_str (by show ¬ ((x.cps.size : Nat) : Int) ≥ 2 ^ 63; omega) h
end
section
variable {g h h' : Heap} {L a : Addr} {m : Str → Option Value} {news pre post : Led} {P P' : Obj → Prop}
/-- only the head of the ledger is lent -/
theorem St.lend1 (S : St g L h m ((a, P) :: post)) : ∃ g', Sub g g' ∧ Own g' h [(a, P)] ∧ (∀ p ∈ post, At g' p) ∧ (∀ b o, h.get? b = some o → b ≠ a → g'.get? b = some o) ∧ ∀ h' P', Own g' h' [(a, P')] → St g L h' m ((a, P') :: post) := by
  obtain ⟨g', a1, a2, a3, a4, a5⟩ := S.lend [(a, P)] post (fun p hp => by rw [List.mem_singleton.mp hp]; exact .head _) (fun p hp => .tail _ hp) S.o.nd
  exact ⟨g', a1, a2, a3, fun b o e q => a4 b o e (by simpa using q), fun h' P' O => a5 h' [(a, P')] O⟩
theorem St.own1 (S : St g L h m news) (hp : (a, P) ∈ news) : Own g h [(a, P)] := S.o.sub (fun p q => by rw [List.mem_singleton.mp q]; exact hp) (by simp)
theorem St.own0 (S : St g L h m news) : Own g h [] := S.o.sub (fun p q => by simp at q) (by simp)
/-- nothing is lent -/
theorem Own.refl (h : Heap) : Own h h [] := ⟨fun _ _ e => e, fun _ hp => by simp at hp, List.nodup_nil⟩
theorem St.call0 (S : St g L h m news) (O : Own h h' []) : St g L h' m news := S.keeps O.keep
end
end
section
open PySem PySem.W PySem.Calls PyProof.Rows PySem.Spec PySem.Builtin PySem.Builtin.Str

/-- a str by its signs -/
abbrev sw (l : List Nat) : PySem.Str := ⟨l.toArray⟩

theorem fm_range (l : List Nat) (lo : Nat) : ∀ c, ((List.range c).map fun k : Nat => ((lo : Int) + 1 * (k : Int)).toNat).filterMap (l.toArray[·]?) = (l.drop lo).take c
  | 0 => by simp
  | c + 1 => by
    rw [List.range_succ, List.map_append, List.filterMap_append, fm_range l lo c, List.take_succ]
    congr 1
    have e : ((lo : Int) + 1 * (c : Int)).toNat = lo + c := by omega
    simp only [List.map_cons, List.map_nil, e, List.getElem?_drop]
    cases h : l[lo + c]? <;> simp [List.filterMap_cons, h]

theorem sliceLH (l : List Nat) (lo hi : Nat) (h1 : lo ≤ l.length) (h2 : hi ≤ l.length) :
    (if ((1 : Int) == 1 && (sliceRange lo hi 1).length == (sw l).length) = true then sw l else ⟨((sliceRange lo hi 1).filterMap ((sw l).cps[·]?)).toArray⟩ : PySem.Str) = sw ((l.take hi).drop lo) := by
  have hc : sliceRange lo hi 1 = (List.range (hi - lo)).map fun k : Nat => ((lo : Int) + 1 * (k : Int)).toNat := by
    unfold sliceRange
    simp only [show (1 : Int) > 0 by decide, if_true, Int.ediv_one]
    congr 2
    split <;> omega
  rw [hc]
  have hl : (sw l).length = l.length := by show l.toArray.size = _; simp
  have key : (l.take hi).drop lo = (l.drop lo).take (hi - lo) := by rw [List.drop_take]
  split
  · rename_i q
    simp only [beq_self_eq_true, Bool.true_and, List.length_map, List.length_range, hl, beq_iff_eq] at q
    have : lo = 0 ∧ hi = l.length ∨ l.length = 0 := by omega
    rcases this with ⟨rfl, rfl⟩ | h0
    · simp
    · have : l = [] := List.length_eq_zero_iff.mp h0
      subst this; simp
  · rw [key]; exact congrArg (fun z : List Nat => sw z) (fm_range l lo (hi - lo))

theorem clipN (i : Int) (n : Nat) (h : 0 ≤ i) : max 0 (min (if i < 0 then i + (n : Int) else i) (n : Int)) = ((min i.toNat n : Nat) : Int) := by
  rw [if_neg (by omega)]; omega
theorem cutMin (l : List Nat) (i j : Nat) : (l.take (min j l.length)).drop (min i l.length) = (l.take j).drop i := by
  apply List.ext_getElem?
  intro k
  simp only [List.getElem?_drop, List.getElem?_take]
  by_cases h1 : min i l.length + k < min j l.length
  · rw [if_pos h1]
    have : min i l.length = i := by omega
    rw [this, if_pos (by omega)]
  · rw [if_neg h1]
    split
    · rw [eq_comm, List.getElem?_eq_none_iff]; omega
    · rfl
theorem slice_ss_eq (l : List Nat) (i j : Int) (hi : 0 ≤ i) (hj : 0 ≤ j) : Txt.slice (sw l) (some i) (some j) = sw ((l.take j.toNat).drop i.toNat) := by
  have hl : (sw l).length = l.length := by show l.toArray.size = _; simp
  have e : strSliceIndices (some i) (some j) 1 (sw l).length = sliceRange ((min i.toNat l.length : Nat) : Int) ((min j.toNat l.length : Nat) : Int) 1 := by
    rw [hl]; unfold strSliceIndices; simp only [show (1 : Int) > 0 by decide, if_true, clipN _ _ hi, clipN _ _ hj]
  unfold Txt.slice
  rw [e, sliceLH l _ _ (Nat.min_le_right _ _) (Nat.min_le_right _ _), cutMin]
theorem slice_sn_eq (l : List Nat) (i : Int) (hi : 0 ≤ i) : Txt.slice (sw l) (some i) none = sw (l.drop i.toNat) := by
  have hl : (sw l).length = l.length := by show l.toArray.size = _; simp
  have e : strSliceIndices (some i) none 1 (sw l).length = sliceRange ((min i.toNat l.length : Nat) : Int) ((l.length : Nat) : Int) 1 := by
    rw [hl]; unfold strSliceIndices; simp only [show (1 : Int) > 0 by decide, if_true, clipN _ _ hi]
  unfold Txt.slice
  rw [e, sliceLH l _ _ (Nat.min_le_right _ _) (Nat.le_refl _)]
  have := cutMin l i.toNat l.length
  rw [Nat.min_self] at this
  rw [this, List.take_of_length_le (Nat.le_refl _)]
theorem slice_ns_eq (l : List Nat) (j : Int) (hj : 0 ≤ j) : Txt.slice (sw l) none (some j) = sw (l.take j.toNat) := by
  have hl : (sw l).length = l.length := by show l.toArray.size = _; simp
  have e : strSliceIndices none (some j) 1 (sw l).length = sliceRange ((0 : Nat) : Int) ((min j.toNat l.length : Nat) : Int) 1 := by
    rw [hl]; unfold strSliceIndices; simp only [show (1 : Int) > 0 by decide, if_true, clipN _ _ hj]; rfl
  unfold Txt.slice
  rw [e, sliceLH l _ _ (Nat.zero_le _) (Nat.min_le_right _ _)]
  have := cutMin l 0 j.toNat
  rw [Nat.zero_min, List.drop_zero, List.drop_zero] at this
  rw [List.drop_zero, this]

theorem sw_append (a b : List Nat) : sw a ++ sw b = sw (a ++ b) := by
  show (⟨a.toArray ++ b.toArray⟩ : PySem.Str) = ⟨(a ++ b).toArray⟩
  simp
theorem sw_inj {a b : List Nat} : sw a = sw b ↔ a = b := by simp [sw]

section
variable {prog : Program} {w : World} {A : Around} {E : Value → Shared → Prop} {s : Shared} {value slice : Expr} {l : List Nat} {t : Tok} {g : Heap} {L : Addr} {m : PySem.Str → Option Value} {news : Led} {Q : Value → Shared → Prop}
theorem keptSt : KeptH (fun h => St g L h m news) := fun h ob S => ⟨S.ns.push ob, S.offg, S.offn, fun b o e => Heap.get?_push_of_some _ (S.o.keep b o e), fun p hp => ⟨(S.o.own p hp).1.keeps fun _ _ e => Heap.get?_push_of_some _ e, (S.o.own p hp).2⟩, S.o.nd⟩
theorem sliceSs {i j : Int} {ui uj : Tok} (S : St g L s.heap m news) (hi : 0 ≤ i) (hj : 0 ≤ j) (hsz : l.length ≤ 1000) (h : ∀ h' t' k, St g L h' m news → Q (.str (sw ((l.take j.toNat).drop i.toNat)) t') { s with heap := h', toks := k })
    (hs : subscripted slice false (.str (sw l) t) (.ref s.heap.objs.size) = operate [.ref s.heap.objs.size, .str (sw l) t] (getItem (.str (sw l) t) (.ref s.heap.objs.size)) := by with_unfolding_all rfl)
    (ht : ∀ r, letTemporaryGo value (.str (sw l) t) r = pure () := by intro _; with_unfolding_all rfl) :
    wpAny (model prog w) A (subscriptTail value slice (.str (sw l) t) (.ref s.heap.objs.size)) Q E { s with heap := s.heap.push { cls := .type "slice", data := .fields #[.int i ui, .int j uj, .none] } } :=
  tail_of_ItemOn (SBH.sliceItem_ss keptSt S (fun h' t' k S' => slice_ss_eq l i j hi hj ▸ h h' t' k S') (by show l.toArray.size ≤ sizeLine; rw [List.size_toArray, sizeLine_eq]; omega)) hs ht
theorem sliceSn {i : Int} {ui : Tok} (S : St g L s.heap m news) (hi : 0 ≤ i) (hsz : l.length ≤ 1000) (h : ∀ h' t' k, St g L h' m news → Q (.str (sw (l.drop i.toNat)) t') { s with heap := h', toks := k })
    (hs : subscripted slice false (.str (sw l) t) (.ref s.heap.objs.size) = operate [.ref s.heap.objs.size, .str (sw l) t] (getItem (.str (sw l) t) (.ref s.heap.objs.size)) := by with_unfolding_all rfl)
    (ht : ∀ r, letTemporaryGo value (.str (sw l) t) r = pure () := by intro _; with_unfolding_all rfl) :
    wpAny (model prog w) A (subscriptTail value slice (.str (sw l) t) (.ref s.heap.objs.size)) Q E { s with heap := s.heap.push { cls := .type "slice", data := .fields #[.int i ui, .none, .none] } } :=
  tail_of_ItemOn (SBH.sliceItem_sn keptSt S (fun h' t' k S' => slice_sn_eq l i hi ▸ h h' t' k S') (by show l.toArray.size ≤ sizeLine; rw [List.size_toArray, sizeLine_eq]; omega)) hs ht
theorem sliceNs {j : Int} {uj : Tok} (S : St g L s.heap m news) (hj : 0 ≤ j) (hsz : l.length ≤ 1000) (h : ∀ h' t' k, St g L h' m news → Q (.str (sw (l.take j.toNat)) t') { s with heap := h', toks := k })
    (hs : subscripted slice false (.str (sw l) t) (.ref s.heap.objs.size) = operate [.ref s.heap.objs.size, .str (sw l) t] (getItem (.str (sw l) t) (.ref s.heap.objs.size)) := by with_unfolding_all rfl)
    (ht : ∀ r, letTemporaryGo value (.str (sw l) t) r = pure () := by intro _; with_unfolding_all rfl) :
    wpAny (model prog w) A (subscriptTail value slice (.str (sw l) t) (.ref s.heap.objs.size)) Q E { s with heap := s.heap.push { cls := .type "slice", data := .fields #[.none, .int j uj, .none] } } :=
  tail_of_ItemOn (SBH.sliceItem_ns keptSt S (fun h' t' k S' => slice_ns_eq l j hj ▸ h h' t' k S') (by show l.toArray.size ≤ sizeLine; rw [List.size_toArray, sizeLine_eq]; omega)) hs ht
theorem subS {k : Int} {u : Tok} {c : Nat} (h0 : 0 ≤ k) (hhi : k < 2 ^ 63) (hx : l[k.toNat]? = some c) (h : Q (.str (sw [c]) s.toks) { s with toks := s.toks + 1 })
    (hs : subscripted slice false (.str (sw l) t) (.int k u) = operate [.str (sw l) t, .int k u] (getItem (.str (sw l) t) (.int k u)) := by with_unfolding_all rfl)
    (ht : ∀ r, letTemporaryGo value (.str (sw l) t) r = pure () := by intro _; with_unfolding_all rfl) :
    wpAny (model prog w) A (subscriptTail value slice (.str (sw l) t) (.int k u)) Q E s := by
  have hl : (sw l).length = l.length := by show l.toArray.size = _; simp
  obtain ⟨hlt, he⟩ := List.getElem?_eq_some_iff.mp hx
  have e : Txt.item (sw l) k = sw [c] := item_meets h0 (by show l.toArray[k.toNat]? = some c; simpa using hx)
  refine item_str (fitsSsize_of (N := 9223372036854775808) (by omega) (by omega) (Int.le_refl _)) (by rw [hl]; omega) (by rw [hl]; omega) (fun _ => ?_) hs ht
  rw [e]; exact h
theorem lenSw (hf : l.length ≤ 1000) (h : Q (.int l.length (s.toks + 1)) { s with toks := s.toks + 1 + 1 }) : wpAny (model prog w) A (call (.builtin "len") [.str (sw l) t]) Q E s :=
  len_str (by show ¬ ((l.toArray.size : Nat) : Int) ≥ 2 ^ 63; rw [List.size_toArray]; omega) (by show Q (.int ((l.toArray.size : Nat) : Int) _) _; rw [List.size_toArray]; exact h)
end
end
section
section
variable {prog : Program} {w : World} {A : Around} {s : Shared} {g : Heap} {L : Addr} {m : Str → Option Value} {news : Led} {E : Value → Shared → Prop}
theorem draw_walk {I : Addr} {fp wr : List Addr} {n : Nat} {P : Nat → Value → Prop} {Si : Nat → Heap → Prop} {vs : List Value} (W : Walks prog w A I fp wr n P Si) (hP : ∀ i v, i < n → P i v → vs[i]? = some v) (hn : vs.length = n) :
    ∀ (k i : Nat) (s : Shared) (Q : List Value → Shared → Prop), i + k = n → Si i s.heap → (∀ h' tk, Si n h' → (∀ b o, b ∉ wr → s.heap.get? b = some o → h'.get? b = some o) → Q (vs.drop i) { s with heap := h', toks := tk }) →
      wpAny (model prog w) A (draw (.ref I) k) Q E s
  | 0, i, s, Q, hk, st, hQ => by
    show wpAny _ _ (pure []) Q E s
    have : i = n := by omega
    subst this
    have := hQ s.heap s.toks st (fun _ _ _ e => e)
    rw [List.drop_of_length_le (by omega)] at this
    exact wpAny_pure this
  | k + 1, i, s, Q, hk, st, hQ => by
    show wpAny _ _ (pyNext (.ref I) >>= _) Q E s
    refine wpAny_bind (W.item i s _ _ (by omega) st fun v h' tk p st' kk => ?_)
    refine wpAny_bind (wpAny_holding (draw_walk W hP hn k (i + 1) _ _ (by omega) st' fun h₂ tk₂ st₂ kk₂ => wpAny_pure ?_))
    obtain ⟨hlt, he⟩ := List.getElem?_eq_some_iff.mp (hP i v (by omega) p)
    have := hQ h₂ tk₂ st₂ fun b o hb e => kk₂ b o hb (kk b o hb e)
    rw [List.drop_eq_getElem_cons hlt, he] at this
    exact this
theorem unpackS {v : Value} {T : String} {id : String} {vs : List Value} {n : Nat} {Q : List Value → Shared → Prop} (hT : s.TypeIs v T) (hl : typeLookup (.type T) "__iter__" = pure (some (.builtin id)))
    (hn : n = vs.length) (S : St g L s.heap m news)
    (hit : ∀ (Q : Value → Shared → Prop), (∀ I h' fp Si, It prog w A I fp vs.length (fun i v => vs[i]? = some v) Si → Si 0 h' → St g L h' m ((I, any) :: news) → L ∉ fp → (∀ p ∈ news, p.1 ≠ I) → Q (.ref I) { s with heap := h' }) → wpAny (model prog w) A (pyIter v) Q E s)
    (h : ∀ h' tk, St g L h' m news → Q vs { s with heap := h', toks := tk }) : wpAny (model prog w) A (unpackItems v n none) Q E s := by
  subst hn
  unfold unpackItems
  refine wpAny_bind ?_
  unfold notIterableAtAll
  refine wpAny_bind (wpAny_specialOf hT hl ?_)
  refine wpAny_pure ?_
  simp only [Bool.false_eq_true, if_false]
  refine wpAny_bind (wpAny_holding (hit _ fun I h' fp Si X st S' hLf hne => ?_))
  refine wpAny_bind (wpAny_holding (draw_walk X.W (fun i v _ e => e) rfl _ 0 _ _ (Nat.zero_add _) st fun h₁ tk₁ st₁ k₁ => ?_))
  rw [List.drop_zero, if_neg (by simp)]
  refine wpAny_bind (wpAny_holding (X.W.done _ _ _ st₁ fun h₂ tk₂ k₂ => ?_))
  simp only [Option.isSome_none, Bool.false_eq_true, if_false]
  refine wpAny_pure (h _ _ ?_)
  have kk : ∀ b o, b ≠ I → h'.get? b = some o → h₂.get? b = some o := fun b o hb e => k₂ b o (by simpa using hb) (k₁ b o (by simpa using hb) e)
  have S₁ := S'.drop1
  refine ⟨S₁.ns.at' fun o e => kk _ o (fun q => hLf (q ▸ X.self)) e, S₁.offg, S₁.offn, fun b o e => kk b o (fun q => ?_) (S₁.keep b o e), fun p hp => ⟨?_, (S₁.o.own p hp).2⟩, S₁.o.nd⟩
  · have := (S'.o.own (I, any) (.head _)).2
    rw [← q, e] at this; cases this
  · obtain ⟨o, e, hP⟩ := (S₁.o.own p hp).1
    exact ⟨o, kk _ _ (hne p hp) e, hP⟩
theorem headNe {a : Addr} {P : Obj → Prop} {h : Heap} (S : St g L h m ((a, P) :: news)) : ∀ p ∈ news, p.1 ≠ a := fun p hp e => by
  have := S.o.nd
  rw [List.map_cons, List.nodup_cons] at this
  exact this.1 (List.mem_map.mpr ⟨p, hp, e⟩)
theorem unpackT {l : Addr} {vs : List Value} {n : Nat} {Q : List Value → Shared → Prop} (hh : A.handled = none) (hl : At s.heap (l, isT vs)) (S : St g L s.heap m news) (hL : l ≠ L) (hn : n = vs.length)
    (h : ∀ h' tk, St g L h' m news → Q vs { s with heap := h', toks := tk }) : wpAny (model prog w) A (unpackItems (.ref l) n none) Q E s :=
  unpackS (isTup_of hl).typeIs slot_tuple_iter.lookup hn S (fun Q hQ => iter_tuple hh hl S fun I h' Si X st S' _ _ _ => hQ I h' _ Si X st S' (fun q => by
    rcases List.mem_cons.mp q with q | q
    · exact S'.neL (.head _) q.symm
    · exact hL (List.mem_singleton.mp q).symm) (headNe S')) h
theorem unpackL {l : Addr} {vs : List Value} {n : Nat} {Q : List Value → Shared → Prop} (hh : A.handled = none) (hl : At s.heap (l, isL vs)) (S : St g L s.heap m news) (hL : l ≠ L) (hn : n = vs.length)
    (h : ∀ h' tk, St g L h' m news → Q vs { s with heap := h', toks := tk }) : wpAny (model prog w) A (unpackItems (.ref l) n none) Q E s :=
  unpackS (isList_of hl).typeIs PySem.slot_list_iter.lookup hn S (fun Q hQ => iter_list hh hl S fun I h' Si X st S' _ _ _ => hQ I h' _ Si X st S' (fun q => by
    rcases List.mem_cons.mp q with q | q
    · exact S'.neL (.head _) q.symm
    · exact hL (List.mem_singleton.mp q).symm) (headNe S')) h
theorem addSw {x y : List Nat} {t u : Tok} {Q : Value → Shared → Prop} (hsz : x.length + y.length ≤ 1000) (h : ∀ t' tk, Q (.str (sw (x ++ y)) t') { s with toks := tk }) : wpAny (model prog w) A (binaryOp .Add (.str (sw x) t) (.str (sw y) u)) Q E s :=
  PyProof.Rows.add_str (fun t' tk => sw_append x y ▸ h t' tk) (by show x.toArray.size + y.toArray.size ≤ sizeLine; rw [List.size_toArray, List.size_toArray, sizeLine_eq]; omega)
theorem subABC {value slice : Expr} {k : Int} {t u : Tok} {Q : Value → Shared → Prop} (h0 : 0 ≤ k) (h3 : k < 3) (h : Q (.str (sw [97 + k.toNat]) s.toks) { s with toks := s.toks + 1 })
    (hs : ∀ l : List Nat, subscripted slice false (.str (sw l) t) (.int k u) = operate [.str (sw l) t, .int k u] (getItem (.str (sw l) t) (.int k u)) := by intro _; with_unfolding_all rfl)
    (ht : ∀ (l : List Nat) r, letTemporaryGo value (.str (sw l) t) r = pure () := by intro _ _; with_unfolding_all rfl) :
    wpAny (model prog w) A (subscriptTail value slice (.str "abc" t) (.int k u)) Q E s := by
  have e : ("abc" : Str) = sw [97, 98, 99] := by decide +kernel
  rw [e]
  refine subS (c := 97 + k.toNat) h0 (by omega) ?_ h (hs _) (ht _)
  have : k = 0 ∨ k = 1 ∨ k = 2 := by omega
  rcases this with rfl | rfl | rfl <;> rfl
end
end
section

abbrev isRg (a b : Int) : Obj → Prop := fun o => ∃ t u v, o = { cls := .type "range", dict := none, data := .fields #[.int a t, .int b u, .int 1 v], slots := #[] }

section
variable {g h h' : Heap} {L a : Addr} {m : Str → Option Value} {news pre post : Led} {P P' : Obj → Prop}
theorem St.drop2 {p q : Addr × (Obj → Prop)} (S : St g L h m (p :: q :: post)) : St g L h m (p :: post) := by
  have nd := S.o.nd
  rw [List.map_cons, List.map_cons, List.nodup_cons, List.nodup_cons] at nd
  refine S.sub (fun x hx => ?_) (by rw [List.map_cons, List.nodup_cons]; exact ⟨fun z => nd.1 (.tail _ z), nd.2.2⟩)
  rcases List.mem_cons.mp hx with rfl | hx
  · exact .head _
  · exact .tail _ (.tail _ hx)
/-- an entry in the middle of the ledger is lent, and comes back at its head -/
theorem St.lendM (pre : Led) (S : St g L h m (pre ++ (a, P) :: post)) : ∃ g', Sub g g' ∧ Own g' h [(a, P)] ∧ (∀ p ∈ pre ++ post, At g' p) ∧ (∀ b o, h.get? b = some o → b ≠ a → g'.get? b = some o) ∧ ∀ h' P', Own g' h' [(a, P')] → St g L h' m ((a, P') :: (pre ++ post)) := by
  have nd := S.o.nd
  obtain ⟨n1, n2⟩ := mid_ne nd
  rw [List.map_append, List.map_cons] at nd
  obtain ⟨g', a1, a2, a3, a4, a5⟩ := S.lend [(a, P)] (pre ++ post) (fun p hp => by rw [List.mem_singleton.mp hp]; simp) (fun p hp => by
    rcases List.mem_append.mp hp with hp | hp
    · exact List.mem_append_left _ hp
    · exact List.mem_append_right _ (.tail _ hp)) (by
    have h2 := List.nodup_append.mp nd
    have h3 := List.nodup_cons.mp h2.2.1
    rw [List.map_append]
    show (a :: (pre.map (·.1) ++ post.map (·.1))).Nodup
    rw [List.nodup_cons]
    refine ⟨fun q => ?_, List.nodup_append.mpr ⟨h2.1, h3.2, fun x hx y hy => h2.2.2 x hx y (.tail _ hy)⟩⟩
    rcases List.mem_append.mp q with q | q
    · exact h2.2.2 _ q _ (.head _) rfl
    · exact h3.1 q)
  exact ⟨g', a1, a2, a3, fun b o e q => a4 b o e (by simpa using q), fun h' P' O => a5 h' [(a, P')] O⟩
end

section
variable {prog : Program} {w : World} {A : Around} {s : Shared} {g : Heap} {L : Addr} {m : Str → Option Value} {news : Led} {E : Value → Shared → Prop} {Q : Value → Shared → Prop}
theorem range1S {n : Int} {t : Tok} (S : St g L s.heap m news) (h : ∀ r h' tk, St g L h' m ((r, isRg 0 n) :: news) → Q (.ref r) { s with heap := h', toks := tk }) :
    wpAny (model prog w) A (call (.type "range") [.int n t]) Q E s := call_range_1 (h _ _ _ (S.push _ ⟨_, _, _, rfl⟩))
theorem range2S {a b : Int} {t u : Tok} (S : St g L s.heap m news) (h : ∀ r h' tk, St g L h' m ((r, isRg a b) :: news) → Q (.ref r) { s with heap := h', toks := tk }) :
    wpAny (model prog w) A (call (.type "range") [.int a t, .int b u]) Q E s := call_range_2 (h _ _ _ (S.push _ ⟨_, _, _, rfl⟩))
theorem iterRg {r : Addr} {a b : Int} (hh : A.handled = none) (hr : At s.heap (r, isRg a b)) (ha : -1000 ≤ a ∧ a ≤ 1000) (hb : -1000 ≤ b ∧ b ≤ 1000) (S : St g L s.heap m news)
    (h : ∀ I h' Si, It prog w A I [I] (b - a).toNat (fun i v => i < (b - a).toNat ∧ ∃ t, v = .int (a + i) t) Si → Si 0 h' → St g L h' m ((I, any) :: news) → (∀ b ∈ [I], b < h'.objs.size) → (∀ c o, s.heap.get? c = some o → h'.get? c = some o ∧ c ≠ I) → Q (.ref I) { s with heap := h' }) :
    wpAny (model prog w) A (pyIter (.ref r)) Q E s := by
  obtain ⟨o, e, t, u, v, rfl⟩ := hr
  have hn : Builtin.Range.rangeSize a b 1 = (((b - a).toNat : Nat) : Int) := by rw [rangeSize_one]; split <;> omega
  refine iter_range hh (t := t) (u := u) (v := v) e ?_ hn S h
  unfold Builtin.Range.small
  rw [hn]
  simp only [Builtin.Range.rangeFitsLong, Bool.and_eq_true, decide_eq_true_eq]
  refine ⟨⟨⟨⟨?_, ?_⟩, ?_⟩, ?_⟩, ?_⟩ <;> (try simp only [decide_eq_true_eq]) <;> first | omega | (split <;> simp <;> omega) | simp
theorem glued_go (cs : List Nat) : ∀ acc : Array Nat, (cs.map fun c => sw [c]).foldl (fun (acc : Array Nat) (p : Str) => acc ++ (sw []).cps ++ p.cps) acc = acc ++ cs.toArray := by
  induction cs with
  | nil => intro acc; simp
  | cons c r ih =>
    intro acc
    rw [List.map_cons, List.foldl_cons, ih]
    simp
theorem joinS {D : Addr} {vs : List Value} {cs : List Nat} {t : Tok} (hl : At s.heap (D, isL vs)) (hi : StrsAre vs (cs.map fun c => sw [c])) (hn : cs.length ≤ 1000)
    (h : ∀ t' tk, Q (.str (sw cs) t') { s with toks := tk }) : wpAny (model prog w) A (call (.builtin "str.join") [.str "" t, .ref D]) Q E s := by
  refine join_list (isList_of hl) (by simpa using hi) ?_ fun t' k => ?_
  · have : ((cs.map fun c => sw [c]).map (·.length)).sum = cs.length := by
      clear hi hn h
      induction cs with
      | nil => rfl
      | cons c r ih =>
        rw [List.map_cons, List.map_cons, List.sum_cons, ih, List.length_cons]
        show (1 : Nat) + _ = _
        omega
    rw [this, List.length_map]
    have : ("" : Str).length = 0 := by decide
    rw [this]; omega
  · have e : Txt.join "" (cs.map fun c => sw [c]) = sw cs := by
      have e0 : ("" : Str) = sw [] := by decide
      rw [e0]
      unfold Txt.join
      rw [StrLaws.glued_eq_join]
      cases cs with
      | nil => rfl
      | cons c r =>
        rw [List.map_cons, ← StrLaws.glued_cons, glued_go]
        simp
    rw [e]; exact h t' k
end
theorem strs_snoc {vs : List Value} {ys : List Str} (h : StrsAre vs ys) (y : Str) (t : Tok) : StrsAre (vs ++ [.str y t]) (ys ++ [y]) := by
  induction h with
  | nil => exact .cons _ _ .nil
  | cons y' t' _ ih => exact .cons _ _ ih
end
section

section
variable {g h h' : Heap} {L : Addr} {m : Str → Option Value} {mu rest : Led}
/-- the ledger under a step that leaves all but wr -/
theorem St.step {wr fp : List Addr} (S : St g L h m (mu ++ rest)) (hg : ∀ b ∈ wr, g.get? b = none) (hs : ∀ b ∈ wr, b ∈ fp) (hL : L ∉ fp) (hmu : ∀ p ∈ mu, p.1 ∉ fp) (hr : ∀ p ∈ rest, p.1 ∉ wr)
    (k : ∀ b o, b ∉ wr → h.get? b = some o → h'.get? b = some o) : St g L h' m (mu ++ rest) := by
  refine ⟨S.ns.at' fun o e => k _ o (fun q => hL (hs _ q)) e, S.offg, S.offn, fun b o e => k b o (fun q => ?_) (S.keep b o e), fun p hp => ⟨?_, (S.o.own p hp).2⟩, S.o.nd⟩
  · rw [hg b q] at e; cases e
  · obtain ⟨o, e, hP⟩ := (S.o.own p hp).1
    refine ⟨o, k _ _ (fun q => ?_) e, hP⟩
    rcases List.mem_append.mp hp with hp | hp
    · exact hmu p hp (hs _ q)
    · exact hr p hp q
end

section
variable {prog : Program} {w : World} {A : Around} {s : Shared} {env : Env} {g : Heap} {Q : Flow → Shared → Prop} {I : Addr} {fp wr : List Addr} {n : Nat} {Si : Nat → Heap → Prop}

/-- a for over an iterator at hand whatever the target; its items as V i v hold where all but the frame and mu is held -/
theorem loopG_S {tgt : Expr} {V : Nat → Value → Heap → Prop} {body : List Stmt} {m : Str → Option Value} {mu rest : Led} (J : Nat → (Str → Option Value) → Led → Prop)
    (item : ∀ i (s : Shared) (Q : Value → Shared → Prop) (E : Value → Shared → Prop), i < n → Si i s.heap →
      (∀ v h' tk, (∀ g₁ : Heap, ∀ off : List Addr, (∀ b ∈ off, ∃ o, s.heap.get? b = some o) → (∀ b o, h'.get? b = some o → b ∉ off → g₁.get? b = some o) → V i v g₁) → Si (i + 1) h' → (∀ b o, b ∉ wr → s.heap.get? b = some o → h'.get? b = some o) → Q v { s with heap := h', toks := tk }) →
      wpAny (model prog w) A (pyNext (.ref I)) (fun r s₁ => match r with | none => False | some v => wpAny (model prog w) A (letOwnedTupleGo tgt (.ref I) v) (fun _ s₂ => Q v s₂) E s₁) E s)
    (done' : ∀ (s : Shared) (Q : Option Value → Shared → Prop) (E : Value → Shared → Prop), Si n s.heap →
      (∀ h' tk, (∀ b o, b ∉ wr → s.heap.get? b = some o → h'.get? b = some o) → Q none { s with heap := h', toks := tk }) → wpAny (model prog w) A (pyNext (.ref I)) Q E s)
    (frame : ∀ i h h', Si i h → (∀ b ∈ fp, ∀ o, h.get? b = some o → h'.get? b = some o) → Si i h')
    (alive : ∀ i h, Si i h → ∀ b ∈ fp, ∃ o, h.get? b = some o) (hs : ∀ b ∈ wr, b ∈ fp)
    (hg : ∀ b ∈ wr, g.get? b = none) (hL : env.locals ∉ fp) (hmu : ∀ p ∈ mu, p.1 ∉ fp) (hr : ∀ p ∈ rest, p.1 ∉ wr)
    (S : St g env.locals s.heap m (mu ++ rest)) (hst : Si 0 s.heap) (j0 : J 0 m mu)
    (turn : ∀ i v m₁ mu₁ g₁ h tk, i < n → V i v g₁ → J i m₁ mu₁ → Sub g g₁ → (∀ p ∈ rest, At g₁ p) → (∀ b o, s.heap.get? b = some o → b ≠ env.locals → b ∉ wr → b ∉ mu.map (·.1) → g₁.get? b = some o) →
      St g₁ env.locals h m₁ mu₁ →
      wpAny (model prog w) A (assign tgt env v) (fun _ s₁ => wpAny (model prog w) A (execs body env) (TurnEnd s g₁ env.locals (J (i + 1)) Q) FalseE s₁) FalseE { s with heap := h, toks := tk })
    (done : ∀ m₁ mu₁ h tk, J n m₁ mu₁ → St g env.locals h m₁ (mu₁ ++ rest) → Q .next { s with heap := h, toks := tk }) :
    codeAny (model prog w) A (.forLoop tgt (.ref I) body [] env) (fun r s' => match r with | .ok f => Q f s' | .error _ => False) s := by
  refine codeAny_forLoop_any (fun k s' => ∃ i h tk m₁ mu₁, s' = { s with heap := h, toks := tk } ∧ Si i h ∧ St g env.locals h m₁ (mu₁ ++ rest) ∧ (∀ p ∈ mu₁, p.1 ∉ fp) ∧ J i m₁ mu₁ ∧
    (∀ b o, s.heap.get? b = some o → b ≠ env.locals → b ∉ wr → b ∉ mu.map (·.1) → h.get? b = some o ∧ b ∉ mu₁.map (·.1)) ∧ i ≤ n ∧ k = n + 1 - i) ?_ (n + 1)
    ⟨0, s.heap, s.toks, m, mu, rfl, hst, S, hmu, j0, fun b o e _ _ q => ⟨e, q⟩, Nat.zero_le _, rfl⟩
  rintro k s' ⟨i, h, tk, m₁, mu₁, rfl, hsi, S₁, off₁, j₁, kept, hi, rfl⟩
  by_cases hlt : i < n
  · refine wpAny_mono (item i { s with heap := h, toks := tk } (fun v s₂ => wpAny (model prog w) A (assign tgt env v) (fun _ s₂ => wpAny (model prog w) A (execs body env) (fun f s₃ => match f with
            | .next | .cont => ∃ m, m < n + 1 - i ∧ ∃ i h tk m₁ mu₁, s₃ = { s with heap := h, toks := tk } ∧ Si i h ∧ St g env.locals h m₁ (mu₁ ++ rest) ∧ (∀ p ∈ mu₁, p.1 ∉ fp) ∧ J i m₁ mu₁ ∧
                (∀ b o, s.heap.get? b = some o → b ≠ env.locals → b ∉ wr → b ∉ mu.map (·.1) → h.get? b = some o ∧ b ∉ mu₁.map (·.1)) ∧ i ≤ n ∧ m = n + 1 - i
            | .brk => Q .next s₃
            | .ret v => Q (.ret v) s₃) FalseE s₂) FalseE s₂) FalseE hlt hsi fun v h₁ tk₁ hV hst₁ hk₁ => ?_) (fun r s₂ z => ?_) fun _ _ z => z.elim
    · have S₂ := S₁.step hg hs hL off₁ hr hk₁
      obtain ⟨g₁, sub₁, S₄, at₁, all₁⟩ := S₂.rebase
      have V₁ : V i v g₁ := hV g₁ (env.locals :: mu₁.map (·.1)) (fun b hb => by
        rcases List.mem_cons.mp hb with rfl | hb
        · obtain ⟨o, _, _, e, _⟩ := S₁.ns; exact ⟨o, e⟩
        · obtain ⟨p, hp, rfl⟩ := List.mem_map.mp hb
          obtain ⟨o, e, _⟩ := (S₁.o.own p (List.mem_append_left _ hp)).1
          exact ⟨o, e⟩) fun b o e q => all₁ b o e (fun q' => q (by rw [q']; exact .head _)) fun q' => q (.tail _ q')
      have fpg : ∀ b ∈ fp, ∀ o, h₁.get? b = some o → g₁.get? b = some o := fun b hb o e => all₁ b o e (fun q => hL (q ▸ hb)) fun q => by
        obtain ⟨p, hp, e⟩ := List.mem_map.mp q
        exact off₁ p hp (by rw [e]; exact hb)
      have up : ∀ b o, s.heap.get? b = some o → b ≠ env.locals → b ∉ wr → b ∉ mu.map (·.1) → g₁.get? b = some o := fun b o e q1 q2 q3 => by
        obtain ⟨e1, e2⟩ := kept b o e q1 q2 q3
        exact all₁ b o (hk₁ b o q2 e1) q1 e2
      refine wpAny_mono (turn i v m₁ mu₁ g₁ h₁ tk₁ hlt V₁ j₁ sub₁ at₁ up S₄) (fun _ s₃ h₃ => wpAny_mono h₃ (fun f s₃ h₃ => ?_) fun _ _ e => e) fun _ _ e => e
      have fin : (∃ h tk m mu, s₃ = { s with heap := h, toks := tk } ∧ St g₁ env.locals h m mu ∧ J (i + 1) m mu) → ∃ m, m < n + 1 - i ∧ ∃ i h tk m₁ mu₁, s₃ = { s with heap := h, toks := tk } ∧ Si i h ∧ St g env.locals h m₁ (mu₁ ++ rest) ∧ (∀ p ∈ mu₁, p.1 ∉ fp) ∧ J i m₁ mu₁ ∧
          (∀ b o, s.heap.get? b = some o → b ≠ env.locals → b ∉ wr → b ∉ mu.map (·.1) → h.get? b = some o ∧ b ∉ mu₁.map (·.1)) ∧ i ≤ n ∧ m = n + 1 - i := by
        rintro ⟨h₄, tk₃, m₂, mu₂, rfl, S₅, j₂⟩
        have apart : ∀ b o, g₁.get? b = some o → b ∉ mu₂.map (·.1) := fun b o e q => by
          obtain ⟨p, hp, rfl⟩ := List.mem_map.mp q
          rw [(S₅.o.own p hp).2] at e; cases e
        refine ⟨n + 1 - (i + 1), by omega, i + 1, h₄, tk₃, m₂, mu₂, rfl, ?_, ?_, ?_, j₂, fun b o e q1 q2 q3 => ⟨S₅.keep _ _ (up b o e q1 q2 q3), apart b o (up b o e q1 q2 q3)⟩, hlt, rfl⟩
        · exact frame _ _ _ hst₁ fun b hb o e => S₅.keep b o (fpg b hb o e)
        · exact S₅.unbase sub₁ at₁ (fun p hp => ⟨(S.o.own p (List.mem_append_right _ hp)).2, fun q => S.offn (q ▸ List.mem_map_of_mem (List.mem_append_right _ hp))⟩) (by
            have nd := S.o.nd
            rw [List.map_append, List.nodup_append] at nd
            exact nd.2.1)
        · intro p hp q
          obtain ⟨o, eo⟩ := alive _ _ hst₁ p.1 q
          exact apart _ _ (fpg _ q _ eo) (List.mem_map_of_mem hp)
      cases f with
      | ret v => exact h₃
      | brk => exact h₃
      | next => exact fin h₃
      | cont => exact fin h₃
    · cases r with
      | none => exact z.elim
      | some v =>
        refine wpAny_mono z (fun _ s₃ h₃ => wpAny_mono h₃ (fun _ s₄ h₄ => wpAny_mono h₄ (fun f s₅ h₅ => ?_) fun _ _ e => e.elim) fun _ _ e => e.elim) fun _ _ e => e.elim
        cases f with
        | next => exact h₅
        | cont => exact h₅
        | brk => exact h₅
        | ret v => exact h₅
  · have hin : i = n := by omega
    subst hin
    refine done' _ _ _ hsi fun h₁ tk₁ hk₁ => wpAny_execs_nil ?_
    exact done m₁ mu₁ h₁ tk₁ j₁ (S₁.step hg hs hL off₁ hr hk₁)

/-- a for statement over whatever, its loop reached -/
theorem forG_S {tgt : Expr} {pos : Pos} {iter : Expr} {body : List Stmt}
    (h : wpAny (model prog w) A (eval iter env) (fun xv s₁ => wpAny (model prog w) A (pyIter xv) (fun it s₂ => ∃ I, it = .ref I ∧ codeAny (model prog w) A (.forLoop tgt (.ref I) body [] env) (fun r s' => match r with | .ok f => Q f s' | .error _ => False) s₂) FalseE s₁) FalseE s)
    (hs : ∀ x, foldedSetIterable iter env x = pure x) :
    wpAny (model prog w) A (exec (.For tgt iter body [] pos) env) Q FalseE s := by
  refine wpAny_For (wpAny_mono h (fun xv s₁ h₁ => wpAny_mono h₁ (fun it s₂ h₂ => ?_) fun _ _ e => e) fun _ _ e => e) hs
  obtain ⟨I, rfl, hc⟩ := h₂
  exact codeAny_mono hc fun r s' z => by
    cases r with
    | ok f => exact z
    | error e => exact z.elim

/-- the items of an iterator that hands out fresh tuples -/
theorem WalksT.itemG {elts : List Expr} {kc : Nat} {pos : Pos} {Pt : Nat → Array Value → Prop} {Mid : Nat → Addr → Heap → Prop} (W : WalksT prog w A I fp wr n Pt Si Mid)
    (i : Nat) (s : Shared) (Q : Value → Shared → Prop) (E : Value → Shared → Prop) (hi : i < n) (st : Si i s.heap)
    (hQ : ∀ v h' tk, (∀ g₁ : Heap, ∀ off : List Addr, (∀ b ∈ off, ∃ o, s.heap.get? b = some o) → (∀ b o, h'.get? b = some o → b ∉ off → g₁.get? b = some o) → ∃ T vals, v = .ref T ∧ Pt i vals ∧ At g₁ (T, isT vals.toList)) → Si (i + 1) h' → (∀ b o, b ∉ wr → s.heap.get? b = some o → h'.get? b = some o) → Q v { s with heap := h', toks := tk }) :
    wpAny (model prog w) A (pyNext (.ref I)) (fun r s₁ => match r with | none => False | some v => wpAny (model prog w) A (letOwnedTupleGo (.Tuple elts kc pos) (.ref I) v) (fun _ s₂ => Q v s₂) E s₁) E s := by
  refine W.item i s _ _ hi st fun T vals h' tk hp hT ht mid k => ?_
  refine W.go elts kc pos i T _ _ _ mid fun h'' st' k' => ?_
  refine hQ _ h'' tk (fun g₁ off hoff all => ⟨T, vals, rfl, hp, ?_⟩) st' fun b o hb e => k' b o hb (k b o hb e)
  obtain ⟨o, e, hc, nn, hd⟩ := ht
  refine ⟨o, all T o (k' T o (W.apart i T h' mid) e) (fun q => ?_), hc, nn, by simpa using hd⟩
  obtain ⟨o', e'⟩ := hoff T q
  exact absurd (Heap.lt_size e') (Nat.not_lt.mpr hT)
end
end
section
theorem map_eraseIdx' {α β : Type} (f : α → β) : ∀ (l : List α) (i : Nat), (l.eraseIdx i).map f = (l.map f).eraseIdx i
  | [], _ => rfl
  | _ :: _, 0 => rfl
  | a :: r, i + 1 => by simp [map_eraseIdx' f r i]
theorem ints_snoc {vs : List Value} {ns : List Int} (h : IntsAre vs ns) (n : Int) (t : Tok) : IntsAre (vs ++ [.int n t]) (ns ++ [n]) := by
  induction h with
  | nil => exact .cons _ _ .nil
  | cons n' t' _ ih => exact .cons _ _ ih
theorem strs_getElem {vs : List Value} {ys : List Str} (h : StrsAre vs ys) : ∀ (i : Nat) (hi : i < vs.length) (hj : i < ys.length), ∃ t, vs[i] = .str ys[i] t := by
  induction h with
  | nil => intro i hi; exact absurd hi (by simp)
  | cons y t _ ih =>
    intro i hi hj
    cases i with
    | zero => exact ⟨t, rfl⟩
    | succ i => simpa using ih i (by simpa using hi) (by simpa using hj)
theorem strs_erase {vs : List Value} {ys : List Str} (h : StrsAre vs ys) : ∀ i, StrsAre (vs.eraseIdx i) (ys.eraseIdx i) := by
  induction h with
  | nil => intro i; simpa using StrsAre.nil
  | cons y t _ ih =>
    intro i
    cases i with
    | zero => simpa
    | succ i => simpa using StrsAre.cons y t (ih i)
section
variable {prog : Program} {w : World} {A : Around} {s : Shared} {g : Heap} {L : Addr} {m : Str → Option Value} {news post : Led} {E : Value → Shared → Prop} {Q : Value → Shared → Prop} {l : Addr} {vs : List Value} {v : Value}
theorem appendS (pre : Led) (S : St g L s.heap m (pre ++ (l, isL vs) :: post)) (hsz : vs.length ≤ 1000) (h : ∀ h', St g L h' m (pre ++ (l, isL (vs ++ [v])) :: post) → Q .none { s with heap := h' }) :
    wpAny (model prog w) A (call (.builtin "list.append") [.ref l, v]) Q E s := by
  have hl := plain_of (S.get (a := l) (P := isL vs) (by simp))
  refine wpAny_list_append_plain hl (fun h' hl' hs => h h' (S.upd hs ?_)) (by rw [List.size_toArray, sizeLine_eq]; omega)
  have := at_list hl'
  simpa using this
theorem getListS {name : Str} {id : String} {pl : Sem Bool} {Q : Value × List Value → Shared → Prop} (slot : Slot "list" name id) (type : typeOf (.builtin id) = pure (.type "method_descriptor")) (hm : At s.heap (l, isL vs)) (h : Q (.builtin id, [.ref l]) s) :
    wpAny (model prog w) A (getMethod (.ref l) name pl) Q E s := by
  obtain ⟨n, ho⟩ := plain_of hm
  exact getMethod_list_of slot type (isList_of hm) ⟨_, ho, rfl⟩ h
theorem removeS (pre : Led) {x : List Nat} {t : Tok} {ys : List (List Nat)} (hi : StrsAre vs (ys.map fun y => sw y)) (hx : x ∈ ys) (hsz : vs.length ≤ 1000) (S : St g L s.heap m (pre ++ (l, isL vs) :: post))
    (h : ∀ h' vs', StrsAre vs' ((ys.erase x).map fun y => sw y) → St g L h' m (pre ++ (l, isL vs') :: post) → Q .none { s with heap := h' }) :
    wpAny (model prog w) A (call (.builtin "list.remove") [.ref l, .str (sw x) t]) Q E s := by
  obtain ⟨n, ho⟩ := plain_of (S.get (a := l) (P := isL vs) (by simp))
  have hlen : vs.length = ys.length := by rw [StrsAre.len_eq hi, List.length_map]
  have hj := List.idxOf_lt_length_iff.mpr hx
  have at_ : ∀ i (hi' : i < vs.length), isStrOf (sw x) vs[i] = (ys[i]'(by omega) == x) := fun i hi' => by
    obtain ⟨t, e⟩ := strs_getElem hi i hi' (by rw [List.length_map]; omega)
    rw [e, List.getElem_map]
    show (sw (ys[i]'(by omega)) == sw x) = _
    rw [Bool.eq_iff_iff, beq_iff_eq, beq_iff_eq, sw_inj]
  refine call_meets PySem.F.slot_list_remove ⟨_, ho, rfl⟩ PySem.F.entry_list_remove (PySem.F.args_list_remove_2 _ _)
    (MeetsSeq.list_remove l vs.toArray n (.str (sw x) t) (isStrOf (sw x)) (fun y hy => eq_isStrOf _ t hi y (by simpa using hy)) (ys.idxOf x) (by rw [List.size_toArray]; omega) ?_ (fun i hi' hlt => ?_) (by rw [List.size_toArray, sizeLine_eq]; omega))
    ⟨ho, h _ (vs.eraseIdx (ys.idxOf x)) ?_ (S.upd (Heap.SameBut.update ..) ?_)⟩
  · show isStrOf (sw x) (vs[ys.idxOf x]'(by omega)) = true
    rw [at_ _ (by omega)]; simp
  · show isStrOf (sw x) (vs[i]'(by simpa using hi')) = false
    rw [at_ i (by simpa using hi')]
    exact List.not_of_lt_findIdx hlt
  · have := strs_erase hi (ys.idxOf x)
    rw [← map_eraseIdx'] at this
    rw [List.erase_eq_eraseIdx_of_idxOf (i := ys.idxOf x) rfl]
    exact this
  · have e : ∀ o, o = Obj.mapSeq (fun xs => xs.eraseIdxIfInBounds (ys.idxOf x)) { cls := .type "list", data := .seq vs.toArray n } → ∃ n', o = { cls := .type "list", data := .seq (vs.eraseIdx (ys.idxOf x)).toArray n' } := by
      rintro o rfl
      simp [Obj.mapSeq]
    refine ⟨_, Heap.get?_update_self _ ho ?_, ?_⟩
    · obtain ⟨n', e'⟩ := e _ rfl; rw [e']; rfl
    · exact e _ rfl
theorem inS {x : List Nat} {t : Tok} {ys : List (List Nat)} (hi : StrsAre vs (ys.map fun y => sw y)) (hm : At s.heap (l, isL vs)) (h : Q (.bool (decide (x ∈ ys))) s) :
    wpAny (model prog w) A (compareOp .In (.str (sw x) t) (.ref l)) Q E s := by
  refine in_list_strs (isList_of hm) hi ?_
  have e : ((ys.map fun y => sw y).any fun y => y == sw x) = decide (x ∈ ys) := by
    rw [Bool.eq_iff_iff, decide_eq_true_iff, List.any_eq_true]
    constructor
    · rintro ⟨y, hy, e⟩
      obtain ⟨z, hz, rfl⟩ := List.mem_map.mp hy
      rw [beq_iff_eq, sw_inj] at e
      exact e ▸ hz
    · intro hx
      exact ⟨sw x, List.mem_map_of_mem hx, by simp⟩
  rw [e]; exact h
theorem max2S {a b : Int} {t u : Tok} (hh : A.handled = none) (hm : At s.heap (l, isL [.int a t, .int b u])) (S : St g L s.heap m news) (h : ∀ h' tk t', St g L h' m news → Q (.int (max a b) t') { s with heap := h', toks := tk }) :
    wpAny (model prog w) A (call (.builtin "max") [.ref l]) Q E s := by
  have hl : s.heap.IsList l (intItems #[(a, t), (b, u)]) := by simpa [intItems] using isList_of hm
  refine max_intList hh hl (by simp) fun v h' tk hv hk => ?_
  obtain ⟨t', rfl⟩ := intItems_at hv
  obtain ⟨h1, h2⟩ := argBest_gt (numAt #[(a, t), (b, u)]) 1
  have h3 : numAt #[(a, t), (b, u)] 0 = a := rfl
  have h4 : numAt #[(a, t), (b, u)] 1 = b := rfl
  have h5 := h2 0 (by omega)
  have h6 := h2 1 (by omega)
  have e : numAt #[(a, t), (b, u)] (argBest (fun i j => decide (numAt #[(a, t), (b, u)] i > numAt #[(a, t), (b, u)] j)) 1) = max a b := by
    generalize argBest (fun i j => decide (numAt #[(a, t), (b, u)] i > numAt #[(a, t), (b, u)] j)) 1 = z at *
    have : z = 0 ∨ z = 1 := by omega
    rcases this with rfl | rfl <;> omega
  rw [show (#[(a, t), (b, u)] : Array (Int × Tok)).size - 1 = 1 from rfl, e]
  exact h h' tk t' (S.keeps hk)
theorem letGoT {tgt : Expr} {I T : Addr} {i : Nat} {v : Value} {Q : Unit → Shared → Prop} (hit : s.heap.IsTupleIter I T i) (hQ : Q () s) : wpAny (model prog w) A (letOwnedTupleGo tgt (.ref I) v) Q E s := by
  obtain ⟨o, ho, hc, hd⟩ := hit
  unfold letOwnedTupleGo
  split
  all_goals first
    | exact wpAny_pure hQ
    | (cases v <;> first
        | exact wpAny_pure hQ
        | (refine wpAny_bind (wpAny_load ho ?_)
           rw [hc, hd]
           rename_i T'
           show wpAny _ A (if (["enumerate", "zip", "dict_itemiterator", "dict_reverseitemiterator", "odict_iterator", "itertools.zip_longest", "itertools.pairwise"].contains "tuple_iterator" &&
              (#[.ref T, .int i 0] : Array Value)[0]? == some (rawInt T')) = true then _ else _) Q E s
           rw [if_neg (by
             intro h
             rw [show (["enumerate", "zip", "dict_itemiterator", "dict_reverseitemiterator", "odict_iterator", "itertools.zip_longest", "itertools.pairwise"].contains "tuple_iterator") = false from by decide, Bool.false_and] at h
             cases h)]
           exact wpAny_pure hQ))
end
end
section
section
variable {prog : Program} {w : World} {A : Around} {s : Shared} {env : Env} {g : Heap} {Q : Flow → Shared → Prop} {m : Str → Option Value} {mu rest : Led}

theorem offOf {I : Addr} {h : Heap} (S : St g env.locals h m ((I, any) :: (mu ++ rest))) : ItOff g env.locals I [I] mu rest :=
  ⟨(S.o.own (I, any) (.head _)).2, fun q => S.neL (P := any) (.head _) (List.mem_singleton.mp q).symm, fun p hp q => headNe S p (List.mem_append_left _ hp) (List.mem_singleton.mp q),
    fun q => by obtain ⟨p, hp, e⟩ := List.mem_map.mp q; exact headNe S p (List.mem_append_right _ hp) e⟩

/-- for x in range(a, b), the range at hand -/
theorem rgLoop {r : Addr} {a b : Int} {x : Str} {px : Pos} {body : List Stmt} (J : Nat → (Str → Option Value) → Led → Prop)
    (hh : A.handled = none) (hr : At s.heap (r, isRg a b)) (ha : -1000 ≤ a ∧ a ≤ 1000) (hb : -1000 ≤ b ∧ b ≤ 1000) (hx : env.kindOf x = some .local) (hp : (env.scope.kind == .class || (env.scope.kind == .module && env.locals != env.globals)) = false)
    (S : St g env.locals s.heap m (mu ++ rest)) (j0 : J 0 m mu)
    (turn : ∀ i t m₁ mu₁ g₁ h tk, i < (b - a).toNat → J i m₁ mu₁ → Sub g g₁ → (∀ p ∈ rest, At g₁ p) → (∀ c o, s.heap.get? c = some o → c ≠ env.locals → c ∉ mu.map (·.1) → g₁.get? c = some o) →
      St g₁ env.locals h (fun y => if y = x then some (.int (a + i) t) else m₁ y) mu₁ →
      wpAny (model prog w) A (execs body env) (TurnEnd s g₁ env.locals (J (i + 1)) Q) FalseE { s with heap := h, toks := tk })
    (done : ∀ m₁ mu₁ h tk, J (b - a).toNat m₁ mu₁ → St g env.locals h m₁ (mu₁ ++ rest) → Q .next { s with heap := h, toks := tk }) :
    wpAny (model prog w) A (pyIter (.ref r)) (fun it s₂ => ∃ I, it = .ref I ∧ codeAny (model prog w) A (.forLoop (.Name x px) (.ref I) body [] env) (fun r s' => match r with | .ok f => Q f s' | .error _ => False) s₂) FalseE s := by
  refine iterRg hh hr ha hb S fun I h' Si X st S' bd kf => ⟨I, rfl, ?_⟩
  have hI := (S'.o.own (I, any) (.head _)).2
  refine loop_S (s := { s with heap := h' }) (mu := mu) (rest := rest) J X hx hp S'.drop1 st (offOf S') j0 (fun i v m₁ mu₁ g₁ h tk hi hP j sub at₁ all S₁ => ?_) done
  obtain ⟨_, t, rfl⟩ := hP
  refine turn i t m₁ mu₁ g₁ h tk hi j sub at₁ (fun c o e q1 q2 => ?_) S₁
  exact all c o (kf c o e).1 q1 (kf c o e).2 q2
/-- for x in a str -/
theorem strLoop {y : List Nat} {ty : Tok} {x : Str} {px : Pos} {body : List Stmt} (J : Nat → (Str → Option Value) → Led → Prop)
    (hh : A.handled = none) (hx : env.kindOf x = some .local) (hp : (env.scope.kind == .class || (env.scope.kind == .module && env.locals != env.globals)) = false)
    (S : St g env.locals s.heap m (mu ++ rest)) (j0 : J 0 m mu)
    (turn : ∀ i t m₁ mu₁ g₁ h tk c, y[i]? = some c → J i m₁ mu₁ → Sub g g₁ → (∀ p ∈ rest, At g₁ p) → (∀ c o, s.heap.get? c = some o → c ≠ env.locals → c ∉ mu.map (·.1) → g₁.get? c = some o) →
      St g₁ env.locals h (fun z => if z = x then some (.str (sw [c]) t) else m₁ z) mu₁ →
      wpAny (model prog w) A (execs body env) (TurnEnd s g₁ env.locals (J (i + 1)) Q) FalseE { s with heap := h, toks := tk })
    (done : ∀ m₁ mu₁ h tk, J y.length m₁ mu₁ → St g env.locals h m₁ (mu₁ ++ rest) → Q .next { s with heap := h, toks := tk }) :
    wpAny (model prog w) A (pyIter (.str (sw y) ty)) (fun it s₂ => ∃ I, it = .ref I ∧ codeAny (model prog w) A (.forLoop (.Name x px) (.ref I) body [] env) (fun r s' => match r with | .ok f => Q f s' | .error _ => False) s₂) FalseE s := by
  refine iter_str hh S fun I h' Si X st S' bd kf => ⟨I, rfl, ?_⟩
  have ey : (sw y).cps.size = y.length := by simp
  rw [ey] at X
  refine loop_S (s := { s with heap := h' }) (mu := mu) (rest := rest) J X hx hp S'.drop1 st (offOf S') j0 (fun i v m₁ mu₁ g₁ h tk hi hP j sub at₁ all S₁ => ?_) done
  obtain ⟨c, t, hc, rfl⟩ := hP
  refine turn i t m₁ mu₁ g₁ h tk c (by simpa using hc) j sub at₁ (fun c o e q1 q2 => ?_) S₁
  exact all c o (kf c o e).1 q1 (kf c o e).2 q2
/-- for .. in a tuple, whatever the target -/
theorem tupLoop {l : Addr} {vs : List Value} {tgt : Expr} {body : List Stmt} (J : Nat → (Str → Option Value) → Led → Prop)
    (hh : A.handled = none) (hl : At s.heap (l, isT vs)) (hlL : l ≠ env.locals) (hmu : ∀ p ∈ mu, p.1 ≠ l)
    (S : St g env.locals s.heap m (mu ++ rest)) (j0 : J 0 m mu)
    (turn : ∀ i v m₁ mu₁ g₁ h tk, vs[i]? = some v → J i m₁ mu₁ → Sub g g₁ → (∀ p ∈ rest, At g₁ p) → (∀ c o, s.heap.get? c = some o → c ≠ env.locals → c ∉ mu.map (·.1) → g₁.get? c = some o) →
      St g₁ env.locals h m₁ mu₁ →
      wpAny (model prog w) A (assign tgt env v) (fun _ s₁ => wpAny (model prog w) A (execs body env) (TurnEnd s g₁ env.locals (J (i + 1)) Q) FalseE s₁) FalseE { s with heap := h, toks := tk })
    (done : ∀ m₁ mu₁ h tk, J vs.length m₁ mu₁ → St g env.locals h m₁ (mu₁ ++ rest) → Q .next { s with heap := h, toks := tk }) :
    wpAny (model prog w) A (pyIter (.ref l)) (fun it s₂ => ∃ I, it = .ref I ∧ codeAny (model prog w) A (.forLoop tgt (.ref I) body [] env) (fun r s' => match r with | .ok f => Q f s' | .error _ => False) s₂) FalseE s := by
  have hlt : l < s.heap.objs.size := hl.lt
  have hll : s.heap.IsTuple l vs.toArray := isTup_of hl
  have W := Walks.tuple (prog := prog) (w := w) hh s.heap.objs.size l (Nat.ne_of_lt hlt) vs.toArray
  refine wpAny_pyIter_tuple hll ⟨_, rfl, ?_⟩
  have kf : ∀ c o, s.heap.get? c = some o → (s.heap.push { cls := .type "tuple_iterator", data := .fields #[.ref l, .int 0 0] }).get? c = some o ∧ c ≠ s.heap.objs.size := fun c o e => ⟨Heap.get?_push_of_some _ e, Nat.ne_of_lt (Heap.lt_size e)⟩
  have S' : St g env.locals (s.heap.push { cls := .type "tuple_iterator", data := .fields #[.ref l, .int 0 0] }) m ((s.heap.objs.size, any) :: (mu ++ rest)) := S.push _ trivial
  refine loopG_S (s := { s with heap := s.heap.push { cls := .type "tuple_iterator", data := .fields #[.ref l, .int 0 0] } }) (mu := mu) (rest := rest) (fp := [s.heap.objs.size, l]) (wr := [s.heap.objs.size]) (n := vs.length) (V := fun i v _ => vs[i]? = some v)
    (Si := fun i h => h.IsTupleIter s.heap.objs.size l i ∧ h.IsTuple l vs.toArray) J ?_ ?_ W.frame ?_ ?_ ?_ ?_ ?_ ?_ S'.drop1 ⟨⟨_, Heap.get?_push_size _ rfl, rfl, rfl⟩, hll.push _⟩ j0
    (fun i v m₁ mu₁ g₁ h tk hi hV j sub at₁ all S₁ => turn i v m₁ mu₁ g₁ h tk hV j sub at₁ (fun c o e q1 q2 => all c o (kf c o e).1 q1 (by simpa using (kf c o e).2) q2) S₁) done
  · intro i s₁ Q E hi st hQ
    refine W.item i s₁ _ _ (by simpa using hi) st fun v h' tk hP st' k => ?_
    exact letGoT st'.1 (hQ v h' tk (fun _ _ _ _ => by simpa using hP) st' k)
  · intro s₁ Q E st hQ
    exact W.done s₁ Q E (by simpa using st) hQ
  · intro i h st b hb
    rcases List.mem_cons.mp hb with rfl | hb
    · obtain ⟨o, e, _⟩ := st.1; exact ⟨o, e⟩
    · rw [List.mem_singleton.mp hb]; obtain ⟨o, e, _⟩ := st.2; exact ⟨o, e⟩
  · intro b hb; rw [List.mem_singleton.mp hb]; exact .head _
  · intro b hb; rw [List.mem_singleton.mp hb]; exact S.o.noSize
  · intro q
    rcases List.mem_cons.mp q with q | q
    · exact S'.neL (P := any) (.head _) q.symm
    · exact hlL (List.mem_singleton.mp q).symm
  · intro p hp q
    rcases List.mem_cons.mp q with q | q
    · exact headNe S' p (List.mem_append_left _ hp) q
    · exact hmu p hp (List.mem_singleton.mp q)
  · intro p hp q
    exact headNe S' p (List.mem_append_right _ hp) (List.mem_singleton.mp q)
theorem assignTupS {L T : Addr} {vs : List Value} {elts : List Expr} {k : Nat} {pos : Pos} {news : Led} {E : Value → Shared → Prop} {Q : Unit → Shared → Prop} (hh : A.handled = none) (S : St g L s.heap m news) (hT : At s.heap (T, isT vs))
    (h : ∀ h', St g L h' m news → wpAny (model prog w) A (assignInOrder ((assignEach elts env).map (·.2)) vs) Q E { s with heap := h' })
    (hn : (assignEach elts env).length = vs.length := by rfl) (hstar : (assignEach elts env).findIdx? (·.1) = none := by rfl) :
    wpAny (model prog w) A (assign (.Tuple elts k pos) env (.ref T)) Q E s :=
  assign_Tuple_tuple hh (isTup_of hT) (by rw [hn]; simp) hstar fun h' he => h h' (S.keeps fun b o e => he b o (Nat.ne_of_lt (Heap.lt_size e)) e)
end
end
section

/-- the rows of a dict that holds names -/
inductive Ents : List DictEntry → List (Str × Value) → Prop
  | nil : Ents [] []
  | cons (h : Int) (k : Str) (t : Tok) (v : Value) {es : List DictEntry} {at_ : List (Str × Value)} : Ents es at_ → Ents (⟨h, .str k t, v⟩ :: es) ((k, v) :: at_)
abbrev isA (at_ : List (Str × Value)) : Obj → Prop := fun o => ∃ es n, o = dictOf es n ∧ Ents es at_

theorem Ents.look {es : List DictEntry} {at_ : List (Str × Value)} (E : Ents es at_) (name : Str) : getL name es = some (at_.lookup name) := by
  have noRef : ∀ {es at_}, Ents es at_ → es.any (·.refKey) = false := by
    intro es at_ E
    induction E with
    | nil => rfl
    | cons h k t v _ ih => simp only [List.any_cons, ih, Bool.or_false]; rfl
  have fnd : es.find? (·.key.isStr name) = none → at_.lookup name = none := by
    induction E with
    | nil => intro _; rfl
    | cons h k t v _ ih =>
      intro q
      rw [List.find?_cons] at q
      have e : (Value.str k t).isStr name = (k == name) := rfl
      rw [e] at q
      rw [List.lookup_cons]
      cases hk : k == name with
      | true => rw [hk] at q; cases q
      | false =>
        rw [hk] at q
        have : (name == k) = false := by rw [← Bool.not_eq_true, beq_iff_eq] at hk ⊢; exact fun z => hk z.symm
        rw [this]; exact ih q
  have fnd2 : ∀ e, es.find? (·.key.isStr name) = some e → at_.lookup name = some e.val := by
    clear fnd
    induction E with
    | nil => intro e q; cases q
    | cons h k t v _ ih =>
      intro e q
      rw [List.find?_cons] at q
      have e' : (Value.str k t).isStr name = (k == name) := rfl
      rw [e'] at q
      rw [List.lookup_cons]
      cases hk : k == name with
      | true =>
        rw [hk] at q
        have : (name == k) = true := by rw [beq_iff_eq] at hk ⊢; exact hk.symm
        rw [this]
        cases q; rfl
      | false =>
        rw [hk] at q
        have : (name == k) = false := by rw [← Bool.not_eq_true, beq_iff_eq] at hk ⊢; exact fun z => hk z.symm
        rw [this]; exact ih e q
  unfold getL
  cases q : es.find? (·.key.isStr name) with
  | none => rw [noRef E, fnd q]; rfl
  | some e => rw [fnd2 e q]

theorem Ents.snoc {es : List DictEntry} {at_ : List (Str × Value)} (E : Ents es at_) (h : Int) (k : Str) (t : Tok) (v : Value) : Ents (es ++ [⟨h, .str k t, v⟩]) (at_ ++ [(k, v)]) := by
  induction E with
  | nil => exact .cons _ _ _ _ .nil
  | cons h k t v _ ih => exact .cons _ _ _ _ ih
theorem Ents.len {es : List DictEntry} {at_ : List (Str × Value)} (E : Ents es at_) : es.length = at_.length := by
  induction E with
  | nil => rfl
  | cons h k t v _ ih => simp [ih]
theorem Ents.miss {es : List DictEntry} {at_ : List (Str × Value)} (E : Ents es at_) {name : Str} (hn : at_.lookup name = none) : es.find? (·.key.isStr name) = none := by
  have := E.look name
  unfold getL at this
  split at this
  · rw [hn] at this; cases this
  · assumption
theorem put_new {es : List DictEntry} {n : Nat} {name : Str} {h : Int} {key v : Value} (hm : es.find? (·.key.isStr name) = none) : Obj.putName name h key v (dictOf es n) = dictOf (es ++ [⟨h, key, v⟩]) (n + 1) := by
  have e : Obj.putName name h key v (dictOf es n) = Obj.putNameByArray name h key v (dictOf es n) := by rw [Obj.putName_eq]
  rw [e]
  have h2 : es.toArray.findIdx? (·.key.isStr name) = none := by
    rw [List.findIdx?_toArray, List.findIdx?_eq_none_iff]
    intro x hx
    have := List.find?_eq_none.mp hm x hx
    simpa using this
  show (match es.toArray.findIdx? (·.key.isStr name) with | some i => _ | none => _) = _
  rw [h2]
  simp

section
variable {prog : Program} {w : World} {A : Around} {s : Shared} {g : Heap} {L x dx C : Addr} {m : Str → Option Value} {news pre post : Led} {E : Value → Shared → Prop} {name : Str} {at_ : List (Str × Value)}

theorem inst_of {h : Heap} (hx : At h (x, isO (instObj C dx))) (hd : At h (dx, isA at_)) : ∃ es n, Ents es at_ ∧ InstAt h x (instObj C dx) C (some (dictOf es n)) := by
  obtain ⟨o, e, rfl⟩ := hx
  obtain ⟨o, e', es, n, rfl, E⟩ := hd
  exact ⟨es, n, E, ⟨e, rfl, rfl, e'⟩⟩

/-- an attribute of the instance's own -/
theorem getA {v : Value} {expr : Bool} {Q : Value → Shared → Prop} (S : St g L s.heap m news) (G : Gd w g) (hx : At s.heap (x, isO (instObj C dx))) (hd : At s.heap (dx, isA at_)) (hg : plainGet (K1 w.params) C name = true) (hh : hasDictIn (K1 w.params) C = true)
    (ha : findIn (K1 w.params) (.ref C) name = some none) (hl : at_.lookup name = some v) (hv : handedIn v = true) (h : Q v { s with toks := s.toks + 1 }) :
    wpAny (model prog w) A (getAttr (.ref x) name expr) Q E s := by
  obtain ⟨es, n, En, I⟩ := inst_of hx hd
  exact get_value (G.X.keeps S.keep) I (plainGet_of hg).1 (findObj_own hh ha rfl (by rw [lookIn_dict, En.look, hl])) hv h
/-- the same, to be called -/
theorem ownA {v : Value} {pl : Sem Bool} {Q : Value × List Value → Shared → Prop} (S : St g L s.heap m news) (G : Gd w g) (hx : At s.heap (x, isO (instObj C dx))) (hd : At s.heap (dx, isA at_)) (hg : plainGet (K1 w.params) C name = true) (hh : hasDictIn (K1 w.params) C = true)
    (ha : findIn (K1 w.params) (.ref C) name = some none) (hl : at_.lookup name = some v) (hv : handedIn v = true) (h : Q (v, []) { s with toks := s.toks + 1 }) :
    wpAny (model prog w) A (getMethod (.ref x) name pl) Q E s := by
  obtain ⟨es, n, En, I⟩ := inst_of hx hd
  exact method_usual (G.X.keeps S.keep) I (plainGet_of hg).1 (plainGet_of hg).2 ha rfl (getA S G hx hd hg hh ha hl hv h)
/-- a method of the class -/
theorem methA {f : Addr} {pl : Sem Bool} {Q : Value × List Value → Shared → Prop} (S : St g L s.heap m news) (G : Gd w g) (hx : At s.heap (x, isO (instObj C dx))) (hd : At s.heap (dx, isA at_)) (hg : plainGet (K1 w.params) C name = true)
    (ha : findIn (K1 w.params) (.ref C) name = some (some (.ref f))) (ht : typeIn (K1 w.params) (.ref f) = some (.type "function")) (hl : at_.lookup name = none) (h : Q (.ref f, [.ref x]) s) :
    wpAny (model prog w) A (getMethod (.ref x) name pl) Q E s := by
  obtain ⟨es, n, En, I⟩ := inst_of hx hd
  refine method_fn (G.X.keeps S.keep) I (plainGet_of hg).1 (plainGet_of hg).2 ha ht ?_ h
  unfold shadowIn
  dsimp only
  rw [lookIn_dict, En.look, hl]; rfl
/-- a static method -/
theorem smGetA {p : Addr} {fv : Value} {rest : List Value} {expr : Bool} {Q : Value → Shared → Prop} (S : St g L s.heap m news) (G : Gd w g) (hx : At s.heap (x, isO (instObj C dx))) (hd : At s.heap (dx, isA at_)) (hg : plainGet (K1 w.params) C name = true) (hh : hasDictIn (K1 w.params) C = true)
    (ha : findIn (K1 w.params) (.ref C) name = some (some (.ref p))) (hgf : specialIn (K1 w.params) (.ref p) "__get__" = some (some (.builtin "staticmethod.__get__")))
    (hts : takesIn (K1 w.params) (.ref p) = some false) (hc : copiedNames.contains name = false) (hl : at_.lookup name = none) (hp : recIn (K1 w.params) p "staticmethod" = some (fv :: rest)) (hv : handedIn fv = true)
    (h : Q fv { s with toks := s.toks + 1 }) : wpAny (model prog w) A (getAttr (.ref x) name expr) Q E s := by
  obtain ⟨es, n, En, I⟩ := inst_of hx hd
  have X := G.X.keeps S.keep
  exact get_bind X I (plainGet_of hg).1 (findObj_fn hh ha hgf hts hc (by show lookIn name (dictOf es n) = _; rw [lookIn_dict, En.look, hl])) (plainGet_of hg).2
      (wpAny_call (sm_get (s := { s with toks := s.toks + 1 }) X hp (handed_on hv h)))
theorem smA {p : Addr} {fv : Value} {rest : List Value} {pl : Sem Bool} {Q : Value × List Value → Shared → Prop} (S : St g L s.heap m news) (G : Gd w g) (hx : At s.heap (x, isO (instObj C dx))) (hd : At s.heap (dx, isA at_)) (hg : plainGet (K1 w.params) C name = true) (hh : hasDictIn (K1 w.params) C = true)
    (ha : findIn (K1 w.params) (.ref C) name = some (some (.ref p))) (ht : typeIn (K1 w.params) (.ref p) = some (.type "staticmethod")) (hgf : specialIn (K1 w.params) (.ref p) "__get__" = some (some (.builtin "staticmethod.__get__")))
    (hts : takesIn (K1 w.params) (.ref p) = some false) (hc : copiedNames.contains name = false) (hl : at_.lookup name = none) (hp : recIn (K1 w.params) p "staticmethod" = some (fv :: rest)) (hv : handedIn fv = true)
    (h : Q (fv, []) { s with toks := s.toks + 1 }) : wpAny (model prog w) A (getMethod (.ref x) name pl) Q E s := by
  obtain ⟨es, n, En, I⟩ := inst_of hx hd
  exact method_usual (r := some (.ref p)) (G.X.keeps S.keep) I (plainGet_of hg).1 (plainGet_of hg).2 ha (by simp only [Option.all_some, ht, Option.any_some]; decide +kernel)
    (smGetA S G hx hd hg hh ha hgf hts hc hl hp hv h)

/-- a new attribute -/
theorem setA {v : Value} {Q : Unit → Shared → Prop} (pre : Led) (S : St g L s.heap m (pre ++ (dx, isA at_) :: post)) (G : Gd w g) (hx : At s.heap (x, isO (instObj C dx)))
    (hs : findIn (K1 w.params) (.ref C) "__setattr__" = some (some (.builtin "object.__setattr__"))) (hp : plainOver (K1 w.params) C = true) (ht : takerIn (K1 w.params) C name = some none) (hh : hasDictIn (K1 w.params) C = true)
    (hl : at_.lookup name = none) (hz : at_.length ≤ 100)
    (h : ∀ h' tk, St g L h' m (pre ++ (dx, isA (at_ ++ [(name, v)])) :: post) → Q () { s with heap := h', toks := tk }) :
    wpAny (model prog w) A (setAttr (.ref x) name v) Q E s := by
  obtain ⟨es, n, En, I⟩ := inst_of hx (S.get (a := dx) (P := isA at_) (by simp))
  have X := G.X.keeps S.keep
  refine set_plain X I hs (osa_open (s := { s with toks := s.toks + 1 }) X I hp ht fun b => ?_)
  obtain ⟨cd, hc, hd'⟩ := any_some hh
  have D : s.heap.get? dx = some (dictOf es n) := I.dict
  have hm := En.miss hl
  have e : ∀ hk t', Obj.putName name hk (.str name t') v (dictOf es n) = dictOf (es ++ [⟨hk, .str name t', v⟩]) (n + 1) := fun hk t' => put_new hm
  refine wpAny_bind (wpAny_pure (wpAny_bind (wpAny_bind (wpAny_loadPart (s := { s with toks := s.toks + 1 }) I.at_ (wpAny_bind ((looks_clsIn X hc).at ?_))))))
  rw [hd']
  refine wpAny_pure (a := some dx) (wpAny_bind (wpAny_pure (wpAny_bind ?_)))
  unfold nsSet
  refine wpAny_bind (wpAny_bind (wpAny_askSetting (wpAny_pure (wpAny_bind (wpAny_mkText (wpAny_bind (wpAny_loadPart (s := { s with toks := s.toks + 1 + 1 }) D ?_)))))))
  dsimp only
  have c : (!es.toArray.any (·.key.isStr name) && es.toArray.any (·.refKey)) = false := by
    have := En.look name
    unfold getL at this
    rw [hm] at this
    dsimp only at this
    have r : es.any (·.refKey) = false := by
      cases q : es.any (·.refKey) with
      | false => rfl
      | true => rw [q] at this; simp at this
    rw [List.any_toArray, List.any_toArray, r, Bool.and_false]
  rw [aRefKeyMayBeTheName_at, c]
  have D' : ∀ hk t', (s.heap.update dx (Obj.putName name hk (.str name t') v)).get? dx = some (dictOf (es ++ [⟨hk, .str name t', v⟩]) (n + 1)) := fun hk t' => by
    rw [Heap.get?_update_self _ D (by rw [e]; rfl), e]
  refine wpAny_updatePart (s := { s with toks := s.toks + 1 + 1 }) D ?_
  refine wpAny_bind (wpAny_lookBehind (D' _ _) (pastItsLine_dict (by rw [List.size_toArray, sizeLine_eq, List.length_append, En.len]; simp; omega)) ?_)
  refine wpAny_pure ?_
  show Q () _
  exact h _ _ (S.upd (Heap.SameBut.update ..) ⟨_, D' _ _, _, _, rfl, En.snoc _ _ _ _⟩)

theorem tc_weight (C : Addr) (rest : List Value) (kw : List (Str × Value)) : (Code.builtin "type.__call__" ⟨.ref C :: rest, kw⟩).weight = 1 := by kernel_rfl
theorem tc_units (C : Addr) (rest : List Value) (kw : List (Str × Value)) : (Code.builtin "type.__call__" ⟨.ref C :: rest, kw⟩).cUnits = 1 := by kernel_rfl
theorem Rm.make {k : Nat} (rm : Rm (k + 1) A) (C : Addr) (rest : List Value) (kw : List (Str × Value)) : Rm k (A.under (.builtin "type.__call__" ⟨.ref C :: rest, kw⟩)) := by
  refine ⟨rm.hh, ?_, ?_⟩
  · show A.depth + (Code.builtin "type.__call__" ⟨.ref C :: rest, kw⟩).weight + k ≤ 600
    rw [tc_weight]; have := rm.d; omega
  · show A.units + (Code.builtin "type.__call__" ⟨.ref C :: rest, kw⟩).cUnits + 8 * k ≤ 5000
    rw [tc_units]; have := rm.u; omega
/-- a class of one's own is called -/
theorem makeS {rest : List Value} {kw : List (Str × Value)} {fI : Addr} {R : Result → Shared → Prop} {news : Led} (G : Gd w g) (O : Own g s.heap news) (hm : makesIn (K1 w.params) C = true)
    (hi : findIn (K1 w.params) (.ref C) "__init__" = some (some (.ref fI))) (hf : typeIn (K1 w.params) (.ref fI) = some (.type "function"))
    (h : ∀ x dx h', Own g h' ((x, isO (instObj C dx)) :: (dx, isA []) :: news) →
      codeAny (model prog w) (A.under (.builtin "type.__call__" ⟨.ref C :: rest, kw⟩)) (.call (.ref fI) ⟨.ref x :: rest, kw⟩) (InitBack x R) { s with heap := h' }) :
    codeAny (model prog w) A (.call (.ref C) ⟨rest, kw⟩) R s := by
  obtain ⟨hh, g', d, t, os⟩ := s
  have X := G.X.keeps O.keep
  have O₁ := O.push (P := isA []) emptyDict ⟨[], 0, rfl, .nil⟩
  have O₂ := O₁.push (P := isO (instObj C hh.objs.size)) (instObj C hh.objs.size) rfl
  rw [Heap.size_push] at O₂
  exact make_core (makes_of X hm) (looks_findIn X hi) (fun self => bind_fn X self hf) (.inl rfl) (h _ _ _ O₂)
/-- an instance is called -/
theorem callA {f : Addr} {a : Args} {R : Result → Shared → Prop} (X : (K1 w.params).In s.heap) (hx : At s.heap (x, isO (instObj C dx))) (hd : At s.heap (dx, isA at_)) (hs : findIn (K1 w.params) (.ref C) "__call__" = some (some (.ref f))) (hf : isFn (K1 w.params) (.ref f) = true) (hfn : fnIn (K1 w.params) f = true)
    (hq : codeAny (model prog w) A (.call (.ref f) { a with pos := .ref x :: a.pos }) R s) : codeAny (model prog w) A (.call (.ref x) a) R s := by
  obtain ⟨es, n, En, I⟩ := inst_of hx hd
  exact kco_code X I rfl hs hf hfn hq
end
end
section
theorem intsOf {f : Nat → Int} : ∀ {n : Nat} {ys : List Value}, ys.length = n → (∀ i v, ys[i]? = some v → ∃ t : Tok, v = Value.int (f i) t) → IntsAre ys ((List.range n).map f) := by
  intro n
  induction n with
  | zero =>
    intro ys h _
    rw [List.length_eq_zero_iff.mp h]; exact .nil
  | succ n ih =>
    intro ys h hv
    have hne : ys ≠ [] := fun e => by rw [e] at h; cases h
    obtain ⟨init, last, rfl⟩ : ∃ i l, ys = i ++ [l] := ⟨_, _, (List.dropLast_concat_getLast hne).symm⟩
    have hl : init.length = n := by simpa using h
    obtain ⟨t, rfl⟩ := hv n last (by rw [List.getElem?_append_right (by omega), hl]; simp)
    rw [List.range_succ, List.map_append]
    refine ints_snoc (ih hl fun i v e => ?_) _ _
    obtain ⟨hlt, _⟩ := List.getElem?_eq_some_iff.mp e
    exact hv i v (by rw [List.getElem?_append_left hlt]; exact e)
section
variable {prog : Program} {w : World} {A : Around} {s : Shared} {g : Heap} {L : Addr} {m : Str → Option Value} {news : Led} {E : Value → Shared → Prop} {Q : Value → Shared → Prop}
theorem listTupS {T : Addr} {vs : List Value} (hT : At s.heap (T, isT vs)) (S : St g L s.heap m news) (hsz : vs.length ≤ 1000)
    (h : ∀ l h', St g L h' m ((l, isL vs) :: news) → Q (.ref l) { s with heap := h' }) : wpAny (model prog w) A (call (.type "list") [.ref T]) Q E s := by
  obtain ⟨o, ho, hc, n, hd⟩ := hT
  refine call_list_seq T (.inr rfl) ho hc hd (fun h' c' hk hl => h _ _ ?_) (by rw [List.size_toArray, sizeLine_eq]; omega)
  have S' := S.keeps hk
  refine ⟨S'.ns, S'.offg, fun q => ?_, S'.o.keep, fun p hp => ?_, ?_⟩
  · rcases List.mem_cons.mp q with q | q
    · exact absurd S.ns.lt (q ▸ Nat.lt_irrefl _)
    · exact S'.offn q
  · rcases List.mem_cons.mp hp with rfl | hp
    · exact ⟨⟨_, hl, c', rfl⟩, S.o.noSize⟩
    · exact S'.o.own p hp
  · rw [List.map_cons, List.nodup_cons]
    refine ⟨fun q => ?_, S.o.nd⟩
    obtain ⟨p, hp, e⟩ := List.mem_map.mp q
    exact absurd (S.o.own p hp).1.lt (by rw [e]; exact Nat.lt_irrefl _)
theorem listRgS {r : Addr} {a b : Int} (hh : A.handled = none) (hr : At s.heap (r, isRg a b)) (ha : -1000 ≤ a ∧ a ≤ 1000) (hb : -1000 ≤ b ∧ b ≤ 1000) (S : St g L s.heap m news)
    (h : ∀ l ys h' tk, IntsAre ys ((List.range (b - a).toNat).map fun i : Nat => a + i) → St g L h' m ((l, isL ys) :: news) → Q (.ref l) { s with heap := h', toks := tk }) : wpAny (model prog w) A (call (.type "list") [.ref r]) Q E s := by
  obtain ⟨o, e, t, u, v, rfl⟩ := hr
  have hn : Builtin.Range.rangeSize a b 1 = (((b - a).toNat : Nat) : Int) := by rw [rangeSize_one]; split <;> omega
  refine call_list_range hh (t := t) (u := u) (v := v) (n := (b - a).toNat) e ?_ hn (by omega) fun h' tk acc' c' hk hl hit => h _ acc'.toList _ _ ?_ ?_
  · unfold Builtin.Range.small
    rw [hn]
    simp only [Builtin.Range.rangeFitsLong, Bool.and_eq_true, decide_eq_true_eq]
    refine ⟨⟨⟨⟨?_, ?_⟩, ?_⟩, ?_⟩, ?_⟩ <;> (try simp only [decide_eq_true_eq]) <;> first | omega | (split <;> simp <;> omega) | simp
  · refine intsOf (f := fun i : Nat => a + i) (by rw [Array.length_toList]; exact hit.1) fun i v hv => ?_
    obtain ⟨t, e⟩ := hit.2 i v (by simpa using hv)
    rw [Int.mul_one] at e
    exact ⟨t, e⟩
  · have S' := S.keeps hk
    refine ⟨S'.ns, S'.offg, fun q => ?_, S'.o.keep, fun p hp => ?_, ?_⟩
    · rcases List.mem_cons.mp q with q | q
      · exact absurd S.ns.lt (q ▸ Nat.lt_irrefl _)
      · exact S'.offn q
    · rcases List.mem_cons.mp hp with rfl | hp
      · exact ⟨⟨_, hl, c', by simp⟩, S.o.noSize⟩
      · exact S'.o.own p hp
    · rw [List.map_cons, List.nodup_cons]
      refine ⟨fun q => ?_, S.o.nd⟩
      obtain ⟨p, hp, e⟩ := List.mem_map.mp q
      exact absurd (S.o.own p hp).1.lt (by rw [e]; exact Nat.lt_irrefl _)
/-- truth that may take tokens -/
def TruthT (prog : Program) (w : World) (A : Around) (P : Nat → Value → Prop) (tr : Nat → Bool) : Prop :=
  ∀ i v (s : Shared) (Q : Bool → Shared → Prop) (E : Value → Shared → Prop), P i v → (∀ tk, Q (tr i) { s with toks := tk }) → wpAny (model prog w) A (truthy v) Q E s
theorem all_loopT {I : Addr} {fp wr : List Addr} {n : Nat} {P : Nat → Value → Prop} {St : Nat → Heap → Prop} {R : Result → Shared → Prop} (W : Walks prog w A.in1 I fp wr n P St) (tr : Nat → Bool) (htr : TruthT prog w A.in1 P tr) : ∀ (k i : Nat) (s : Shared), n - i = k → i ≤ n → St i s.heap →
    (∀ h' tk, (∀ b o, b ∉ wr → s.heap.get? b = some o → h'.get? b = some o) → R (.ok (.ret (.bool (((List.range n).drop i).all tr)))) { s with heap := h', toks := tk }) →
    codeAny (model prog w) A (.builtin "all.loop" ⟨[.ref I], []⟩) R s := by
  intro k
  induction k with
  | zero =>
    intro i s hk hi hst hR
    have hin : i = n := by omega
    subst hin
    refine codeAny_builtin F.entry_all_loop ?_
    rw [Around.under_plainId F.plain_all_loop _]
    show wpAny _ A.in1 (pyNext (.ref I) >>= _) _ _ s
    refine wpAny_bind (W.done s _ _ hst fun h' tk hk' => ?_)
    refine wpAny_bind (wpAny_rule (wpAny_pure ?_))
    have := hR h' tk hk'
    rw [List.drop_of_length_le (by simp)] at this
    exact this
  | succ k ih =>
    intro i s hk hi hst hR
    have hlt : i < n := by omega
    have hd : (List.range n).drop i = i :: (List.range n).drop (i + 1) := by
      rw [List.drop_eq_getElem_cons (by simpa using hlt)]; simp
    refine codeAny_builtin F.entry_all_loop ?_
    rw [Around.under_plainId F.plain_all_loop _]
    show wpAny _ A.in1 (pyNext (.ref I) >>= _) _ _ s
    refine wpAny_bind (W.item i s _ _ hlt hst fun v h' tk hP hst' hk' => ?_)
    refine wpAny_bind (wpAny_holding (htr i v _ _ _ hP fun tk2 => ?_))
    refine wpAny_bind (wpAny_letGo ?_)
    cases hb : tr i with
    | true =>
      simp only [if_true]
      refine wpAny_pure ⟨plainId_quiet F.plain_all_loop _, ih (i + 1) _ (by omega) hlt hst' fun h'' tk'' hk'' => ?_⟩
      have := hR h'' tk'' fun b o hbw e => hk'' b o hbw (hk' b o hbw e)
      rw [hd, List.all_cons, hb, Bool.true_and] at this
      exact this
    | false =>
      simp only [Bool.false_eq_true, if_false]
      refine wpAny_bind (wpAny_rule (wpAny_pure ?_))
      have := hR h' tk2 hk'
      rw [hd, List.all_cons, hb, Bool.false_and] at this
      exact this
theorem call_allT {x : Value}
    (h : wpAny (model prog w) A.in1 (pyIter x) (fun it s₂ => ∃ I fp wr n P St tr, it = .ref I ∧ Walks prog w A.in1 I fp wr n P St ∧ St 0 s₂.heap ∧ TruthT prog w A.in1 P tr ∧
      ∀ h' tk, (∀ b o, b ∉ wr → s₂.heap.get? b = some o → h'.get? b = some o) → Q (.bool ((List.range n).all tr)) { s₂ with heap := h', toks := tk }) E s) :
    wpAny (model prog w) A (call (.builtin "all") [x]) Q E s := by
  refine call_function_tree F.kind_all F.plain_all F.entry_all (F.args_all1 _) ?_
  unfold Builtin.«all»
  refine wpAny_bind (m := oneArg "all" _) (wpAny_pure ?_)
  refine wpAny_bind (wpAny_mono h (fun it s₂ h₂ => ?_) fun _ _ e => e)
  obtain ⟨I, fp, wr, n, P, St, tr, rfl, W, hst, htr, hQ⟩ := h₂
  exact wpAny_pure ⟨plainId_quiet F.plain_all_loop _, all_loopT W tr htr n 0 s₂ rfl (Nat.zero_le _) hst fun h' tk hk => by simpa using hQ h' tk hk⟩
/-- all(a tuple of two words) -/
theorem allTupS {T : Addr} {a b : List Nat} {t u : Tok} (hh : A.handled = none) (hT : At s.heap (T, isT [.str (sw a) t, .str (sw b) u])) (S : St g L s.heap m news) (ha : a.length ≤ 1000) (hb : b.length ≤ 1000)
    (h : ∀ h' tk, St g L h' m news → Q (.bool (decide (a ≠ [] ∧ b ≠ []))) { s with heap := h', toks := tk }) : wpAny (model prog w) A (call (.builtin "all") [.ref T]) Q E s := by
  have hlt : T < s.heap.objs.size := hT.lt
  have hll : s.heap.IsTuple T #[.str (sw a) t, .str (sw b) u] := isTup_of hT
  have W := Walks.tuple (prog := prog) (w := w) (A := A.in1) hh s.heap.objs.size T (Nat.ne_of_lt hlt) #[.str (sw a) t, .str (sw b) u]
  refine call_allT (wpAny_pyIter_tuple hll ⟨_, _, _, _, _, _, (fun i => decide ((if i = 0 then a else b) ≠ [])), rfl, W, ⟨⟨_, Heap.get?_push_size _ rfl, rfl, rfl⟩, hll.push _⟩, ?_, fun h' tk hk => ?_⟩)
  · intro i v s' Q' E' hP hq
    have tr : ∀ (l : List Nat) (t : Tok), l.length ≤ 1000 → (∀ tk, Q' (decide (l ≠ [])) { s' with toks := tk }) → wpAny (model prog w) A.in1 (truthy (.str (sw l) t)) Q' E' s' := fun l t hl hq => by
      have e : ((sw l).length : Int) = (l.length : Int) := by show ((l.toArray.size : Nat) : Int) = _; rw [List.size_toArray]
      refine PySem.P.truthy_str (by rw [e]; omega) ?_
      have : (((sw l).length : Int) != 0) = decide (l ≠ []) := by
        rw [e]; cases l <;> simp <;> omega
      rw [this]; exact hq _
    match i, hP, hq with
    | 0, hP, hq =>
      have : v = .str (sw a) t := by simpa using hP.symm
      subst this; exact tr a t ha hq
    | 1, hP, hq =>
      have : v = .str (sw b) u := by simpa using hP.symm
      subst this; exact tr b u hb hq
    | i + 2, hP, _ => simp at hP
  · have e : (List.range (#[(.str (sw a) t : Value), .str (sw b) u]).size).all (fun i => decide ((if i = 0 then a else b) ≠ [])) = decide (a ≠ [] ∧ b ≠ []) := by
      show (List.range 2).all _ = _
      simp [List.range_succ, Bool.and_comm]
    rw [e]
    refine h h' tk (S.keeps fun c o eo => hk c o ?_ (Heap.get?_push_of_some _ eo))
    intro q
    rw [List.mem_singleton.mp q] at eo
    exact absurd (Heap.lt_size eo) (Nat.lt_irrefl _)
end
end
section
theorem slot_map_next : Slot "map" "__next__" "map.__next__" :=
  .of (owner := "map") (n := "__next__") (by rw [typeLookup_type, builtinLookup_eq_fast]; kernel_rfl) (by decide +kernel) (by decide +kernel) (by decide +kernel)
    (by first | exact .inl (by decide +kernel) | exact .inr (by decide +kernel)) (by rw [isSubtype_type]; kernel_rfl)
theorem slot_map_iter : Slot "map" "__iter__" "map.__iter__" :=
  .of (owner := "map") (n := "__iter__") (by rw [typeLookup_type, builtinLookup_eq_fast]; kernel_rfl) (by decide +kernel) (by decide +kernel) (by decide +kernel)
    (by first | exact .inl (by decide +kernel) | exact .inr (by decide +kernel)) (by rw [isSubtype_type]; kernel_rfl)
theorem slot_map_init : Slot "map" "__init__" "object.__init__" :=
  .of (owner := "object") (n := "__init__") (by rw [typeLookup_type, builtinLookup_eq_fast]; kernel_rfl) (by decide +kernel) (by decide +kernel) (by decide +kernel)
    (by first | exact .inl (by decide +kernel) | exact .inr (by decide +kernel)) (by rw [isSubtype_type]; kernel_rfl)
theorem entry_map_next : entryFor table "map.__next__" = some Builtin.«map.__next__» := entryFor_of_tree (by kernel_rfl)
theorem args_map_next (a : Value) : argsOk "map.__next__" ⟨[a], []⟩ := by unfold argsOk; kernel_rfl
theorem args_map_iter (a : Value) : argsOk "map.__iter__" ⟨[a], []⟩ := by unfold argsOk; kernel_rfl
theorem entry_map_iter : entryFor table "map.__iter__" = some Builtin.«dict_keyiterator.__iter__» :=
  entryFor_alias (id' := "dict_keyiterator.__iter__") (by kernel_rfl) rfl (by kernel_rfl) (by kernel_rfl)
theorem mro_map : mroOf (.type "map") = pure [.type "map", .type "object"] := by rw [mroOf_type]; kernel_rfl
theorem lookup_map_new : typeLookup (.type "map") "__new__" = pure (some (.builtin "map.__new__")) := by rw [typeLookup_type, builtinLookup_eq_fast]; kernel_rfl
theorem called_map : TypeCalled "map" "map.__new__" "object.__init__" :=
  ⟨by decide +kernel, by decide +kernel, ⟨_, _, mro_map⟩, madeBy_type mro_map lookup_map_new (by decide +kernel), by decide +kernel, by rw [isSubtype_type]; kernel_rfl, slot_map_init⟩
theorem typeCall_map_2 (a b : Value) : checkTypeCall "map" ⟨[a, b], []⟩ = pure () := by kernel_rfl
theorem newCall_map_2 (a b : Value) : checkBuiltinCall "map.__new__" ⟨[.type "map", a, b], []⟩ = pure () := by kernel_rfl
theorem entry_map_new : entryFor table "map.__new__" = some Builtin.«map.__new__» := entryFor_of_tree (by kernel_rfl)
theorem sub_map : isSubtype (.type "map") (.type "map") = pure true := by rw [isSubtype_type]; kernel_rfl

abbrev IsMap (h : Heap) (M TI : Addr) (f : Value) : Prop := h.get? M = some { cls := .type "map", dict := none, data := .fields #[.ref TI, f], slots := #[] }
abbrev IsOne (h : Heap) (T : Addr) (a : Value) : Prop := h.get? T = some { cls := .type "tuple", data := .seq #[a] }
abbrev mapH (h : Heap) (T : Addr) (f : Value) : Heap := ((h.push { cls := .type "tuple_iterator", data := .fields #[.ref T, .int 0 0] }).push { cls := .type "tuple", data := .seq #[.ref h.objs.size] }).push
  { cls := .type "map", data := .fields #[.ref (h.push { cls := .type "tuple_iterator", data := .fields #[.ref T, .int 0 0] }).objs.size, f] }

theorem meets_map_new (f : Value) (T : Addr) (xs : Array Value) :
    Meets (Builtin.«map.__new__» ⟨[.type "map", f, .ref T], []⟩) (fun _ R s => s.heap.IsTuple T xs ∧
      R (.ok (.ret (.ref ((s.heap.push { cls := .type "tuple_iterator", data := .fields #[.ref T, .int 0 0] }).push { cls := .type "tuple", data := .seq #[.ref s.heap.objs.size] }).objs.size))) { s with heap := mapH s.heap T f }) :=
  .of_wp fun prog w A R s h => by
    obtain ⟨hp, g, d, tk, os⟩ := s; obtain ⟨hl1, h⟩ := h
    have hsub := sub_map
    have hL1 : Heap.IsTuple (Shared.heap ⟨hp, g, d, tk, os⟩) T xs := hl1
    unfold Builtin.«map.__new__» PySem.Builtin.SmallTypes.iterAll
    generalize hPI : pyIter = PI
    wp_walk
    subst hPI
    refine wpAny_pyIter_tuple hL1 ?_
    wp_walk
    exact ⟨_, rfl, h⟩
end
section
section
variable {prog : Program} {w : World} {A : Around} {E : Value → Shared → Prop} {s : Shared}
theorem nextOf_tuple_item {it t : Addr} {i : Nat} {items : Array Value} {x : Value} {Q : Value → Shared → Prop} (hit : s.heap.IsTupleIter it t i)
    (ht : s.heap.IsTuple t items) (hx : items[i]? = some x)
    (hQ : ∀ h', h'.IsTupleIter it t (i + 1) → Heap.SameBut it s.heap h' → Q x { s with heap := h' }) :
    wpAny (model prog w) A (Builtin.SmallTypes.nextOf (.ref it)) Q E s := by
  obtain ⟨o, ho, hc, hd⟩ := id hit
  obtain ⟨ol, hol, _, nl, hdl⟩ := ht
  unfold Builtin.SmallTypes.nextOf
  refine wpAny_bind (wpAny_callSpecial?_slot (name := Str.ofString "__next__") hit.typeIs F.slot_tuple_iterator_next
    (wpAny_call_entry F.slot_tuple_iterator_next hit.typeIs F.entry_tuple_iterator_next ?_ (F.args_tuple_iterator_next_1 _)))
  show wpAny _ _ (field (.ref it) 0 >>= _) _ _ s
  refine wpAny_bind (wpAny_field ho hd (x := .ref t) rfl ?_)
  show wpAny _ _ (if (Value.ref t == Value.none) = true then _ else _) _ _ s
  rw [if_neg (show ¬ ((Value.ref t == Value.none) = true) from Bool.false_ne_true)]
  show wpAny _ _ (field (.ref it) 1 >>= _) _ _ s
  refine wpAny_bind (wpAny_field ho hd (x := .int i 0) rfl ?_)
  show wpAny _ _ (seqItems? (.ref t) >>= _) _ _ s
  refine wpAny_bind (wpAny_seqItems hol hdl ?_)
  simp only [Int.toNat_natCast, hx]
  refine wpAny_bind (wpAny_setField ho hd (by simp) (wpAny_pure ⟨x, rfl, wpAny_pure (hQ _ ?_ (Heap.SameBut.update ..))⟩))
  exact ⟨_, Heap.get?_update_self _ ho (Obj.isFreed_of_fields (Obj.data_mapFields hd _)), (Obj.cls_mapFields ..).trans hc, by
    rw [Obj.data_mapFields hd]; simp [rawInt]⟩
theorem nextOf_tuple_end {it t : Addr} {i : Nat} {items : Array Value} {Q : Value → Shared → Prop} (hh : A.handled = none)
    (hit : s.heap.IsTupleIter it t i) (ht : s.heap.IsTuple t items) (hx : items[i]? = none)
    (hE : ∀ h' e, Heap.ExtBut it s.heap h' → (∃ o, h'.get? e = some o ∧ o.cls = .type "StopIteration") → E (.ref e) { s with heap := h' }) :
    wpAny (model prog w) A (Builtin.SmallTypes.nextOf (.ref it)) Q E s := by
  obtain ⟨o, ho, hc, hd⟩ := id hit
  obtain ⟨ol, hol, _, nl, hdl⟩ := ht
  unfold Builtin.SmallTypes.nextOf
  refine wpAny_bind (wpAny_callSpecial?_slot (name := Str.ofString "__next__") hit.typeIs F.slot_tuple_iterator_next
    (wpAny_call_entry F.slot_tuple_iterator_next hit.typeIs F.entry_tuple_iterator_next ?_ (F.args_tuple_iterator_next_1 _)))
  show wpAny _ _ (field (.ref it) 0 >>= _) _ _ s
  refine wpAny_bind (wpAny_field ho hd (x := .ref t) rfl ?_)
  show wpAny _ _ (if (Value.ref t == Value.none) = true then _ else _) _ _ s
  rw [if_neg (show ¬ ((Value.ref t == Value.none) = true) from Bool.false_ne_true)]
  show wpAny _ _ (field (.ref it) 1 >>= _) _ _ s
  refine wpAny_bind (wpAny_field ho hd (x := .int i 0) rfl ?_)
  show wpAny _ _ (seqItems? (.ref t) >>= _) _ _ s
  refine wpAny_bind (wpAny_seqItems hol hdl ?_)
  simp only [Int.toNat_natCast, hx]
  refine wpAny_bind (wpAny_rule (wpAny_bind (wpAny_setField ho hd (by simp) ?_)))
  show wpAny _ _ (newExc (.type "StopIteration") [] >>= _) _ _ _
  refine wpAny_bind ?_
  simp only [newExc, newTuple]
  refine wpAny_bind (wpAny_newObj_type ?_ (by size_fits))
  refine wpAny_bind (m := firstArgMember _ _) (wpAny_of_eq (a := Value.none) (by first | rfl | (simp only [firstArgMember]; rfl)) ?_)
  refine wpAny_newObj_type ?_ (by size_fits)
  simp only [raiseNew]
  refine wpAny_bind (wpAny_handled ?_)
  first | rw [show A.in1.handled = none from hh] | rw [hh]
  refine wpAny_bind (wpAny_pure (wpAny_throw ?_))
  exact hE _ _ (((Heap.SameBut.update ..).extBut.push _).push _) ⟨_, Heap.get?_push_size _ rfl, rfl⟩

/-- map(len, a tuple of words) as an iterator -/
theorem Walks.mapLen (hh : A.handled = none) {M TI I T : Addr} {ls : List (List Nat)} {items : Array Value} (d1 : M ≠ I) (d2 : TI ≠ I) (d3 : T ≠ I)
    (hi : ∀ (i : Nat) (v : Value), items[i]? = some v → ∃ t : Tok, v = Value.str (sw (ls.getD i [])) t) (hsz : ∀ l ∈ ls, l.length ≤ 1000) (hl : items.size = ls.length) :
    Walks prog w A M [M, TI, I, T] [I] items.size (fun i v => ∃ t, v = .int ((ls.getD i []).length : Int) t)
      (fun i h => IsMap h M TI (.builtin "len") ∧ IsOne h TI (.ref I) ∧ h.IsTupleIter I T i ∧ h.IsTuple T items) where
  sub := fun b hb => by rw [List.mem_singleton.mp hb]; simp
  frame := fun i h h' st k => ⟨k M (by simp) _ st.1, k TI (by simp) _ st.2.1, by obtain ⟨o, e, r⟩ := st.2.2.1; exact ⟨o, k I (by simp) _ e, r⟩, by obtain ⟨o, e, r⟩ := st.2.2.2; exact ⟨o, k T (by simp) _ e, r⟩⟩
  item := fun i s Q E hlt st hQ => by
    obtain ⟨hM, hTI, hI, hT⟩ := st
    have hTy : s.TypeIs (.ref M) "map" := ⟨_, hM, rfl⟩
    unfold pyNext
    refine wpAny_bind (wpAny_attempt (wpAny_callSpecial?_slot (name := Str.ofString "__next__") hTy slot_map_next
      (wpAny_call_entry slot_map_next hTy entry_map_next ?_ (args_map_next _))))
    unfold Builtin.«map.__next__»
    show wpAny _ _ (field (.ref M) 0 >>= _) _ _ s
    refine wpAny_bind (wpAny_field hM rfl (x := .ref TI) rfl ?_)
    refine wpAny_bind (wpAny_seqItems hTI rfl ?_)
    have hx := Array.getElem?_eq_getElem hlt
    obtain ⟨t, e⟩ := hi i _ hx
    have key : ∀ {Q' : Array Value → Shared → Prop} {E' : Value → Shared → Prop}, (∀ h', h'.IsTupleIter I T (i + 1) → Heap.SameBut I s.heap h' → Q' #[items[i]] { s with heap := h' }) →
        wpAny (model prog w) A.in1 (forIn (#[.ref I] : Array Value) (#[] : Array Value) fun it r => do
          let x ← holding r.toList (Builtin.SmallTypes.nextOf it)
          pure (ForInStep.yield (r.push x))) Q' E' s := by
      intro Q' E' hq
      simp only [← Array.forIn_toList, List.forIn_cons, List.forIn_nil]
      refine wpAny_bind (wpAny_bind (wpAny_holding (nextOf_tuple_item hI hT hx fun h' hI' hs => wpAny_pure ?_)))
      exact wpAny_pure (hq h' hI' hs)
    refine wpAny_bind (key fun h' hI' hs => ?_)
    have hM' : IsMap h' M TI (.builtin "len") := (hs.2 M d1).trans hM
    refine wpAny_bind (wpAny_field (s := { s with heap := h' }) hM' rfl (x := .builtin "len") rfl ?_)
    have hle : (ls.getD i []).length ≤ 1000 := by
      have hi' : i < ls.length := by omega
      rw [List.getD_eq_getElem?_getD, List.getElem?_eq_getElem hi']
      exact hsz _ (List.getElem_mem hi')
    have el : (#[items[i]] : Array Value).toList = [.str (sw (ls.getD i [])) t] := by rw [e]
    rw [el]
    refine wpAny_bind (wpAny_holding (lenSw hle ?_))
    refine wpAny_bind (wpAny_letGo (wpAny_pure ⟨_, rfl, wpAny_pure (hQ _ h' _ ⟨_, rfl⟩ ⟨hM', (hs.2 TI d2).trans hTI, hI', ?_⟩ fun b o hb eb => (hs.2 b (by simpa using hb)).trans eb)⟩))
    obtain ⟨o, eo, r⟩ := hT
    exact ⟨o, (hs.2 T d3).trans eo, r⟩
  done := fun s Q E st hQ => by
    obtain ⟨hM, hTI, hI, hT⟩ := st
    have hTy : s.TypeIs (.ref M) "map" := ⟨_, hM, rfl⟩
    unfold pyNext
    refine wpAny_bind (wpAny_attempt (wpAny_callSpecial?_slot (name := Str.ofString "__next__") hTy slot_map_next
      (wpAny_call_entry slot_map_next hTy entry_map_next ?_ (args_map_next _))))
    unfold Builtin.«map.__next__»
    show wpAny _ _ (field (.ref M) 0 >>= _) _ _ s
    refine wpAny_bind (wpAny_field hM rfl (x := .ref TI) rfl ?_)
    refine wpAny_bind (wpAny_seqItems hTI rfl ?_)
    have key : ∀ {Q' : Array Value → Shared → Prop} {E' : Value → Shared → Prop}, (∀ h' e, Heap.ExtBut I s.heap h' → (∃ o, h'.get? e = some o ∧ o.cls = .type "StopIteration") → E' (.ref e) { s with heap := h' }) →
        wpAny (model prog w) A.in1 (forIn (#[.ref I] : Array Value) (#[] : Array Value) fun it r => do
          let x ← holding r.toList (Builtin.SmallTypes.nextOf it)
          pure (ForInStep.yield (r.push x))) Q' E' s := by
      intro Q' E' hq
      simp only [← Array.forIn_toList, List.forIn_cons, List.forIn_nil]
      exact wpAny_bind (wpAny_bind (wpAny_holding (nextOf_tuple_end hh hI hT (by simp) hq)))
    refine wpAny_bind (key fun h' e hs he => ?_)
    obtain ⟨o, ho, hc⟩ := he
    refine wpAny_bind (wpAny_isInstance (T := "StopIteration") (b := true) ⟨o, ho, hc⟩ isSubtype_stop ?_)
    exact wpAny_pure (hQ h' _ fun b o hb eb => hs b o (by simpa using hb) eb)
  self := fun i s Q E st hQ => by
    obtain ⟨hM, _⟩ := st
    have hT : s.TypeIs (.ref M) "map" := ⟨_, hM, rfl⟩
    refine wpAny_pyIter_slot hT slot_map_iter (wpAny_call_entry slot_map_iter hT entry_map_iter ?_ (args_map_iter _))
    show wpAny _ _ (ret (.ref M)) _ _ s
    exact wpAny_pure ⟨_, rfl, "map", _, hT, slot_map_next.lookup, hQ⟩

abbrev isTI (T : Addr) : Obj → Prop := fun o => o.cls = .type "tuple_iterator" ∧ o.data = .fields #[.ref T, .int 0 0]
abbrev mapObj (TI : Addr) : Obj := { cls := .type "map", data := .fields #[.ref TI, .builtin "len"] }
abbrev oneObj (I : Addr) : Obj := { cls := .type "tuple", data := .seq #[.ref I] }
theorem mapS {T L : Addr} {vs : List Value} {g : Heap} {m : Str → Option Value} {news : Led} {Q : Value → Shared → Prop} (hT : At s.heap (T, isT vs)) (S : St g L s.heap m news)
    (h : ∀ M TI I h', St g L h' m ((M, isO (mapObj TI)) :: (TI, isO (oneObj I)) :: (I, isTI T) :: news) → Q (.ref M) { s with heap := h' }) :
    wpAny (model prog w) A (call (.type "map") [.builtin "len", .ref T]) Q E s := by
  refine callType_new called_map (by decide) (typeCall_map_2 _ _) (newCall_map_2 _ _) (fun obj => F.args_object_init_3 obj _ _) entry_map_new
    (meets_map_new (.builtin "len") T vs.toArray) ⟨isTup_of hT, ?_⟩
  have S₁ := S.push (P := isTI T) { cls := .type "tuple_iterator", data := .fields #[.ref T, .int 0 0] } ⟨rfl, rfl⟩
  have S₂ := S₁.push (P := isO (oneObj s.heap.objs.size)) (oneObj s.heap.objs.size) rfl
  have S₃ := S₂.push (P := isO (mapObj (s.heap.push { cls := .type "tuple_iterator", data := .fields #[.ref T, .int 0 0] }).objs.size)) (mapObj (s.heap.push { cls := .type "tuple_iterator", data := .fields #[.ref T, .int 0 0] }).objs.size) rfl
  exact ⟨⟨_, Heap.get?_push_size _ rfl, rfl⟩, h _ _ _ _ S₃⟩
/-- max(map(len, (a, b))), the map at hand -/
theorem maxMapS {T L M TI I : Addr} {a b : List Nat} {t u : Tok} {g : Heap} {m : Str → Option Value} {news : Led} {Q : Value → Shared → Prop} (hh : A.handled = none) (hT : At s.heap (T, isT [.str (sw a) t, .str (sw b) u]))
    (S : St g L s.heap m ((M, isO (mapObj TI)) :: (TI, isO (oneObj I)) :: (I, isTI T) :: news)) (ha : a.length ≤ 1000) (hb : b.length ≤ 1000)
    (h : ∀ h' tk t', St g L h' m news → Q (.int (max (a.length : Int) (b.length : Int)) t') { s with heap := h', toks := tk }) :
    wpAny (model prog w) A (call (.builtin "max") [.ref M]) Q E s := by
  obtain ⟨_, hM, rfl⟩ := S.get (a := M) (P := isO (mapObj TI)) (.head _)
  obtain ⟨_, hTI, rfl⟩ := S.get (a := TI) (P := isO (oneObj I)) (.tail _ (.head _))
  obtain ⟨oI, hI, hIc, hId⟩ := S.get (a := I) (P := isTI T) (.tail _ (.tail _ (.head _)))
  have hll : s.heap.IsTuple T #[.str (sw a) t, .str (sw b) u] := isTup_of hT
  have d1 : M ≠ I := fun e => by rw [← e, hM] at hI; cases hI; injection (hIc : Value.type "map" = Value.type "tuple_iterator") with q; exact absurd q (by decide)
  have d2 : TI ≠ I := fun e => by rw [← e, hTI] at hI; cases hI; injection (hIc : Value.type "tuple" = Value.type "tuple_iterator") with q; exact absurd q (by decide)
  have d3 : T ≠ I := fun e => by obtain ⟨o, ho, hc, _⟩ := hll; rw [e, hI] at ho; cases ho; rw [hIc] at hc; injection hc with q; exact absurd q (by decide)
  have W := Walks.mapLen (prog := prog) (w := w) (A := A.in1) hh (M := M) (TI := TI) (I := I) (T := T) (ls := [a, b]) (items := #[.str (sw a) t, .str (sw b) u]) d1 d2 d3
    (fun i v e => by
      match i, e with
      | 0, e => exact ⟨t, by simpa using e.symm⟩
      | 1, e => exact ⟨u, by simpa using e.symm⟩
      | i + 2, e => simp at e) (by simp [ha, hb]) rfl
  refine call_max_walk (W.self 0 _ _ _ ⟨hM, hTI, ⟨oI, hI, hIc, hId⟩, hll⟩ ⟨_, _, _, _, _, _, _, rfl, W, ⟨hM, hTI, ⟨oI, hI, hIc, hId⟩, hll⟩, ?_, by simp, CmpOf.ints_gt (fun i => (([a, b] : List (List Nat)).getD i []).length) (fun _ _ h => h), fun v h' tk hP hk => ?_⟩)
  · intro c hc
    simp only [List.mem_cons, List.not_mem_nil, or_false] at hc
    rcases hc with rfl | rfl | rfl | rfl
    · exact Heap.lt_size hM
    · exact Heap.lt_size hTI
    · exact Heap.lt_size hI
    · obtain ⟨o, ho, _⟩ := hll; exact Heap.lt_size ho
  · obtain ⟨t', rfl⟩ := hP
    have S₁ : St g L h' m ([] ++ news) := (show St g L s.heap m ([] ++ news) from S.drop1.drop1.drop1).step (wr := [I]) (fp := [I])
      (fun c hc => by rw [List.mem_singleton.mp hc]; exact (S.o.own (I, isTI T) (.tail _ (.tail _ (.head _)))).2) (fun _ hc => hc)
      (fun q => S.neL (P := isTI T) (.tail _ (.tail _ (.head _))) (List.mem_singleton.mp q).symm) (fun p hp => by simp at hp)
      (fun p hp q => headNe S.drop1.drop1 p hp (List.mem_singleton.mp q)) hk
    have e : ((([a, b] : List (List Nat)).getD (argBest (fun i j => decide (((([a, b] : List (List Nat)).getD i []).length : Int) > ((([a, b] : List (List Nat)).getD j []).length : Int))) 1) []).length : Int) = max (a.length : Int) (b.length : Int) := by
      obtain ⟨h1, h2⟩ := argBest_gt (fun i => ((([a, b] : List (List Nat)).getD i []).length : Int)) 1
      have h5 := h2 0 (by omega)
      have h6 := h2 1 (by omega)
      generalize argBest (fun i j => decide (((([a, b] : List (List Nat)).getD i []).length : Int) > ((([a, b] : List (List Nat)).getD j []).length : Int))) 1 = z at *
      have : z = 0 ∨ z = 1 := by omega
      rcases this with rfl | rfl <;> simp at h5 h6 ⊢ <;> omega
    have := h h' tk t' S₁
    rw [← e] at this
    exact this
end
end
section
section
variable {prog : Program} {w : World} {A : Around} {E : Value → Shared → Prop} {s : Shared} {g : Heap} {L T : Addr} {m : Str → Option Value} {news : Led} {vs : List Value}
theorem starT {Q : List Value → Shared → Prop} (S : St g L s.heap m news) (hT : At s.heap (T, isT vs)) (hsz : vs.length ≤ 1000) (h : ∀ h', St g L h' m news → Q vs { s with heap := h' }) : StarOf (model prog w) A E (.ref T) Q s := by
  obtain ⟨o, ho, hc, n, hd⟩ := hT
  have hT' : s.TypeIs (.ref T) "tuple" := ⟨o, ho, hc⟩
  have z : wpAny (model prog w) A (collect (.ref T)) Q E s :=
    wpAny_collect_seq T (.inr rfl) ho hc hd (fun h' hk => h h' (S.keeps hk)) (by rw [List.size_toArray, sizeLine_eq]; omega)
  unfold StarOf notIterableAtAll
  exact wpAny_bind (wpAny_specialOf hT' PySem.F.slot_tuple_iter.lookup (wpAny_pure ⟨rfl, z⟩))
theorem starL {Q : List Value → Shared → Prop} (S : St g L s.heap m news) (hT : At s.heap (T, isL vs)) (hsz : vs.length ≤ 1000) (h : ∀ h', St g L h' m news → Q vs { s with heap := h' }) : StarOf (model prog w) A E (.ref T) Q s := by
  obtain ⟨o, ho, n, rfl⟩ := hT
  have hT' : s.TypeIs (.ref T) "list" := ⟨_, ho, rfl⟩
  have z : wpAny (model prog w) A (collect (.ref T)) Q E s :=
    wpAny_collect_seq T (.inl rfl) ho rfl rfl (fun h' hk => h h' (S.keeps hk)) (by rw [List.size_toArray, sizeLine_eq]; omega)
  unfold StarOf notIterableAtAll
  exact wpAny_bind (wpAny_specialOf hT' PySem.F.slot_list_iter.lookup (wpAny_pure ⟨rfl, z⟩))
theorem kcoS_call {x C dx : Addr} {first : List Value} {pos : Pos} {Q : Value → Shared → Prop} {args : List (Bool × Sem Value)} (hst : args.any (·.1) = true)
    (h : wpAny (model prog w) A (evalArgs (.ref x) true args []) (fun a s₁ => At s₁.heap (x, isO (instObj C dx)) ∧ wpAny (model prog w) A (call (.ref x) (first ++ a.pos) a.kw) Q E s₁) E s) : wpAny (model prog w) A (callWith pos (.ref x) first args []) Q E s := by
  unfold callWith
  refine wpAny_bind (wpAny_holding (wpAny_mono h (fun a s₁ h₁ => wpAny_bind (wpAny_standAt ?_)) fun _ _ x => x))
  obtain ⟨⟨o, ho, e⟩, h₁⟩ := h₁
  have L : Looks (model prog w) s₁.heap (keeperOf (.ref x)) .caller := by
    refine (Looks.ld (part := none) ho).andThen ?_
    rw [e]; exact .now
  simp only [hst, Bool.true_or]
  refine wpAny_bind (L.here ?_)
  have tail : ∀ {t : Sem Value}, wpAny (model prog w) A t Q E s₁ → wpAny (model prog w) A (t >>= fun r => holding [r] point >>= fun _ => pure r) Q E s₁ :=
    fun ht => wpAny_bind (wpAny_mono ht (fun r s₂ hr => wpAny_bind (wpAny_holding (wpAny_point (wpAny_pure hr)))) fun _ _ x => x)
  first
    | exact tail (wpAny_operateT h₁)
    | exact tail (wpAny_operating h₁)
    | exact tail h₁
theorem starCall {o : Expr} {name : Str} {apos pos p : Pos} {e : Expr} {env : Env} {Q : Value → Shared → Prop}
    (h : wpAny (model prog w) A (eval o env) (fun ov s₁ => wpAny (model prog w) A (getAttr ov name true) (fun f s₂ => wpAny (model prog w) A (callWith pos f [] (backTo pos (starEach [.Starred e p] env)) []) Q E s₂) E s₁) E s)
    (he : eval (.Call (.Attribute o name apos) [.Starred e p] [] pos) env = (do
      let ov ← eval o env
      standAt apos.atName
      let x ← holding [ov] (do pure (← getAttr ov name true, ([] : List Value)))
      callWith pos x.1 x.2 (backTo pos (starEach [.Starred e p] env)) []) := by rfl) :
    wpAny (model prog w) A (eval (.Call (.Attribute o name apos) [.Starred e p] [] pos) env) Q E s := by
  rw [he]
  refine wpAny_bind (wpAny_mono h (fun ov s₁ h₁ => wpAny_bind (wpAny_standAt (wpAny_bind (wpAny_holding (wpAny_bind (wpAny_mono h₁ (fun fx s₂ h₂ => wpAny_pure ?_) fun _ _ x => x)))))) fun _ _ x => x)
  exact h₂
/-- an object is called with stars -/
theorem kcoS {x C dx : Addr} {first : List Value} {env : Env} {e : Expr} {p pos : Pos} {Q : Value → Shared → Prop} (h0 : At s.heap (x, isO (instObj C dx))) (S : St g L s.heap m news) (_G : Gd w g)
    (h : wpAny (model prog w) A (eval e env) (fun v s₁ => StarOf (model prog w) A E v (fun vs s₂ => At s₂.heap (x, isO (instObj C dx)) ∧ wpAny (model prog w) A (call (.ref x) (first ++ vs)) Q E s₂) s₁) E s)
    (he : starEach [.Starred e p] env = [(true, eval e env)] := by rfl) :
    wpAny (model prog w) A (callWith pos (.ref x) first (backTo pos (starEach [.Starred e p] env)) []) Q E s := by
  rw [he]
  refine kcoS_call (C := C) (dx := dx) rfl (ks_lone h)
theorem truthyT {v : Value} {Q : Bool → Shared → Prop} (hT : At s.heap (T, isT (v :: vs))) (hsz : vs.length ≤ 1000) (h : ∀ tk, Q true { s with toks := tk }) : wpAny (model prog w) A (truthy (.ref T)) Q E s := by
  refine truthy_tuple (isTup_of hT) (by rw [List.size_toArray, List.length_cons]; omega) ?_
  exact h _
theorem lenT {Q : Value → Shared → Prop} (hT : At s.heap (T, isT vs)) {n : Nat} (hn : vs.length = n) (hsz : n ≤ 1000) (h : ∀ t tk, Q (.int (n : Int) t) { s with toks := tk }) : wpAny (model prog w) A (call (.builtin "len") [.ref T]) Q E s :=
  len_tuple (isTup_of hT) (by rw [List.size_toArray]; omega) (by have := h (s.toks + 1) (s.toks + 1 + 1); subst hn; simpa using this)
end
end
section

def fmS (ks : List Str) (i : Nat) : List Str := (ks.take i).foldl step_dedup []
theorem fmS_succ {ks : List Str} {i : Nat} (h : i < ks.length) : fmS ks (i + 1) = step_dedup (fmS ks i) ks[i] := by
  unfold fmS; rw [List.take_succ_eq_append_getElem h, List.foldl_append]; rfl
theorem fmS_le (ks : List Str) : ∀ i, (fmS ks i).length ≤ ks.length := fun i => by
  have := foldl_step_dedup_nil_length_le (ks.take i)
  unfold fmS
  refine Nat.le_trans this ?_
  rw [List.length_take]; exact Nat.min_le_right _ _
theorem stepS_any (σ : List Str) (v k : Str) : (step_dedup σ v).any (· == k) = (σ.any (· == k) || decide (k = v)) := by
  unfold step_dedup
  by_cases h : σ.any (· == v) = true
  · rw [if_pos h]
    by_cases e : k = v
    · subst e; rw [h]; simp
    · simp [e]
  · rw [if_neg h, List.any_append]
    by_cases e : k = v
    · subst e; simp
    · have hb : (v == k) = false := by simpa [beq_iff_eq] using (fun h' : v = k => e h'.symm)
      simp [hb, e]
theorem stepS_length (σ : List Str) (v : Str) : (step_dedup σ v).length = if σ.any (· == v) then σ.length else σ.length + 1 := by
  unfold step_dedup; split <;> simp

section
variable {prog : Program} {w : World} {A : Around} {R : Result → Shared → Prop} {I : Addr} {fp wr : List Addr} {G : Array GenState → Array GenState → Prop} {P : Nat → Value → Prop} {St : Nat → Shared → Prop}
theorem set_loopS {ks : List Str} (W : WalksS prog w A.in1 I fp wr G ks.length P St) (S : Addr) (hSf : S ∉ fp)
    (hval : ∀ i v (h : i < ks.length), P i v → ∃ t, v = .str ks[i] t) (hb : ks.length + 1 < scanBound) :
    ∀ (k i : Nat) (s : Shared), ks.length - i = k → i ≤ ks.length → St i s →
      s.heap.SetOf (strKind prog w) S (fun k' => (fmS ks i).any (· == k')) (fmS ks i).length →
      (∀ s', Moved (S :: wr) G s s' → s'.heap.SetOf (strKind prog w) S (fun k' => (fmS ks ks.length).any (· == k')) (fmS ks ks.length).length → R (.ok (.ret .none)) s') →
      codeAny (model prog w) A (.builtin "set.update.loop" ⟨[.ref S, .ref I], []⟩) R s := by
  have hSw : S ∉ wr := fun h => hSf (W.sub _ h)
  have hsub : ∀ b ∈ wr, b ∈ S :: wr := fun b hb => List.mem_cons_of_mem _ hb
  intro k
  induction k with
  | zero =>
    intro i s hk hi hst hS hR
    have hin : i = ks.length := by omega
    subst hin
    refine codeAny_builtin F.entry_set_update_loop ?_
    rw [Around.under_plainId F.plain_set_update_loop _]
    show wpAny _ A.in1 (pyNext (.ref I) >>= _) _ _ s
    refine wpAny_bind (W.done s _ _ hst fun s' hm => ?_)
    show wpAny _ A.in1 (ret Value.none) _ _ s'
    exact wpAny_pure (hR s' (hm.mono hsub) (by
      obtain ⟨o, es, ep, t, ho, rest⟩ := hS
      exact ⟨o, es, ep, t, hm.heap S _ hSw ho, rest⟩))
  | succ k ih =>
    intro i s hk hi hst hS hR
    have hlt : i < ks.length := by omega
    refine codeAny_builtin F.entry_set_update_loop ?_
    rw [Around.under_plainId F.plain_set_update_loop _]
    show wpAny _ A.in1 (pyNext (.ref I) >>= _) _ _ s
    refine wpAny_bind (W.item i s _ _ hlt hst fun v s' hP hst' hm => ?_)
    obtain ⟨t, rfl⟩ := hval i v hlt hP
    have hS' : s'.heap.SetOf (strKind prog w) S (fun k' => (fmS ks i).any (· == k')) (fmS ks i).length := by
      obtain ⟨o, es, ep, tb, ho, rest⟩ := hS
      exact ⟨o, es, ep, tb, hm.heap S _ hSw ho, rest⟩
    show wpAny _ A.in1 (holding [Value.str ks[i] t] (setAdd S (.str ks[i] t)) >>= _) _ _ s'
    refine wpAny_bind (wpAny_holding ?_)
    unfold setAdd
    refine wpAny_holding ?_
    refine wpAny_bind ((strKind prog w).pyHash (k := ks[i]) (strKind_is _ _ _ _) ?_)
    have hroom : (fmS ks i).length + 1 < scanBound := by have := fmS_le ks i; omega
    refine wpAny_setAddHashed_of (knd := strKind prog w) (s := { s' with toks := s'.toks + 1 }) (strKind_is _ _ _ _) rfl hS' hroom fun h' hsb hS2 => ?_
    have hSi : h'.SetOf (strKind prog w) S (fun k' => (fmS ks (i + 1)).any (· == k')) (fmS ks (i + 1)).length :=
      SetOf_congr hS2 (fun k' => by rw [fmS_succ hlt, stepS_any]) (by rw [fmS_succ hlt, stepS_length])
    refine wpAny_pure ⟨plainId_quiet F.plain_set_update_loop _, ih (i + 1) _ (by omega) hlt (W.frame _ s' _ _ hst' (Nat.le_succ _) fun b hb o e => ?_) hSi fun s'' hm'' hS'' => ?_⟩
    · rw [hsb.2 b (fun h : b = S => hSf (by rw [← h]; exact hb))]; exact e
    · refine hR s'' (Moved.trans W.gtrans ((hm.mono hsub).then_heap (Nat.le_succ _) fun b o hb e => ?_) hm'') hS''
      rw [hsb.2 b (fun h : b = S => hb (by rw [h]; exact List.mem_cons_self))]; exact e
end
theorem sub_tuple_set : isSubtype (.type "tuple") (.type "set") = pure false := by rw [isSubtype_type]; kernel_rfl
theorem sub_tuple_frozenset : isSubtype (.type "tuple") (.type "frozenset") = pure false := by rw [isSubtype_type]; kernel_rfl
section
variable {prog : Program} {w : World} {A : Around} {E : Value → Shared → Prop} {s : Shared}
theorem set_init_tup {M : Model} {Qf : Fin → Shared → Prop} {S l nl : Nat} {odict : Option Addr} {items : Array Value} {oslots : Array (Option Value)} {led : Bool}
    (hS : s.heap.get? S = some { cls := .type "set", dict := none, data := .set #[] 0 (.fresh 0 0 led) }) (hol' : s.heap.get? l = some { cls := .type "tuple", dict := odict, data := .seq items nl, slots := oslots })
    (h : wpAny M A (pyIter (.ref l)) (fun a s' => wpAny M A (do let _ ← runValue (.builtin "set.update.loop" ⟨[.ref S, a], []⟩); pure ()) (fun _ s' => wpAny M A (ret Value.none) Qf E s') E s') E s) :
    wpAny M A (Builtin.«set.__init__» ⟨[.ref S, .ref l], []⟩) Qf E s := by
  obtain ⟨hp, g, d, tk, os⟩ := s
  have hsls := sub_tuple_set
  have hslf := sub_tuple_frozenset
  have hne : (Value.type "tuple" == Value.type "dict") = false := by decide
  unfold Builtin.«set.__init__» noKeywords Builtin.Frozenset.updateFrom
  generalize hPI : pyIter = PI at h ⊢
  revert h
  generalize hW : (wpAny M A (PI (.ref l)) _ E _) = W
  intro h
  wp_walk
  subst hW
  exact h
theorem callType_chk {T newId initId : String} {Bi : Builtin} {args : List Value} {Q Q₁ : Value → Shared → Prop} (ft : TypeCalled T newId initId)
    (hct : checkTypeCall T ⟨args, []⟩ = pure ()) (entryI : entryFor table initId = some Bi)
    (hnew : codeAny (model prog w) A.in1 (.call (.builtin newId) ⟨.type T :: args, []⟩) (wants Q₁ E) s)
    (hnext : ∀ obj s₁, Q₁ obj s₁ → codeAny (model prog w) A.in1 (.call (.builtin initId) ⟨obj :: args, []⟩) (wants (fun r s₂ => r = .none ∧ Q obj s₂) E) s₁ ∧ s₁.TypeIs obj T) :
    wpAny (model prog w) A (call (.type T) args) Q E s := by
  obtain ⟨c, tl, hmro⟩ := ft.mro
  have hmade := ft.made
  have hsub := ft.sub
  refine wpAny_call (codeAny_of_tree ?_)
  show wpAny _ _ (callAny (.type T) _) _ _ _
  refine wpAny_pure ⟨Code.quiet_builtin _ (by decide +kernel), codeAny_builtin F.entry_type_call ?_⟩
  rw [Around.under_plain (weight_type_call_type T args []) rfl]
  have h1 := ft.notType
  have h2 := ft.canCreate
  repeat (any_goals (first | assumption | wp_step))
  refine codeAny_mono hnew fun r s₁ hr => ?_
  cases r with
  | error e => exact hr
  | ok fl =>
    cases fl with
    | ret obj =>
      obtain ⟨hk, hT⟩ := hnext _ _ hr
      have hli := ft.init.lookup
      have hbi := ft.init.bind obj
      clear hnext hnew hr
      repeat (any_goals (first | assumption | wp_step))
      refine codeAny_mono hk fun r₂ s₂ hr₂ => ?_
      cases r₂ with
      | error e => exact hr₂
      | ok fl₂ =>
        cases fl₂ with
        | ret r =>
          obtain ⟨rfl, hq⟩ := hr₂
          repeat (any_goals (first | assumption | wp_step))
        | _ => exact hr₂.elim
    | _ => exact hr.elim
set_option maxHeartbeats 3200000 in
theorem call_set_tuple {l : Addr} {items : Array Value} {ks : List Str} {Q : Value → Shared → Prop}
    (hh : A.handled = none) (hl : s.heap.IsTuple l items) (hi : ∀ i v (h : i < ks.length), items[i]? = some v → ∃ t, v = .str ks[i] t) (hlen : items.size = ks.length) (hb : ks.length + 1 < scanBound)
    (h : ∀ (h' : Heap) (tk : Nat), h'.SetOf (strKind prog w) s.heap.objs.size (fun k' => (fmS ks ks.length).any (· == k')) (fmS ks ks.length).length →
      (∀ b o, b < s.heap.objs.size → s.heap.get? b = some o → h'.get? b = some o) → Q (.ref s.heap.objs.size) { s with heap := h', toks := tk }) :
    wpAny (model prog w) A (call (.type "set") [.ref l]) Q E s := by
  refine callType_chk (Q₁ := fun obj s₁ => ∃ led : Bool, obj = .ref s.heap.objs.size ∧ s₁ = { s with heap := s.heap.push { cls := .type "set", dict := none, data := .set #[] 0 (.fresh 0 0 led) } }) F.called_set (F.typeCall_set_1 (.ref l)) F.entry_set_init
    (code_set_new_1 (.ref l) fun led => ⟨led, rfl, rfl⟩) fun obj s₁ h₁ => ?_
  obtain ⟨led, rfl, rfl⟩ := h₁
  have hS : (s.heap.push { cls := .type "set", dict := none, data := .set #[] 0 (.fresh 0 0 led) }).get? s.heap.objs.size = some { cls := .type "set", dict := none, data := .set #[] 0 (.fresh 0 0 led) } := Heap.get?_push_size _ rfl
  have hT : Shared.TypeIs { s with heap := s.heap.push { cls := .type "set", dict := none, data := .set #[] 0 (.fresh 0 0 led) } } (.ref s.heap.objs.size) "set" := ⟨_, hS, rfl⟩
  refine ⟨codeAny_call_builtin F.called_set.init.plain F.entry_set_init (check_set_init_1 hT ?_), hT⟩
  obtain ⟨ol, hol, hcl, nl, hdl⟩ := hl
  obtain ⟨ocls, odict, odata, oslots⟩ := ol
  simp only at hcl hdl
  subst hcl; subst hdl
  have hol' : (s.heap.push { cls := .type "set", dict := none, data := .set #[] 0 (.fresh 0 0 led) }).get? l = some { cls := .type "tuple", dict := odict, data := .seq items nl, slots := oslots } := Heap.get?_push_of_some _ hol
  have hl1 : (s.heap.push { cls := .type "set", dict := none, data := .set #[] 0 (.fresh 0 0 led) }).IsTuple l items := ⟨_, hol', rfl, nl, rfl⟩
  refine set_init_tup hS hol' ?_
  refine wpAny_pyIter_tuple hl1 ?_
  refine wpAny_bind (wpAny_runValue ?_)
  have hlS : l < s.heap.objs.size := Heap.lt_size hol
  have hh3 : A.in1.in1.in1.handled = none := by simp [hh]
  have hneI : l ≠ (s.heap.push { cls := .type "set", dict := none, data := .set #[] 0 (.fresh 0 0 led) }).objs.size := by
    rw [Heap.size_push]; exact Nat.ne_of_lt (Nat.lt_succ_of_lt hlS)
  have hSf : s.heap.objs.size ∉ [(s.heap.push { cls := .type "set", dict := none, data := .set #[] 0 (.fresh 0 0 led) }).objs.size, l] := by
    rw [Heap.size_push]; simp only [List.mem_cons, List.mem_singleton, List.not_mem_nil, or_false, not_or]
    exact ⟨Nat.ne_of_lt (Nat.lt_succ_self _), Nat.ne_of_gt hlS⟩
  refine set_loopS (hlen ▸ (Walks.tuple hh3 _ l hneI items).toS) s.heap.objs.size
    hSf hi hb (ks.length - 0) 0 _ (by omega) (Nat.zero_le _)
    ⟨⟨_, Heap.get?_push_size _ rfl, rfl, rfl⟩, (hl1.push _)⟩ ?hS0 ?hR
  case hS0 =>
    have hget : ((s.heap.push { cls := .type "set", dict := none, data := .set #[] 0 (.fresh 0 0 led) }).push { cls := .type "tuple_iterator", data := .fields #[.ref l, .int 0 0] }).get? s.heap.objs.size
        = some { cls := .type "set", dict := none, data := .set #[] 0 (.fresh 0 0 led) } := Heap.get?_push_of_some _ hS
    exact PyProof.Rows.SetOf_congr ((PyProof.Rows.setObjOf_fresh (knd := strKind prog w) led).setOf hget (by unfold scanBound; omega)) (fun _ => rfl) rfl
  case hR =>
    intro s' hm hS'
    obtain ⟨h', g', d', tk', os'⟩ := s'
    have eg : g' = s.gens := hm.gens
    have ed : d' = s.drawn := hm.drawn
    have eo : os' = s.os := hm.os
    subst eg; subst ed; subst eo
    show wpAny _ _ _ _ _ _
    refine wpAny_pure ?_
    show wpAny _ _ (ret Value.none) _ _ _
    refine wpAny_pure ⟨rfl, h h' tk' hS' fun b o hb e => ?_⟩
    have hb1 : b ≠ s.heap.objs.size := Nat.ne_of_lt hb
    have hb2 : b ≠ (s.heap.push { cls := .type "set", dict := none, data := .set #[] 0 (.fresh 0 0 led) }).objs.size := by
      rw [Heap.size_push]; exact Nat.ne_of_lt (Nat.lt_succ_of_lt hb)
    exact hm.heap b o (by simp only [List.mem_cons, List.mem_singleton, List.not_mem_nil, or_false, not_or]; exact ⟨hb1, hb2⟩) (Heap.get?_push_of_some _ (Heap.get?_push_of_some _ e))
end
section
variable {prog : Program} {w : World} {A : Around} {s : Shared} {g : Heap} {L : Addr} {m : Str → Option Value} {news : Led} {E : Value → Shared → Prop} {Q : Value → Shared → Prop}
/-- len(set(a tuple of two strs)) -/
theorem setTup_S {T : Addr} {a b : Str} {t u : Tok} (hh : A.handled = none) (hm : At s.heap (T, isT [.str a t, .str b u])) (S : St g L s.heap m news)
    (h : ∀ h' tk, St g L h' m news → h'.SetOf (strKind prog w) s.heap.objs.size (fun k' => (fmS [a, b] 2).any (· == k')) (if a = b then 1 else 2) → Q (.ref s.heap.objs.size) { s with heap := h', toks := tk }) :
    wpAny (model prog w) A (call (.type "set") [.ref T]) Q E s := by
  refine call_set_tuple (ks := [a, b]) hh (isTup_of hm) (fun i v hi e => ?_) rfl (by show 3 < scanBound; decide) fun h' tk hS k => ?_
  · match i, hi, e with
    | 0, _, e => exact ⟨t, by simpa using e.symm⟩
    | 1, _, e => exact ⟨u, by simpa using e.symm⟩
  · refine h h' tk (S.keeps fun b o e => k b o (Heap.lt_size e) e) ?_
    have e : (fmS [a, b] [a, b].length).length = if a = b then 1 else 2 := by
      show (List.foldl step_dedup [] [a, b]).length = _
      simp only [List.foldl, step_dedup, List.any_nil, Bool.false_eq_true, if_false, List.nil_append, List.any_cons, Bool.or_false]
      by_cases q : a = b
      · subst q; simp
      · have hb : (a == b) = false := by simpa [beq_iff_eq] using q
        simp [q, hb]
    rw [e] at hS
    exact hS
theorem lenSet_S {z : Addr} {Sf : Str → Bool} {n : Nat} (hS : s.heap.SetOf (strKind prog w) z Sf n) (hfit : n < 1000) (h : Q (.int n (s.toks + 1)) { s with toks := s.toks + 1 + 1 }) :
    wpAny (model prog w) A (call (.builtin "len") [.ref z]) Q E s := by
  obtain ⟨o, es, ep, t, ho, hex, hd, _, _, _, hf, rfl⟩ := hS
  exact call_len_set ho hex hd hf (by omega) h
end
end
section
theorem fold_one (v : Value) : ∀ (k : Nat) (acc : Array Value), List.foldl (fun x1 x2 => x1 ++ x2) acc (List.replicate k #[v]) = acc ++ (List.replicate k v).toArray
  | 0, acc => by simp
  | k + 1, acc => by
    rw [List.replicate_succ, List.foldl_cons, fold_one v k, List.replicate_succ]
    apply Array.toList_inj.mp
    simp
section
variable {prog : Program} {w : World} {A : Around} {s : Shared} {g : Heap} {L l b : Addr} {m : Str → Option Value} {news : Led} {E : Value → Shared → Prop} {Q : Value → Shared → Prop} {vs ws : List Value}
theorem mulL {v : Value} {x : Int} {u : Tok} (S : St g L s.heap m news) (hl : At s.heap (l, isL [v])) (h0 : 0 ≤ x) (hx : x ≤ 1000) (h : ∀ r h', St g L h' m ((r, isL (List.replicate x.toNat v)) :: news) → Q (.ref r) { s with heap := h' }) :
    wpAny (model prog w) A (binaryOp .Mult (.ref l) (.int x u)) Q E s := by
  obtain ⟨n, hl⟩ := plain_of hl
  refine wpAny_binaryOp_repeat_ref (T := "list") (U := "int") (by decide) ⟨_, hl, rfl⟩ (fun s' => typeIs_int s' x u) noFill_list_mul PySem.F.fills_int_mul PySem.F.slot_int_rmul repeat_list PySem.F.slot_int_index.lookup
    (call_meets PySem.F.slot_int_rmul (typeIs_int s x u) PySem.F.entry_int_rmul (PySem.F.args_int_rmul_2 _ _) (int___rmul___int_list x u l [v].toArray n)
      ⟨hl, rfl, ⟨_, hl, rfl⟩, call_meets PySem.F.slot_list_mul ⟨_, hl, rfl⟩ PySem.F.entry_list_mul (PySem.F.args_list_mul_2 _ _)
        (AutoListH.list___mul___list_int_3 l [v].toArray n x u (by simp [Builtin.List.listFitsIndex]; omega) (by show ¬ 1 * x.toNat > (2 ^ 63 - 1) / 8; omega) (by
          have hz : #[v].size * x.toNat ≤ 1000 := by show 1 * x.toNat ≤ 1000; omega
          simp only [Builtin.List.listTooLong, sizeLine]
          first
            | exact decide_eq_false (by show ¬ (_ < #[v].size * x.toNat); omega)
            | (simp; omega)))
        ⟨hl, h _ _ (S.push _ ⟨0, ?_⟩)⟩⟩)
  have e : (if ([v].toArray).isEmpty = true then 0 else x.toNat) = x.toNat := by simp
  rw [e]
  have := fold_one v x.toNat #[]
  simp only [List.toArray] at this ⊢
  simpa using this
theorem addL {vs ws : List Value} (S : St g L s.heap m news) (hl : At s.heap (l, isL vs)) (hb : At s.heap (b, isL ws)) (hz : vs.length + ws.length ≤ 1000) (h : ∀ r h', St g L h' m ((r, isL (vs ++ ws)) :: news) → Q (.ref r) { s with heap := h' }) :
    wpAny (model prog w) A (binaryOp .Add (.ref l) (.ref b)) Q E s := by
  obtain ⟨n, hl⟩ := plain_of hl
  obtain ⟨n2, hb⟩ := plain_of hb
  exact PySem.P.add_list hl hb (h _ _ (S.push _ ⟨0, by simp⟩)) (by simp only [List.size_toArray, sizeLine_eq]; omega)
theorem min3S {a c d : Int} {t u x : Tok} (hh : A.handled = none) (S : St g L s.heap m news) (h : ∀ h' tk t', St g L h' m news → Q (.int (min (min a c) d) t') { s with heap := h', toks := tk }) :
    wpAny (model prog w) A (call (.builtin "min") [.int a t, .int c u, .int d x]) Q E s := by
  refine min_three_ints hh fun h' tk k => ?_
  have S' := S.keeps k
  have key : ∀ v : Value, (∃ t', v = .int (min (min a c) d) t') → Q v { s with heap := h', toks := tk } := fun v ⟨t', e⟩ => e ▸ h h' tk t' S'
  refine key _ ?_
  by_cases h1 : c < a
  · rw [if_pos h1]
    by_cases h2 : d < c
    · rw [if_pos h2]; exact ⟨x, by congr 1; omega⟩
    · rw [if_neg h2]; exact ⟨u, by congr 1; omega⟩
  · rw [if_neg h1]
    by_cases h2 : d < a
    · rw [if_pos h2]; exact ⟨x, by congr 1; omega⟩
    · rw [if_neg h2]; exact ⟨t, by congr 1; omega⟩
theorem subLast {value slice : Expr} {u : Tok} {v : Value} (hm : s.heap.IsList l (vs ++ [v]).toArray) (hz : vs.length ≤ 1000) (h : Q v s)
    (hs : subscripted slice false (.ref l) (.int (-1) u) = operate [.ref l, .int (-1) u] (getItem (.ref l) (.int (-1) u)) := by with_unfolding_all rfl) :
    wpAny (model prog w) A (subscriptTail value slice (.ref l) (.int (-1) u)) Q E s :=
  tail_any hm.typeIs PySem.slot_list_getitem.lookup (wpAny_getItem_list_neg hm (by decide) (by simp; omega) (by decide) (by
    have e : (-1 + (((vs ++ [v]).toArray.size : Nat) : Int)).toNat = vs.length := by simp; omega
    rw [e]; simp) h) hs
end
/-- back from a call that made objects of its own -/
theorem St.call {g h h' : Heap} {L : Addr} {m : Str → Option Value} {news new : Led} (S : St g L h m news) (O : Own h h' new) : St g L h' m (new ++ news) := by
  have apart : ∀ b o, h.get? b = some o → b ∉ new.map (·.1) := fun b o e q => by
    obtain ⟨p, hp, rfl⟩ := List.mem_map.mp q
    rw [(O.own p hp).2] at e; cases e
  have S' := S.keeps O.keep
  refine ⟨S'.ns, S'.offg, fun q => ?_, S'.o.keep, fun p hp => ?_, ?_⟩
  · rw [List.map_append] at q
    rcases List.mem_append.mp q with q | q
    · obtain ⟨oL, es, ep, hL, _⟩ := S.ns
      exact apart L _ hL q
    · exact S'.offn q
  · rcases List.mem_append.mp hp with hp | hp
    · refine ⟨(O.own p hp).1, ?_⟩
      cases q : g.get? p.1 with
      | none => rfl
      | some o => have := (O.own p hp).2; rw [S.keep _ _ q] at this; cases this
    · exact S'.o.own p hp
  · rw [List.map_append]
    refine List.nodup_append.mpr ⟨O.nd, S.o.nd, fun a ha b hb e => ?_⟩
    obtain ⟨q, hq, rfl⟩ := List.mem_map.mp hb
    obtain ⟨o, eo, _⟩ := (S.o.own q hq).1
    exact apart _ _ eo (e ▸ ha)
theorem St.call1 {g h h' : Heap} {L a : Addr} {m : Str → Option Value} {news : Led} {P : Obj → Prop} (S : St g L h m news) (O : Own h h' [(a, P)]) : St g L h' m ((a, P) :: news) := S.call O
theorem St.call2 {g h h' : Heap} {L a b : Addr} {m : Str → Option Value} {news : Led} {P P' : Obj → Prop} (S : St g L h m news) (O : Own h h' [(a, P), (b, P')]) : St g L h' m ((a, P) :: (b, P') :: news) := S.call O
theorem assignTupL {prog : Program} {w : World} {A : Around} {s : Shared} {g : Heap} {env : Env} {L T : Addr} {m : Str → Option Value} {vs : List Value} {elts : List Expr} {k : Nat} {pos : Pos} {news : Led} {E : Value → Shared → Prop} {Q : Unit → Shared → Prop} (hh : A.handled = none) (S : St g L s.heap m news) (hT : At s.heap (T, isL vs)) (hL : T ≠ L)
    (h : ∀ h' tk, St g L h' m news → wpAny (model prog w) A (assignInOrder ((assignEach elts env).map (·.2)) vs) Q E { s with heap := h', toks := tk })
    (hn : (assignEach elts env).length = vs.length := by rfl) (hstar : (assignEach elts env).findIdx? (·.1) = none := by rfl) :
    wpAny (model prog w) A (assign (.Tuple elts k pos) env (.ref T)) Q E s := by
  rw [assign_Tuple]
  refine wpAny_bind (wpAny_standAt ?_)
  unfold unpack
  rw [hstar]
  exact wpAny_bind (wpAny_holding (unpackL hh hT S hL hn fun h' tk S' => h h' tk S'))
end
section
section
variable {g h : Heap} {L : Addr} {m : Str → Option Value} {news news' : Led}
theorem St.perm (S : St g L h m news) (p : news'.Perm news) : St g L h m news' :=
  S.sub (fun _ hp => p.mem_iff.mp hp) ((p.map _).nodup_iff.mpr S.o.nd)
theorem St.mono0 {a : Addr} {P P' : Obj → Prop} (S : St g L h m ((a, P) :: news)) (k : ∀ o, P o → P' o) : St g L h m ((a, P') :: news) := by
  refine ⟨S.ns, S.offg, S.offn, S.o.keep, fun p hp => ?_, S.o.nd⟩
  rcases List.mem_cons.mp hp with rfl | hp
  · exact ⟨(S.o.own (a, P) (.head _)).1.mono k, (S.o.own (a, P) (.head _)).2⟩
  · exact S.o.own p (.tail _ hp)
end

abbrev KX := List (List Int × Addr × Value)
abbrev isTk (k : List Int) : Obj → Prop := fun o => o.cls = .type "tuple" ∧ ∃ items n, o.data = .seq items n ∧ IntsAre items.toList k
abbrev isDH (prog : Program) (w : World) (xs : KX) : Obj → Prop := fun o => o.ExactDict ∧ ∃ es ep, o.data = .dict es ep ∧ es.toList = xs.map (entryOfKey (tupleKind (PySem.intKind prog w)))
def keyL (xs : KX) : Led := xs.map fun x => (x.2.1, isTk x.1)
/-- a dict from pairs of ints to ints: what F tells of it -/
def DL (prog : Program) (w : World) (d : Addr) (F : Int → Int → Option Int) (N : Nat) (mu : Led) : Prop :=
  ∃ xs : KX, mu = (d, isDH prog w xs) :: keyL xs ∧ xs.length ≤ N ∧ (xs.map (·.1)).Nodup ∧ ∀ i j n, F i j = some n → ∃ a t, atKey xs [i, j] = some (a, .int n t)
def updF (F : Int → Int → Option Int) (i j n : Int) : Int → Int → Option Int := fun a b => if a = i ∧ b = j then some n else F a b

theorem items_of_ints {prog : Program} {w : World} {vs : List Value} {ns : List Int} (h : IntsAre vs ns) : ItemsAre (PySem.intKind prog w) ns vs := by
  induction h with
  | nil => exact .nil
  | cons n t _ ih => exact .cons (intKind_is _ _ _ _) ih
theorem atKey_stored {xs : KX} (k : List Int) (a : Addr) (v : Value) (k' : List Int) : (atKey (storedH xs k a v) k').map (·.2) = if k' = k then some v else (atKey xs k').map (·.2) := by
  have put : ∀ ys : KX, (atKey (ys.map (putAt k v)) k').map (·.2) = if k' = k ∧ (atKey ys k).isSome then some v else (atKey ys k').map (·.2) := by
    intro ys
    induction ys with
    | nil => simp [atKey]
    | cons y ys ih =>
      obtain ⟨ky, ay, vy⟩ := y
      simp only [List.map_cons, atKey, putAt, List.find?_cons] at ih ⊢
      by_cases h1 : ky = k
      · subst h1
        by_cases h2 : ky = k'
        · subst h2; simp
        · have h3 : ¬ k' = ky := fun e => h2 e.symm
          simp [h2, h3] at ih ⊢
          exact ih
      · by_cases h2 : ky = k'
        · subst h2; simp [h1]
        · have d1 : decide (ky = k) = false := decide_eq_false h1
          have d2 : decide (ky = k') = false := decide_eq_false h2
          simp only [if_neg h1, d1, d2]
          exact ih
  unfold storedH
  split
  · rename_i hs
    rw [put]
    simp [hs]
  · rename_i hs
    have hn : atKey xs k = none := by simpa using hs
    unfold atKey at *
    rw [List.find?_append]
    by_cases h2 : k' = k
    · subst h2
      have : xs.find? (fun x => decide (x.1 = k')) = none := by simpa using hn
      simp [this]
    · have h3 : ¬ k = k' := fun e => h2 e.symm
      simp [h2, h3]
section
variable {prog : Program} {w : World} {A : Around} {s : Shared} {g : Heap} {L d T : Addr} {m : Str → Option Value} {mu post : Led} {E : Value → Shared → Prop} {F : Int → Int → Option Int} {N : Nat}
theorem DL.dict {xs : KX} {h : Heap} (S : St g L h m ((d, isDH prog w xs) :: keyL xs ++ post)) (hn : (xs.map (·.1)).Nodup) : h.DictOfH (tupleKind (PySem.intKind prog w)) d xs := by
  obtain ⟨o, ho, hex, es, ep, hd, he⟩ := S.get (a := d) (P := isDH prog w xs) (.head _)
  refine ⟨o, es, ep, ho, hex, hd, he, fun x hx => ?_, hn⟩
  obtain ⟨o', ho', hc, items, n, hd', hi⟩ := S.get (a := x.2.1) (P := isTk x.1) (List.mem_append_left _ (.tail _ (List.mem_map_of_mem (f := fun x : List Int × Addr × Value => (x.2.1, isTk x.1)) hx)))
  exact ⟨o', items, n, ho', hc, hd', items_of_ints hi⟩
theorem dgetS {value slice : Expr} {i j n : Int} {t u : Tok} {Q : Value → Shared → Prop} (hu : A.units + 1 < cLine) (S : St g L s.heap m ((T, isT [.int i t, .int j u]) :: (mu ++ post))) (D : DL prog w d F N mu) (hf : F i j = some n)
    (h : ∀ t' tk, St g L s.heap m (mu ++ post) → Q (.int n t') { s with toks := tk })
    (hs : subscripted slice false (.ref d) (.ref T) = operate [.ref d, .ref T] (getItem (.ref d) (.ref T)) := by with_unfolding_all rfl) :
    wpAny (model prog w) A (subscriptTail value slice (.ref d) (.ref T)) Q E s := by
  obtain ⟨xs, rfl, hN, hnd, hF⟩ := D
  have hm := DL.dict S.drop1 hnd
  obtain ⟨oT, hoT, hcT, nT, hdT⟩ := S.get (a := T) (P := isT [.int i t, .int j u]) (.head _)
  obtain ⟨a, t', e⟩ := hF i j n hf
  refine tail_any hm.typeIs PySem.slot_dict_getitem.lookup (wpAny_getItem_heap (knd := tupleKind (PySem.intKind prog w)) (k := [i, j]) (a := T) hu ⟨oT, _, nT, hoT, hcT, hdT, items_of_ints (.cons _ _ (.cons _ _ .nil))⟩ hm e ?_) hs
  exact h t' _ S.drop1
theorem dsetS {i j n : Int} {t u tv : Tok} {Q : Unit → Shared → Prop} (hu : A.units + 1 < cLine) (S : St g L s.heap m ((T, isT [.int i t, .int j u]) :: (mu ++ post))) (D : DL prog w d F N mu) (hN : N ≤ 1000)
    (h : ∀ h' tk mu', DL prog w d (updF F i j n) (N + 1) mu' → St g L h' m (mu' ++ post) → Q () { s with heap := h', toks := tk }) :
    wpAny (model prog w) A (setItem (.ref d) (.ref T) (.int n tv)) Q E s := by
  obtain ⟨xs, rfl, hl, hnd, hF⟩ := D
  have hm := DL.dict S.drop1 hnd
  obtain ⟨oT, hoT, hcT, nT, hdT⟩ := S.get (a := T) (P := isT [.int i t, .int j u]) (.head _)
  refine wpAny_setItem_heap (knd := tupleKind (PySem.intKind prog w)) (k := [i, j]) (a := T) hu ⟨oT, _, nT, hoT, hcT, hdT, items_of_ints (.cons _ _ (.cons _ _ .nil))⟩ hm (fun h' hm' hs => ?_) (by rw [sizeLine_eq]; omega)
  obtain ⟨o', es', ep', ho', hex', hd', he', _, hnd'⟩ := hm'
  have S₁ : St g L h' m ((T, isT [.int i t, .int j u]) :: (d, isDH prog w (storedH xs [i, j] T (.int n tv))) :: (keyL xs ++ post)) := S.upd1 (P := isDH prog w xs) hs ⟨o', ho', hex', es', ep', hd', he'⟩
  have hF' : ∀ a b c, updF F i j n a b = some c → ∃ a' t', atKey (storedH xs [i, j] T (.int n tv)) [a, b] = some (a', .int c t') := by
    intro a b c hc
    have key := atKey_stored (xs := xs) [i, j] T (.int n tv) [a, b]
    unfold updF at hc
    by_cases q : a = i ∧ b = j
    · rw [if_pos q] at hc
      obtain ⟨rfl, rfl⟩ := q
      cases hc
      rw [if_pos rfl] at key
      cases z : atKey (storedH xs [a, b] T (.int n tv)) [a, b] with
      | none => rw [z] at key; cases key
      | some p => rw [z] at key; exact ⟨p.1, tv, congrArg some (Prod.ext rfl (Option.some.inj key))⟩
    · rw [if_neg q] at hc
      have ne : ¬ ([a, b] : List Int) = [i, j] := fun e => q (by simpa using e)
      rw [if_neg ne] at key
      obtain ⟨a', t', e⟩ := hF a b c hc
      rw [e] at key
      cases z : atKey (storedH xs [i, j] T (.int n tv)) [a, b] with
      | none => rw [z] at key; cases key
      | some p => rw [z] at key; exact ⟨p.1, t', congrArg some (Prod.ext rfl (Option.some.inj key))⟩
  by_cases hq : (atKey xs [i, j]).isSome
  · have e : storedH xs [i, j] T (.int n tv) = xs.map (putAt [i, j] (.int n tv)) := by unfold storedH; rw [if_pos hq]
    have ek : keyL (xs.map (putAt [i, j] (.int n tv))) = keyL xs := by
      unfold keyL
      rw [List.map_map]
      refine List.map_congr_left fun x _ => ?_
      unfold putAt
      simp only [Function.comp]
      split <;> rfl
    refine h h' _ ((d, isDH prog w (storedH xs [i, j] T (.int n tv))) :: keyL (storedH xs [i, j] T (.int n tv))) ⟨_, rfl, ?_, hnd', hF'⟩ ?_
    · rw [e, List.length_map]; omega
    · rw [e, ek, ← e]; exact S₁.drop1
  · have e : storedH xs [i, j] T (.int n tv) = xs ++ [([i, j], T, .int n tv)] := by unfold storedH; rw [if_neg hq]
    refine h h' _ ((d, isDH prog w (storedH xs [i, j] T (.int n tv))) :: keyL (storedH xs [i, j] T (.int n tv))) ⟨_, rfl, ?_, hnd', hF'⟩ ?_
    · rw [e, List.length_append]; simp; omega
    · have S₂ := S₁.mono0 (P' := isTk [i, j]) fun o ⟨hc, nn, hd⟩ => ⟨hc, _, nn, hd, .cons _ _ (.cons _ _ .nil)⟩
      refine S₂.perm ?_
      have ek : keyL (storedH xs [i, j] T (.int n tv)) = keyL xs ++ [(T, isTk [i, j])] := by rw [e]; unfold keyL; rw [List.map_append]; rfl
      rw [ek]
      have p1 : ((d, isDH prog w (storedH xs [i, j] T (.int n tv))) :: ((keyL xs ++ [(T, isTk [i, j])]) ++ post)).Perm ((d, isDH prog w (storedH xs [i, j] T (.int n tv))) :: (T, isTk [i, j]) :: (keyL xs ++ post)) := by
        refine List.Perm.cons _ ?_
        rw [List.append_assoc]
        exact List.perm_middle
      exact p1.trans (List.Perm.swap _ _ _)
theorem newDictS {Q : Value → Shared → Prop} {news : Led} (S : St g L s.heap m news) (h : ∀ d h', St g L h' m ((d, isDH prog w []) :: news) → DL prog w d (fun _ _ => none) 0 [(d, isDH prog w [])] → Q (.ref d) { s with heap := h' }) :
    wpAny (model prog w) A newDict Q E s := by
  have S' := S.push (P := isDH prog w []) { cls := .type "dict", data := .dict #[] } ⟨⟨rfl, rfl, rfl⟩, #[], 0, rfl, rfl⟩
  have D : DL prog w s.heap.objs.size (fun _ _ => none) 0 [(s.heap.objs.size, isDH prog w [])] := ⟨[], rfl, Nat.le_refl _, List.nodup_nil, fun i j n e => by cases e⟩
  unfold newDict
  first
    | exact wpAny_newObj_type (h _ _ S' D)
    | exact wpAny_alloc (wpAny_pure (h _ _ S' D))
    | exact wpAny_bind (wpAny_alloc (wpAny_pure (h _ _ S' D)))
end
end
section
section
variable {prog : Program} {w : World} {A : Around} {E : Value → Shared → Prop} {s : Shared}
theorem callType_kwM {T newId initId : String} {Bn Bi : Builtin} {args : List Value} {kw : List (Str × Value)} {S : PySem.Spec} {Q Q₁ : Value → Shared → Prop} (ft : TypeCalled T newId initId)
    (hct : checkTypeCall T ⟨args, kw⟩ = pure ()) (hcn : checkBuiltinCall newId ⟨.type T :: args, kw⟩ = pure ())
    (entryN : entryFor table newId = some Bn) (entryI : entryFor table initId = some Bi) (g : Meets (Bn ⟨.type T :: args, kw⟩) S)
    (h : S A.in1 (wants Q₁ E) s)
    (hnext : ∀ obj s₁, Q₁ obj s₁ → s₁.TypeIs obj T ∧ argsOk initId ⟨obj :: args, kw⟩ ∧ ∃ Si, Meets (Bi ⟨obj :: args, kw⟩) Si ∧ Si A.in1 (wants (fun r s₂ => r = .none ∧ Q obj s₂) E) s₁) :
    wpAny (model prog w) A (call (.type T) args kw) Q E s := by
  obtain ⟨c, tl, hmro⟩ := ft.mro
  have hmade := ft.made
  have hsub := ft.sub
  refine wpAny_call (codeAny_of_tree ?_)
  show wpAny _ _ (callAny (.type T) _) _ _ _
  refine wpAny_pure ⟨Code.quiet_builtin _ (by decide +kernel), codeAny_builtin F.entry_type_call ?_⟩
  rw [Around.under_plain (weight_type_call_type T args kw) (units_type_call_type T args kw)]
  have h1 := ft.notType
  have h2 := ft.canCreate
  repeat (any_goals (first | assumption | wp_step))
  refine codeAny_mono (codeAny_call_builtin ft.plain entryN (wpAny_of_eq hcn (g prog w A.in1 _ s h))) fun r s₁ hr => ?_
  cases r with
  | error e => exact hr
  | ok fl =>
    cases fl with
    | ret obj =>
      obtain ⟨hT, hok, Si, gi, hsi⟩ := hnext _ _ hr
      have hli := ft.init.lookup
      have hbi := ft.init.bind obj
      repeat (any_goals (first | assumption | wp_step))
      refine codeAny_mono (codeAny_call_builtin ft.init.plain entryI (ft.init.check _ _ _ _ _ _ _ _ hT hok (gi prog w A.in1 _ s₁ hsi))) fun r₂ s₂ hr₂ => ?_
      cases r₂ with
      | error e => exact hr₂
      | ok fl₂ =>
        cases fl₂ with
        | ret r =>
          obtain ⟨rfl, hq⟩ := hr₂
          repeat (any_goals (first | assumption | wp_step))
        | _ => exact hr₂.elim
    | _ => exact hr.elim
end
theorem sub_enum : isSubtype (.type "enumerate") (.type "enumerate") = pure true := by rw [isSubtype_type]; kernel_rfl
theorem typeCall_enum_kw (a b : Value) : checkTypeCall "enumerate" ⟨[a], [("start", b)]⟩ = pure () := by kernel_rfl
theorem newCall_enum_kw (a b : Value) : checkBuiltinCall "enumerate.__new__" ⟨[.type "enumerate", a], [("start", b)]⟩ = pure () := by kernel_rfl
theorem args_oi_kw (obj a b : Value) : argsOk "object.__init__" ⟨[obj, a], [("start", b)]⟩ := by unfold argsOk; kernel_rfl
theorem enum_oi_meets {self a b : Value} :
    Meets (Builtin.«object.__init__» ⟨[self, a], [("start", b)]⟩) (fun _ R s => s.TypeIs self "enumerate" ∧ R (.ok (.ret .none)) s) := by
  refine Meets.of_wp fun prog w A R s hs => ?_
  obtain ⟨hT, hq⟩ := hs
  have hl := PySem.F.called_enumerate.init.lookup
  have hm := PySem.F.called_enumerate.made
  have hne : (some "enumerate.__new__" != some "object.__new__") = true := by decide
  repeat (any_goals (first | assumption | wp_step))
  exact ⟨_, rfl, hq⟩
set_option maxHeartbeats 8000000 in
theorem meets_enum_new_kw (x : Str) (t u : Tok) :
    Meets (Builtin.«enumerate.__new__» ⟨[.type "enumerate", .str x t], [("start", .int 1 u)]⟩) (fun _ R s =>
      R (.ok (.ret (.ref (s.heap.push { cls := .type (strIterType x), data := .fields #[.str x t, .int 0 0] }).objs.size)))
        { s with heap := (s.heap.push { cls := .type (strIterType x), data := .fields #[.str x t, .int 0 0] }).push { cls := .type "enumerate", data := .fields #[.none, .bool false, .ref s.heap.objs.size, rawInt 1, .none, .none] } }) := by
  refine Meets.of_wp fun prog w A R s h => ?_
  obtain ⟨hp, g, d, tk, os⟩ := s
  have hsub := sub_enum
  unfold Builtin.«enumerate.__new__»
  generalize hPI : pyIter = PI
  wp_walk
  refine wpAny_stack_any fun st => wpAny_pure ?_
  split
  · rename_i c _ _ _ _ _
    cases (c == Value.type "enumerate")
    · wp_walk
      subst hPI
      refine wpAny_pyIter_strU ?_
      wp_walk
      exact ⟨_, rfl, h⟩
    · wp_walk
      subst hPI
      refine wpAny_pyIter_strU ?_
      wp_walk
      exact ⟨_, rfl, h⟩
  · wp_walk
    subst hPI
    refine wpAny_pyIter_strU ?_
    wp_walk
    exact ⟨_, rfl, h⟩
end
section
theorem Draws.shift1 {prog : Program} {w : World} {A : Around} {it : Addr} {fp : List Addr} {n : Nat} {P : Nat → Value → Prop} {St : Nat → Heap → Prop} (D : Draws prog w A it fp n P St) :
    Draws prog w A it fp (n + 1) (fun i x => 1 ≤ i ∧ P (i - 1) x) (fun i h => 1 ≤ i ∧ St (i - 1) h) where
  live := fun i h st => D.live _ h st.2
  frame := fun i h h' st k => ⟨st.1, D.frame _ h h' st.2 k⟩
  item := fun i s Q E hi st hQ => D.item (i - 1) s Q E (by have := st.1; omega) st.2 fun x h' tk p st' hs => hQ x h' tk ⟨st.1, p⟩ ⟨by omega, by
    have : i + 1 - 1 = i - 1 + 1 := by have := st.1; omega
    rw [this]; exact st'⟩ hs
  done := fun s Q E st hE => D.done s Q E st.2 hE
theorem WalksT.shift1 {prog : Program} {w : World} {A : Around} {I : Addr} {fp wr : List Addr} {n : Nat} {Pt : Nat → Array Value → Prop} {St : Nat → Heap → Prop} {Mid : Nat → Addr → Heap → Prop} (W : WalksT prog w A I fp wr (n + 1) Pt St Mid) :
    WalksT prog w A I fp wr n (fun i => Pt (i + 1)) (fun i => St (i + 1)) (fun i => Mid (i + 1)) where
  sub := W.sub
  frame := fun i => W.frame (i + 1)
  item := fun i s Q E hi st hQ => W.item (i + 1) s Q E (by omega) st hQ
  go := fun elts k pos i T s Q E hm hQ => W.go elts k pos (i + 1) T s Q E hm hQ
  apart := fun i T h hm => W.apart (i + 1) T h hm
  done := fun s Q E st hQ => W.done s Q E st hQ
  self := fun i s Q E st hQ => W.self (i + 1) s Q E st hQ
theorem Draws.str {prog : Program} {w : World} {A : Around} (hh : A.handled = none) (it : Addr) (y : List Nat) (t : Tok) :
    Draws prog w A it [it] y.length (fun i v => ∃ c u, y[i]? = some c ∧ v = .str (sw [c]) u) (fun i h => h.IsStrIter it (strIterType (sw y)) (sw y) t i) := by
  have ey : (sw y).cps.size = y.length := by simp
  have cv : ∀ i v, SignAt (sw y) i v → ∃ c u, y[i]? = some c ∧ v = .str (sw [c]) u := fun i v ⟨c, u, hc, e⟩ => ⟨c, u, by simpa using hc, e⟩
  unfold strIterType
  cases ha : (sw y).cps.all (· < 128)
  · have D := Draws.strWide (prog := prog) (w := w) hh it (sw y) t
    rw [ey] at D
    exact ⟨D.live, D.frame, fun i s Q E hi st hQ => D.item i s Q E hi st fun x h' tk p => hQ x h' tk (cv i x p), D.done⟩
  · have D := Draws.strAscii (prog := prog) (w := w) hh it (sw y) t
    rw [ey] at D
    exact ⟨D.live, D.frame, fun i s Q E hi st hQ => D.item i s Q E hi st fun x h' tk p => hQ x h' tk (cv i x p), D.done⟩
abbrev isEn (it : Addr) (k : Int) : Obj → Prop := fun o => o = { cls := .type "enumerate", data := .fields #[.none, .bool false, .ref it, rawInt k, .none, .none] }
abbrev isSI (y : List Nat) (t : Tok) : Obj → Prop := fun o => o.cls = .type (strIterType (sw y)) ∧ o.data = .fields #[.str (sw y) t, .int 0 0]
section
variable {prog : Program} {w : World} {A : Around} {s : Shared} {env : Env} {g : Heap} {L : Addr} {m : Str → Option Value} {mu rest news : Led} {E : Value → Shared → Prop}
theorem enum0S {y : List Nat} {t : Tok} {Q : Value → Shared → Prop} (S : St g L s.heap m news) (h : ∀ e it h', St g L h' m ((e, isEn it 0) :: (it, isSI y t) :: news) → Q (.ref e) { s with heap := h' }) :
    wpAny (model prog w) A (call (.type "enumerate") [.str (sw y) t]) Q E s := by
  refine callType_new F.called_enumerate (by decide) (F.typeCall_enumerate_1 _) (F.newCall_enumerate_1 _) (fun obj => F.args_object_init_2 obj _) F.entry_enumerate_new (meets_enumerate_newS (sw y) t) ?_
  have S₁ := S.push (P := isSI y t) { cls := .type (strIterType (sw y)), data := .fields #[.str (sw y) t, .int 0 0] } ⟨rfl, rfl⟩
  have S₂ := S₁.push (P := isEn s.heap.objs.size 0) { cls := .type "enumerate", data := .fields #[.none, .bool false, .ref s.heap.objs.size, rawInt 0, .none, .none] } rfl
  exact ⟨⟨_, Heap.get?_push_size _ rfl, rfl⟩, h _ _ _ S₂⟩
theorem enum1S {y : List Nat} {t u : Tok} {Q : Value → Shared → Prop} (S : St g L s.heap m news) (h : ∀ e it h', St g L h' m ((e, isEn it 1) :: (it, isSI y t) :: news) → Q (.ref e) { s with heap := h' }) :
    wpAny (model prog w) A (call (.type "enumerate") [.str (sw y) t] [("start", .int 1 u)]) Q E s := by
  have S₁ := S.push (P := isSI y t) { cls := .type (strIterType (sw y)), data := .fields #[.str (sw y) t, .int 0 0] } ⟨rfl, rfl⟩
  have S₂ := S₁.push (P := isEn s.heap.objs.size 1) { cls := .type "enumerate", data := .fields #[.none, .bool false, .ref s.heap.objs.size, rawInt 1, .none, .none] } rfl
  exact callType_kwM (Q₁ := fun obj s₁ => s₁.TypeIs obj "enumerate" ∧ Q obj s₁) F.called_enumerate (typeCall_enum_kw _ _) (newCall_enum_kw _ _) F.entry_enumerate_new F.entry_object_init (meets_enum_new_kw (sw y) t u) ⟨⟨_, Heap.get?_push_size _ rfl, rfl⟩, h _ _ _ S₂⟩
    fun obj s₁ hq => ⟨hq.1, args_oi_kw _ _ _, _, enum_oi_meets, hq.1, rfl, hq.2⟩
/-- for xi, xv in enumerate(y, k) -/
theorem enumLoop {Q : Flow → Shared → Prop} {e it : Addr} {y : List Nat} {ty : Tok} {k : Nat} {xi xv : Str} {pi pv pt : Pos} {kc : Nat} {body : List Stmt} (J : Nat → (Str → Option Value) → Led → Prop) (hk : k = 0 ∨ k = 1)
    (hh : A.handled = none) (hxi : env.kindOf xi = some .local) (hxv : env.kindOf xv = some .local) (hp : (env.scope.kind == .class || (env.scope.kind == .module && env.locals != env.globals)) = false)
    (S : St g env.locals s.heap m ((e, isEn it (k : Int)) :: (it, isSI y ty) :: (mu ++ rest))) (j0 : J 0 m mu)
    (turn : ∀ i t u m₁ mu₁ g₁ h tk c, y[i]? = some c → J i m₁ mu₁ → Sub g g₁ → (∀ p ∈ rest, At g₁ p) →
      St g₁ env.locals h (fun z => if z = xv then some (.str (sw [c]) u) else if z = xi then some (.int ((k : Int) + i) t) else m₁ z) mu₁ →
      wpAny (model prog w) A (execs body env) (TurnEnd s g₁ env.locals (J (i + 1)) Q) FalseE { s with heap := h, toks := tk })
    (done : ∀ m₁ mu₁ h tk, J y.length m₁ mu₁ → St g env.locals h m₁ (mu₁ ++ rest) → Q .next { s with heap := h, toks := tk }) :
    wpAny (model prog w) A (pyIter (.ref e)) (fun itv s₂ => ∃ I, itv = .ref I ∧ codeAny (model prog w) A (.forLoop (.Tuple [.Name xi pi, .Name xv pv] kc pt) (.ref I) body [] env) (fun r s' => match r with | .ok f => Q f s' | .error _ => False) s₂) FalseE s := by
  obtain ⟨_, he, rfl⟩ := S.get (a := e) (P := isEn it (k : Int)) (.head _)
  obtain ⟨oi, hi, hic, hid⟩ := S.get (a := it) (P := isSI y ty) (.tail _ (.head _))
  have hei : e ≠ it := fun q => headNe S (it, isSI y ty) (.head _) q.symm
  refine wpAny_pyIter_enum (it := it) (i := (k : Int)) (old := .none) he ⟨e, rfl, ?_⟩
  have D := Draws.str (prog := prog) (w := w) (A := A.in1) hh it y ty
  obtain ⟨Si, Mid, W, st0, al⟩ : ∃ Si Mid, WalksT prog w A e [e, it] [e, it] y.length (fun i vals => ∃ t x, (∃ c u, y[i]? = some c ∧ x = Value.str (sw [c]) u) ∧ vals = #[.int ((k : Int) + i) t, x]) Si Mid ∧ Si 0 s.heap ∧
      (∀ i h, Si i h → ∀ b ∈ [e, it], ∃ o, h.get? b = some o) := by
    rcases hk with rfl | rfl
    · have W := WalksT.enumerateD D e hei (by simpa using hei) (by simp)
      refine ⟨_, _, ⟨W.sub, W.frame, fun i s Q E hi st hQ => W.item i s Q E hi st fun T vals h' tk ⟨t, x, p, ev⟩ => hQ T vals h' tk ⟨t, x, p, by simpa using ev⟩, W.go, W.apart, W.done, W.self⟩, ⟨⟨_, he⟩, oi, hi, hic, hid⟩, fun i h st b hb => ?_⟩
      rcases List.mem_cons.mp hb with rfl | hb
      · obtain ⟨⟨_, q⟩, _⟩ := st; exact ⟨_, q⟩
      · rw [List.mem_singleton.mp hb]; obtain ⟨_, o, q, _⟩ := st; exact ⟨o, q⟩
    · have W := WalksT.shift1 (WalksT.enumerateD (Draws.shift1 D) e hei (by simpa using hei) (by simp))
      refine ⟨_, _, ⟨W.sub, W.frame, fun i s Q E hi st hQ => W.item i s Q E hi st fun T vals h' tk ⟨t, x, p, ev⟩ => hQ T vals h' tk ⟨t, x, p.2, by rw [ev]; congr 3; push_cast; omega⟩, W.go, W.apart, W.done, W.self⟩, ⟨⟨_, he⟩, by decide, oi, hi, hic, hid⟩, fun i h st b hb => ?_⟩
      rcases List.mem_cons.mp hb with rfl | hb
      · obtain ⟨⟨_, q⟩, _⟩ := st; exact ⟨_, q⟩
      · rw [List.mem_singleton.mp hb]; obtain ⟨_, _, o, q, _⟩ := st; exact ⟨o, q⟩
  refine loopG_S (mu := mu) (rest := rest) (fp := [e, it]) (wr := [e, it]) (n := y.length) (V := fun i v g₁ => ∃ T vals, v = .ref T ∧ (∃ t x, (∃ c u, y[i]? = some c ∧ x = Value.str (sw [c]) u) ∧ vals = #[.int ((k : Int) + i) t, x]) ∧ At g₁ (T, isT vals.toList)) (Si := Si)
    J (fun i s Q E hi st hQ => WalksT.itemG W i s Q E hi st hQ) W.done W.frame al (fun b hb => hb) ?_ ?_ ?_ ?_ S.drop1.drop1 st0 j0 ?_ done
  · intro b hb
    rcases List.mem_cons.mp hb with rfl | hb
    · exact (S.o.own (b, isEn it (k : Int)) (.head _)).2
    · rw [List.mem_singleton.mp hb]; exact (S.o.own (it, isSI y ty) (.tail _ (.head _))).2
  · intro q
    rcases List.mem_cons.mp q with q | q
    · exact S.neL (P := isEn it (k : Int)) (.head _) q.symm
    · exact S.neL (P := isSI y ty) (.tail _ (.head _)) (List.mem_singleton.mp q).symm
  · intro p hp q
    rcases List.mem_cons.mp q with q | q
    · exact headNe S p (.tail _ (List.mem_append_left _ hp)) q
    · exact headNe S.drop1 p (List.mem_append_left _ hp) (List.mem_singleton.mp q)
  · intro p hp q
    rcases List.mem_cons.mp q with q | q
    · exact headNe S p (.tail _ (List.mem_append_right _ hp)) q
    · exact headNe S.drop1 p (List.mem_append_right _ hp) (List.mem_singleton.mp q)
  · rintro i v m₁ mu₁ g₁ h tk hi' ⟨T, vals, rfl, ⟨t, x, ⟨c, u, hc, rfl⟩, rfl⟩, hT⟩ j sub at₁ _ S₁
    refine assignTupS hh S₁ (S₁.at hT) (fun h₂ S₂ => ?_) rfl rfl
    refine assignInOrder_cons (assign_Name (wpAny_storeName_local hxi S₂.ns (fun h₃ hn₃ hs₃ => ?_) hp))
    have S₃ := S₂.setNs hn₃ hs₃
    refine assignInOrder_cons (assign_Name (wpAny_storeName_local hxv S₃.ns (fun h₄ hn₄ hs₄ => ?_) hp))
    have S₄ := S₃.setNs hn₄ hs₄
    exact assignInOrder_nil (turn i t u m₁ mu₁ g₁ h₄ _ c hc j sub at₁ S₄)
end
end
section
abbrev isDA (prog : Program) (w : World) (f : Nat → Int) (N : Nat) : Obj → Prop := fun o => o.ExactDict ∧ ∃ es ep, ∃ kvs : List (Str × Value), o.data = .dict es ep ∧ KeysOf (PySem.strKind prog w) es ∧ Pairs (PySem.strKind prog w) es.toList kvs ∧ (kvs.map (·.1)).Nodup ∧
  kvs.length ≤ N ∧ ∀ c, (valueAt kvs (sw [c]) = none ∧ f c = 0) ∨ ∃ t, valueAt kvs (sw [c]) = some (.int (f c) t)
theorem dh_empty {prog : Program} {w : World} : ∀ o, isO emptyDict o → isDH prog w [] o := by
  rintro o rfl; exact ⟨⟨rfl, rfl, rfl⟩, #[], 0, rfl, rfl⟩
theorem da_empty {prog : Program} {w : World} : ∀ o, isO emptyDict o → isDA prog w (fun _ => 0) 0 o := by
  rintro o rfl
  exact ⟨⟨rfl, rfl, rfl⟩, #[], 0, [], rfl, fun _ he => by simp at he, .nil, List.nodup_nil, Nat.le_refl _, fun c => .inl ⟨rfl, rfl⟩⟩
theorem dl_empty {prog : Program} {w : World} {d : Addr} : DL prog w d (fun _ _ => none) 0 [(d, isDH prog w [])] := ⟨[], rfl, Nat.le_refl _, List.nodup_nil, fun i j n e => by cases e⟩
theorem valueAt_stored' (kvs : List (Str × Value)) (k : Str) (v : Value) (x : Str) : valueAt (stored kvs k v) x = if x = k then some v else valueAt kvs x := by
  have put : ∀ ys : List (Str × Value), valueAt (ys.map fun kv => if kv.1 = k then (kv.1, v) else kv) x = if x = k ∧ ys.any (fun kv => decide (kv.1 = k)) then some v else valueAt ys x := by
    intro ys
    induction ys with
    | nil => simp [valueAt]
    | cons y ys ih =>
      obtain ⟨ky, vy⟩ := y
      unfold valueAt at ih ⊢
      simp only [List.map_cons, List.find?_cons, List.any_cons]
      by_cases h1 : ky = k
      · subst h1
        by_cases h2 : ky = x
        · subst h2; simp
        · have h3 : ¬ x = ky := fun e => h2 e.symm
          simp only [if_true, h2, decide_false, h3, false_and, if_false] at ih ⊢
          simpa using ih
      · have d1 : decide (ky = k) = false := decide_eq_false h1
        by_cases h2 : ky = x
        · subst h2
          simp [h1]
        · have d2 : decide (ky = x) = false := decide_eq_false h2
          simp only [if_neg h1, d1, d2, Bool.false_or]
          exact ih
  unfold stored
  split
  · rename_i hs
    rw [put]
    simp [hs]
  · rename_i hs
    unfold valueAt
    rw [List.find?_append]
    by_cases h2 : x = k
    · subst h2
      have : kvs.find? (fun kv => decide (kv.1 = x)) = none := by
        rw [List.find?_eq_none]
        intro z hz e
        exact hs (List.any_eq_true.mpr ⟨z, hz, e⟩)
      simp [this]
    · have h3 : ¬ k = x := fun e => h2 e.symm
      simp [h2, h3]
section
variable {prog : Program} {w : World} {A : Around} {s : Shared} {env : Env} {g : Heap} {L d : Addr} {m : Str → Option Value} {pre post news : Led} {E : Value → Shared → Prop} {f : Nat → Int} {N : Nat}
theorem dictS {pos : Pos} {Q : Value → Shared → Prop} (S : St g L s.heap m news) (G : Gd w g) (h : ∀ d h', (d == sysModules) = false → St g L h' m ((d, isO emptyDict) :: news) → Q (.ref d) { s with heap := h' }) :
    wpAny (model prog w) A (eval (.Dict [] [] pos) env) Q E s := by
  have S' := S.push (P := isO emptyDict) emptyDict rfl
  have hd : (s.heap.objs.size == sysModules) = false := beq_eq_false_iff_ne.mpr (Nat.ne_of_gt (modules_low (G.nolimit.keeps S.keep)))
  rw [eval_Dict_empty]
  refine wpAny_bind (wpAny_standAt ?_)
  unfold newDict
  first
    | exact wpAny_newObj_type (h _ _ hd S')
    | exact wpAny_alloc (wpAny_pure (h _ _ hd S'))
    | exact wpAny_bind (wpAny_alloc (wpAny_pure (h _ _ hd S')))
theorem daGet {c : Nat} {t u : Tok} {Q : Value → Shared → Prop} (hm : At s.heap (d, isDA prog w f N)) (hd : (d == sysModules) = false) (h : ∀ t tk, Q (.int (f c) t) { s with toks := tk }) :
    wpAny (model prog w) A (call (.builtin "dict.get") [.ref d, .str (sw [c]) t, .int 0 u]) Q E s := by
  obtain ⟨o, ho, hex, es, ep, kvs, hdt, hk, hp, hnd, hN, hf⟩ := hm
  have D : s.heap.DictOf (PySem.strKind prog w) d kvs := ⟨o, es, ep, ho, hex, hdt, hk, hp, hnd⟩
  refine call_meetsIn PySem.F.slot_dict_get D.typeIs PySem.F.entry_dict_get (PySem.F.args_dict_get_3 _ _ _) (meets_dict_get_default (PySem.strKind prog w) d (strKind_is _ _ _ _) hd (.int 0 u)) ⟨_, D.mapOf, ?_⟩
  rcases hf c with ⟨e1, e2⟩ | ⟨t', e⟩
  · rw [e1]
    have := h u (s.toks + 1)
    rw [e2] at this
    exact this
  · rw [e]; exact h t' _
theorem daMeth {pl : Sem Bool} {Q : Value × List Value → Shared → Prop} (hm : At s.heap (d, isDA prog w f N)) (h : Q (.builtin "dict.get", [.ref d]) s) : wpAny (model prog w) A (getMethod (.ref d) "get" pl) Q E s := by
  obtain ⟨o, ho, hex, es, ep, kvs, hdt, hk, hp, hnd, hN, hf⟩ := hm
  have D : s.heap.DictOf (PySem.strKind prog w) d kvs := ⟨o, es, ep, ho, hex, hdt, hk, hp, hnd⟩
  exact getMethod_builtin D.typeIs PySem.F.plainAttrs_dict PySem.F.slot_dict_get PySem.F.type_dict_get (fun a e => by cases e; exact ⟨o, ho, hex.2.1⟩) h
theorem daSet (pre : Led) {c : Nat} {n : Int} {t tv : Tok} {Q : Unit → Shared → Prop} (S : St g L s.heap m (pre ++ (d, isDA prog w f N) :: post)) (hN : N ≤ 1000)
    (h : ∀ h' tk, St g L h' m (pre ++ (d, isDA prog w (fun x => if x = c then n else f x) (N + 1)) :: post) → Q () { s with heap := h', toks := tk }) :
    wpAny (model prog w) A (setItem (.ref d) (.str (sw [c]) t) (.int n tv)) Q E s := by
  obtain ⟨o, ho, hex, es, ep, kvs, hdt, hk, hp, hnd, hl, hf⟩ := S.get (a := d) (P := isDA prog w f N) (by simp)
  have D : s.heap.DictOf (PySem.strKind prog w) d kvs := ⟨o, es, ep, ho, hex, hdt, hk, hp, hnd⟩
  refine wpAny_setItem_pairs (strKind_is _ _ _ _) D (fun h' hm' hs => h h' _ (S.upd hs ?_)) (by rw [sizeLine_eq]; omega)
  obtain ⟨o', es', ep', ho', hex', hdt', hk', hp', hnd'⟩ := hm'
  refine ⟨o', ho', hex', es', ep', _, hdt', hk', hp', hnd', ?_, fun x => ?_⟩
  · unfold stored; split <;> simp <;> omega
  · rw [valueAt_stored']
    by_cases hx : x = c
    · subst hx
      exact .inr ⟨tv, by simp⟩
    · have h3 : ¬ sw [x] = sw [c] := fun e => hx (by simpa using sw_inj.mp e)
      simp only [if_neg h3, if_neg hx]
      exact hf x
end
theorem Rm.u1 {k : Nat} {A : Around} (rm : Rm k A) (env : Env) : (A.deeper env).units + 1 < cLine := by have := rm.u; show A.units + 3 + 1 < 9900; omega
theorem St.dicts {prog : Program} {w : World} {g h : Heap} {L T d da : Addr} {PT : Obj → Prop} {m : Str → Option Value} (S : St g L h m [(T, PT), (da, isO emptyDict), (d, isO emptyDict)]) : St g L h m ((T, PT) :: ([(d, isDH prog w [])] ++ [(da, isDA prog w (fun _ => 0) 0)])) := by
  have nd := S.o.nd
  simp only [List.map_cons, List.map_nil, List.nodup_cons, List.mem_cons, List.not_mem_nil, or_false, not_or, List.nodup_nil, and_true, not_false_eq_true] at nd
  have S₂ := (S.sub (news' := [(da, isO emptyDict), (d, isO emptyDict), (T, PT)]) (by simp) (by simp; grind)).mono0 (da_empty (prog := prog) (w := w))
  have S₃ := (S₂.sub (news' := [(d, isO emptyDict), (da, isDA prog w (fun _ => 0) 0), (T, PT)]) (by simp) (by simp; grind)).mono0 (dh_empty (prog := prog) (w := w))
  exact S₃.sub (by simp) (by simp; grind)
theorem St.dict1 {prog : Program} {w : World} {g h : Heap} {L d : Addr} {m : Str → Option Value} (S : St g L h m [(d, isO emptyDict)]) : St g L h m ([(d, isDH prog w [])] ++ []) := S.mono0 (dh_empty (prog := prog) (w := w))
end
section
theorem args_min4 (a b c d : Value) : argsOk "min" ⟨[a, b, c, d], []⟩ := by unfold argsOk; kernel_rfl
section
variable {prog : Program} {w : World} {A : Around} {s : Shared} {g : Heap} {L : Addr} {m : Str → Option Value} {news : Led} {E : Value → Shared → Prop} {Q : Value → Shared → Prop}
theorem call_min_four {a b c d : Value} {Q : Value → Shared → Prop}
    (h : wpAny (model prog w) A.in1 (pyIter (.ref s.heap.objs.size)) (fun it s₂ => ∃ I fp wr n P St bt, it = .ref I ∧ Walks prog w A.in1 I fp wr n P St ∧ St 0 s₂.heap ∧ (∀ b ∈ fp, b < s₂.heap.objs.size) ∧ 0 < n ∧ CmpOf prog w A.in1 .Lt P bt ∧
      ∀ v h' tk, P (argBest bt (n - 1)) v → (∀ b o, b ∉ wr → s₂.heap.get? b = some o → h'.get? b = some o) → Q v { s₂ with heap := h', toks := tk }) E
      { s with heap := s.heap.push { cls := .type "tuple", data := .seq #[a, b, c, d] } }) :
    wpAny (model prog w) A (call (.builtin "min") [a, b, c, d]) Q E s := by
  have hname : (toString "min" ++ toString ".loop" : String) = "min.loop" := by decide
  refine call_function_tree F.kind_min F.plain_min F.entry_min (args_min4 _ _ _ _) ?_
  show wpAny _ A.in1 (Builtin.Builtins.bindParams "min" ["key", "default"] 0 ⟨[], []⟩ >>= _) _ _ s
  refine wpAny_bind (wpAny_of_eq (show Builtin.Builtins.bindParams "min" ["key", "default"] 0 ⟨[], []⟩ = pure [none, none] from rfl) ?_)
  show wpAny _ A.in1 (newTuple [a, b, c, d] >>= _) _ _ s
  refine wpAny_bind (wpAny_newObj_type ?_)
  refine wpAny_bind (wpAny_mono h (fun it s₂ h₂ => ?_) fun _ _ e => e)
  obtain ⟨I, fp, wr, n, P, St, bt, rfl, W, hst, hfp, hn, hcmp, hQ⟩ := h₂
  refine wpAny_bind (wpAny_newObj_type ?_)
  have hSf : s₂.heap.objs.size ∉ fp := fun hm => Nat.lt_irrefl _ (hfp _ hm)
  rw [hname]
  refine wpAny_pure ⟨plainId_quiet F.plain_min_loop _, codeAny_min_loop_first W bt hcmp s₂.heap.objs.size hSf hn (W.frame _ _ _ hst fun b _ o e => Heap.get?_push_of_some _ e) (Heap.get?_push_size _ rfl) fun v h' tk hP hk => ?_⟩
  exact hQ v h' tk hP fun b o hbw e => hk b o hbw (Nat.ne_of_lt (Heap.lt_size e)) (Heap.get?_push_of_some _ e)
theorem min4S {a b c d : Int} {t u x z : Tok} (hh : A.handled = none) (S : St g L s.heap m news) (h : ∀ h' tk t', St g L h' m news → Q (.int (min (min (min a b) c) d) t') { s with heap := h', toks := tk }) :
    wpAny (model prog w) A (call (.builtin "min") [.int a t, .int b u, .int c x, .int d z]) Q E s := by
  have S₁ := S.push (P := any) { cls := .type "tuple", data := .seq #[.int a t, .int b u, .int c x, .int d z] } trivial
  have hT : (s.heap.push { cls := .type "tuple", data := .seq #[.int a t, .int b u, .int c x, .int d z] }).IsTuple s.heap.objs.size (intItems #[(a, t), (b, u), (c, x), (d, z)]) := ⟨_, Heap.get?_push_size _ rfl, rfl, 0, by simp [intItems]⟩
  refine call_min_four (wpAny_pyIter_tuple hT ?_)
  have hsz : (s.heap.push { cls := .type "tuple", data := .seq #[.int a t, .int b u, .int c x, .int d z] }).objs.size = s.heap.objs.size + 1 := Heap.size_push ..
  refine ⟨_, [_, s.heap.objs.size], [_], _, _, _, _, rfl, Walks.tuple (A := A.in1) hh _ s.heap.objs.size (by rw [hsz]; exact Nat.ne_of_lt (Nat.lt_succ_self _)) (intItems #[(a, t), (b, u), (c, x), (d, z)]),
    ⟨⟨_, Heap.get?_push_size _ rfl, rfl, rfl⟩, hT.push _⟩, fun e he => ?_, by simp [intItems], CmpOf.ints_lt (numAt #[(a, t), (b, u), (c, x), (d, z)]) (fun _ _ => intItems_at), fun v h' tk hP hk => ?_⟩
  · show e < ((s.heap.push _).push _).objs.size
    rw [Heap.size_push, hsz]
    rcases List.mem_cons.mp he with rfl | he
    · rw [hsz]; exact Nat.lt_succ_self _
    · rcases List.mem_cons.mp he with rfl | he
      · exact Nat.lt_succ_of_lt (Nat.lt_succ_self _)
      · cases he
  · have hold : ∀ d o, s.heap.get? d = some o → h'.get? d = some o := fun d o e => by
      refine hk d o (fun hm => ?_) (Heap.get?_push_of_some _ (Heap.get?_push_of_some _ e))
      rcases List.mem_cons.mp hm with e1 | hm
      · have := Heap.lt_size e; rw [e1, hsz] at this; exact Nat.lt_irrefl _ (Nat.lt_of_succ_lt this)
      · cases hm
    obtain ⟨t', rfl⟩ := intItems_at hP
    have S' := S.keeps hold
    have e : numAt #[(a, t), (b, u), (c, x), (d, z)] (argBest (fun i j => decide (numAt #[(a, t), (b, u), (c, x), (d, z)] i < numAt #[(a, t), (b, u), (c, x), (d, z)] j)) 3) = min (min (min a b) c) d := by
      obtain ⟨h1, h2⟩ := argBest_lt (numAt #[(a, t), (b, u), (c, x), (d, z)]) 3
      have n0 : numAt #[(a, t), (b, u), (c, x), (d, z)] 0 = a := rfl
      have n1 : numAt #[(a, t), (b, u), (c, x), (d, z)] 1 = b := rfl
      have n2 : numAt #[(a, t), (b, u), (c, x), (d, z)] 2 = c := rfl
      have n3 : numAt #[(a, t), (b, u), (c, x), (d, z)] 3 = d := rfl
      have k0 := h2 0 (by omega)
      have k1 := h2 1 (by omega)
      have k2 := h2 2 (by omega)
      have k3 := h2 3 (by omega)
      generalize argBest (fun i j => decide (numAt #[(a, t), (b, u), (c, x), (d, z)] i < numAt #[(a, t), (b, u), (c, x), (d, z)] j)) 3 = y at *
      have : y = 0 ∨ y = 1 ∨ y = 2 ∨ y = 3 := by omega
      rcases this with rfl | rfl | rfl | rfl <;> omega
    have hsz2 : (intItems #[(a, t), (b, u), (c, x), (d, z)]).size - 1 = 3 := by simp [intItems]
    rw [hsz2, e]
    exact h h' tk t' S'
theorem dsetS0 {d T : Addr} {mu : Led} {F : Int → Int → Option Int} {N : Nat} {i j n : Int} {t u tv : Tok} {Q : Unit → Shared → Prop} (hu : A.units + 1 < cLine) (S : St g L s.heap m ((T, isT [.int i t, .int j u]) :: mu)) (D : DL prog w d F N mu) (hN : N ≤ 1000)
    (h : ∀ h' tk mu', DL prog w d (updF F i j n) (N + 1) mu' → St g L h' m mu' → Q () { s with heap := h', toks := tk }) :
    wpAny (model prog w) A (setItem (.ref d) (.ref T) (.int n tv)) Q E s :=
  dsetS (post := []) hu (by rw [List.append_nil]; exact S) D hN fun h' tk mu' D' S' => h h' tk mu' D' (by rw [List.append_nil] at S'; exact S')
theorem dgetS0 {d T : Addr} {mu : Led} {F : Int → Int → Option Int} {N : Nat} {value slice : Expr} {i j n : Int} {t u : Tok} (hu : A.units + 1 < cLine) (S : St g L s.heap m ((T, isT [.int i t, .int j u]) :: mu)) (D : DL prog w d F N mu) (hf : F i j = some n)
    (h : ∀ t' tk, St g L s.heap m mu → Q (.int n t') { s with toks := tk })
    (hs : subscripted slice false (.ref d) (.ref T) = operate [.ref d, .ref T] (getItem (.ref d) (.ref T)) := by with_unfolding_all rfl) :
    wpAny (model prog w) A (subscriptTail value slice (.ref d) (.ref T)) Q E s :=
  dgetS (post := []) hu (by rw [List.append_nil]; exact S) D hf (fun t' tk S' => h t' tk (by rw [List.append_nil] at S'; exact S')) hs
theorem cwTypeKW {env : Env} {pos : Pos} {T : String} {first : List Value} {e : Expr} {rest : List Expr} {kws : List Keyword} (hall : (backToKw pos (keywordEach kws env)).all (·.1.isSome) = true)
    (h : wpAny (model prog w) A (spliced (backTo pos (starEach (e :: rest) env))) (fun vs s₁ => wpAny (model prog w) A (evalAll ((backToKw pos (keywordEach kws env)).map (·.2)))
      (fun ks s₂ => wpAny (model prog w) A (call (.type T) (first ++ vs) (((backToKw pos (keywordEach kws env)).filterMap (·.1)).zip ks)) Q E s₂) E s₁) E s)
    (hplain : ((backTo pos (starEach (e :: rest) env)).any (·.1) || (backToKw pos (keywordEach kws env)).any (·.1.isNone)) = false := by rfl) (he : starEach (e :: rest) env = (false, eval e env) :: starEach rest env := by rfl) :
    wpAny (model prog w) A (callWith pos (.type T) first (backTo pos (starEach (e :: rest) env)) (backToKw pos (keywordEach kws env))) Q E s :=
  callWith_of (P := fun _ => True) hplain (fun h _ => ⟨.machine, .inr (.inl rfl), Looks.of_pure rfl⟩)
    (evalArgs_kw2 hall (wpAny_mono h (fun vs s₁ h₁ => wpAny_mono h₁ (fun ks s₂ h₂ => ⟨trivial, h₂⟩) fun _ _ x => x) fun _ _ x => x) he)
end
end
section
theorem args_min2 (a b : Value) : argsOk "min" ⟨[a, b], []⟩ := by unfold argsOk; kernel_rfl
section
variable {prog : Program} {w : World} {A : Around} {s : Shared} {g : Heap} {L : Addr} {m : Str → Option Value} {news : Led} {E : Value → Shared → Prop} {Q : Value → Shared → Prop}
theorem call_min_two {a b : Value} {Q : Value → Shared → Prop}
    (h : wpAny (model prog w) A.in1 (pyIter (.ref s.heap.objs.size)) (fun it s₂ => ∃ I fp wr n P St bt, it = .ref I ∧ Walks prog w A.in1 I fp wr n P St ∧ St 0 s₂.heap ∧ (∀ b ∈ fp, b < s₂.heap.objs.size) ∧ 0 < n ∧ CmpOf prog w A.in1 .Lt P bt ∧
      ∀ v h' tk, P (argBest bt (n - 1)) v → (∀ b o, b ∉ wr → s₂.heap.get? b = some o → h'.get? b = some o) → Q v { s₂ with heap := h', toks := tk }) E
      { s with heap := s.heap.push { cls := .type "tuple", data := .seq #[a, b] } }) :
    wpAny (model prog w) A (call (.builtin "min") [a, b]) Q E s := by
  have hname : (toString "min" ++ toString ".loop" : String) = "min.loop" := by decide
  refine call_function_tree F.kind_min F.plain_min F.entry_min (args_min2 _ _) ?_
  show wpAny _ A.in1 (Builtin.Builtins.bindParams "min" ["key", "default"] 0 ⟨[], []⟩ >>= _) _ _ s
  refine wpAny_bind (wpAny_of_eq (show Builtin.Builtins.bindParams "min" ["key", "default"] 0 ⟨[], []⟩ = pure [none, none] from rfl) ?_)
  show wpAny _ A.in1 (newTuple [a, b] >>= _) _ _ s
  refine wpAny_bind (wpAny_newObj_type ?_)
  refine wpAny_bind (wpAny_mono h (fun it s₂ h₂ => ?_) fun _ _ e => e)
  obtain ⟨I, fp, wr, n, P, St, bt, rfl, W, hst, hfp, hn, hcmp, hQ⟩ := h₂
  refine wpAny_bind (wpAny_newObj_type ?_)
  have hSf : s₂.heap.objs.size ∉ fp := fun hm => Nat.lt_irrefl _ (hfp _ hm)
  rw [hname]
  refine wpAny_pure ⟨plainId_quiet F.plain_min_loop _, codeAny_min_loop_first W bt hcmp s₂.heap.objs.size hSf hn (W.frame _ _ _ hst fun b _ o e => Heap.get?_push_of_some _ e) (Heap.get?_push_size _ rfl) fun v h' tk hP hk => ?_⟩
  exact hQ v h' tk hP fun b o hbw e => hk b o hbw (Nat.ne_of_lt (Heap.lt_size e)) (Heap.get?_push_of_some _ e)
theorem min2S {a b : Int} {t u : Tok} (hh : A.handled = none) (S : St g L s.heap m news) (h : ∀ h' tk t', St g L h' m news → Q (.int (min a b) t') { s with heap := h', toks := tk }) :
    wpAny (model prog w) A (call (.builtin "min") [.int a t, .int b u]) Q E s := by
  have S₁ := S.push (P := any) { cls := .type "tuple", data := .seq #[.int a t, .int b u] } trivial
  have hT : (s.heap.push { cls := .type "tuple", data := .seq #[.int a t, .int b u] }).IsTuple s.heap.objs.size (intItems #[(a, t), (b, u)]) := ⟨_, Heap.get?_push_size _ rfl, rfl, 0, by simp [intItems]⟩
  refine call_min_two (wpAny_pyIter_tuple hT ?_)
  have hsz : (s.heap.push { cls := .type "tuple", data := .seq #[.int a t, .int b u] }).objs.size = s.heap.objs.size + 1 := Heap.size_push ..
  refine ⟨_, [_, s.heap.objs.size], [_], _, _, _, _, rfl, Walks.tuple (A := A.in1) hh _ s.heap.objs.size (by rw [hsz]; exact Nat.ne_of_lt (Nat.lt_succ_self _)) (intItems #[(a, t), (b, u)]),
    ⟨⟨_, Heap.get?_push_size _ rfl, rfl, rfl⟩, hT.push _⟩, fun e he => ?_, by simp [intItems], CmpOf.ints_lt (numAt #[(a, t), (b, u)]) (fun _ _ => intItems_at), fun v h' tk hP hk => ?_⟩
  · show e < ((s.heap.push _).push _).objs.size
    rw [Heap.size_push, hsz]
    rcases List.mem_cons.mp he with rfl | he
    · rw [hsz]; exact Nat.lt_succ_self _
    · rcases List.mem_cons.mp he with rfl | he
      · exact Nat.lt_succ_of_lt (Nat.lt_succ_self _)
      · cases he
  · have hold : ∀ d o, s.heap.get? d = some o → h'.get? d = some o := fun d o e => by
      refine hk d o (fun hm => ?_) (Heap.get?_push_of_some _ (Heap.get?_push_of_some _ e))
      rcases List.mem_cons.mp hm with e1 | hm
      · have := Heap.lt_size e; rw [e1, hsz] at this; exact Nat.lt_irrefl _ (Nat.lt_of_succ_lt this)
      · cases hm
    obtain ⟨t', rfl⟩ := intItems_at hP
    have S' := S.keeps hold
    have e : numAt #[(a, t), (b, u)] (argBest (fun i j => decide (numAt #[(a, t), (b, u)] i < numAt #[(a, t), (b, u)] j)) 1) = min a b := by
      obtain ⟨h1, h2⟩ := argBest_lt (numAt #[(a, t), (b, u)]) 1
      have n0 : numAt #[(a, t), (b, u)] 0 = a := rfl
      have n1 : numAt #[(a, t), (b, u)] 1 = b := rfl
      have k0 := h2 0 (by omega)
      have k1 := h2 1 (by omega)
      generalize argBest (fun i j => decide (numAt #[(a, t), (b, u)] i < numAt #[(a, t), (b, u)] j)) 1 = y at *
      have : y = 0 ∨ y = 1 := by omega
      rcases this with rfl | rfl <;> omega
    have hsz2 : (intItems #[(a, t), (b, u)]).size - 1 = 1 := by simp [intItems]
    rw [hsz2, e]
    exact h h' tk t' S'
end
end
section
/-- a key: a word of one letter (z), or a tuple of such words -/
def isKey (prog : Program) (w : World) (z : Bool) (h : Heap) (k : List Nat) (v : Value) : Prop :=
  if z then ∃ c t, k = [c] ∧ v = .str (sw [c]) t else ∃ a, v = .ref a ∧ (tupleKind (PySem.strKind prog w)).is h (k.map fun c => sw [c]) a
def hashK (prog : Program) (w : World) (z : Bool) (k : List Nat) : Int :=
  if z then (PySem.strKind prog w).hash (sw k) else (tupleKind (PySem.strKind prog w)).hash (k.map fun c => sw [c])
theorem hashK_t (prog : Program) (w : World) (k : List Nat) : hashK prog w true k = (PySem.strKind prog w).hash (sw k) := by unfold hashK; rw [if_pos rfl]
theorem hashK_f (prog : Program) (w : World) (k : List Nat) : hashK prog w false k = (tupleKind (PySem.strKind prog w)).hash (k.map fun c => sw [c]) := by unfold hashK; rw [if_neg (by decide)]
abbrev KV := List (List Nat × Value × Value)
def entK (prog : Program) (w : World) (z : Bool) (x : List Nat × Value × Value) : DictEntry := ⟨hashK prog w z x.1, x.2.1, x.2.2⟩
def valK (xs : KV) (k : List Nat) : Option Value := (xs.find? fun x => decide (x.1 = k)).map (·.2.2)
def putK (xs : KV) (k : List Nat) (key v : Value) : KV :=
  if (xs.any fun x => decide (x.1 = k)) then xs.map (fun x => if x.1 = k then (x.1, x.2.1, v) else x) else xs ++ [(k, key, v)]
structure KeysIn (prog : Program) (w : World) (z : Bool) (h : Heap) (xs : KV) : Prop where
  is : ∀ x ∈ xs, isKey prog w z h x.1 x.2.1
  nd : (xs.map (·.1)).Nodup
/-- a dict, or an own class's dict -/
def isM (prog : Program) (w : World) (z : Bool) (C : Value) (dx : Option Addr) (xs : KV) : Obj → Prop := fun o => o.cls = C ∧ o.dict = dx ∧ o.slots = #[] ∧ ∃ es ep, o.data = .dict es ep ∧ es.toList = xs.map (entK prog w z)
theorem sw1_inj {a b : List Nat} (h : (a.map fun c => sw [c]) = b.map fun c => sw [c]) : a = b := by
  induction a generalizing b with
  | nil => cases b with | nil => rfl | cons _ _ => cases h
  | cons x a ih =>
    cases b with
    | nil => cases h
    | cons y b =>
      rw [List.map_cons, List.map_cons] at h
      injection h with h1 h2
      have h3 := sw_inj.mp h1
      injection h3 with h3
      rw [h3, ih h2]
theorem isTupleKey_keeps {prog : Program} {w : World} {h h' : Heap} {ks : List Str} {a : Addr} (x : (tupleKind (PySem.strKind prog w)).is h ks a) (k : Sub h h') : (tupleKind (PySem.strKind prog w)).is h' ks a := by
  obtain ⟨o, items, n, ho, r⟩ := x
  exact ⟨o, items, n, k _ _ ho, r⟩
theorem isKey.keeps {prog : Program} {w : World} {z : Bool} {h h' : Heap} {k : List Nat} {v : Value} (x : isKey prog w z h k v) (s : Sub h h') : isKey prog w z h' k v := by
  unfold isKey at *
  split
  · rename_i hz; rw [if_pos hz] at x; exact x
  · rename_i hz; rw [if_neg hz] at x
    obtain ⟨a, e, y⟩ := x
    exact ⟨a, e, isTupleKey_keeps y s⟩
theorem KeysIn.keeps {prog : Program} {w : World} {z : Bool} {h h' : Heap} {xs : KV} (x : KeysIn prog w z h xs) (s : Sub h h') : KeysIn prog w z h' xs := ⟨fun y hy => (x.is y hy).keeps s, x.nd⟩
theorem KeysIn.nil {prog : Program} {w : World} {z : Bool} {h : Heap} : KeysIn prog w z h [] := ⟨fun _ h => by simp at h, List.nodup_nil⟩
theorem ItemsAre.letters {prog : Program} {w : World} {vs : List Value} {k : List Nat} (h : StrsAre vs (k.map fun c => sw [c])) : ItemsAre (PySem.strKind prog w) (k.map fun c => sw [c]) vs := by
  induction k generalizing vs with
  | nil => cases h; exact .nil
  | cons c k ih =>
    cases h with
    | cons _ t h => exact .cons (strKind_is _ _ _ _) (ih h)
theorem isKey.tup {prog : Program} {w : World} {h : Heap} {k : List Nat} {a : Addr} {vs : List Value} (x : At h (a, isT vs)) (e : StrsAre vs (k.map fun c => sw [c])) : isKey prog w false h k (.ref a) := by
  unfold isKey
  rw [if_neg (by decide)]
  obtain ⟨o, ho, hc, n, hd⟩ := x
  exact ⟨a, rfl, o, _, n, ho, hc, hd, ItemsAre.letters (by simpa using e)⟩
theorem isKey.one {prog : Program} {w : World} {h : Heap} {c : Nat} {t : Tok} : isKey prog w true h [c] (.str (sw [c]) t) := by
  unfold isKey
  rw [if_pos rfl]
  exact ⟨c, t, rfl, rfl⟩
theorem putK_new {xs : KV} {k : List Nat} (h : xs.findIdx? (fun x => decide (x.1 = k)) = none) (key v : Value) : putK xs k key v = xs ++ [(k, key, v)] := by
  unfold putK
  rw [if_neg]
  rw [List.findIdx?_eq_none_iff] at h
  intro q
  obtain ⟨x, hx, e⟩ := List.any_eq_true.mp q
  rw [h x hx] at e; cases e
theorem putK_old {xs : KV} {k : List Nat} {i : Nat} (h : xs.findIdx? (fun x => decide (x.1 = k)) = some i) (key v : Value) : putK xs k key v = xs.map (fun x => if x.1 = k then (x.1, x.2.1, v) else x) := by
  unfold putK
  rw [if_pos]
  obtain ⟨hlt, hp, _⟩ := List.findIdx?_eq_some_iff_getElem.mp h
  exact List.any_eq_true.mpr ⟨xs[i], List.getElem_mem hlt, hp⟩
theorem valK_idx {xs : KV} {k : List Nat} : valK xs k = (xs.findIdx? fun x => decide (x.1 = k)).bind fun i => (xs[i]?).map (·.2.2) := by
  unfold valK
  induction xs with
  | nil => rfl
  | cons x xs ih =>
    rw [List.find?_cons, List.findIdx?_cons]
    cases hq : decide (x.1 = k) with
    | true => simp
    | false =>
      simp only [Bool.false_eq_true, if_false]
      rw [ih]
      cases xs.findIdx? fun x => decide (x.1 = k) <;> simp
theorem putK_keys {xs : KV} {k : List Nat} {key v : Value} : (putK xs k key v).map (·.1) = if k ∈ xs.map (·.1) then xs.map (·.1) else xs.map (·.1) ++ [k] := by
  unfold putK
  by_cases h : k ∈ xs.map (·.1)
  · rw [if_pos h]
    obtain ⟨x, hx, e⟩ := List.mem_map.mp h
    rw [if_pos (List.any_eq_true.mpr ⟨x, hx, decide_eq_true e⟩), List.map_map]
    refine List.map_congr_left fun y _ => ?_
    simp only [Function.comp]
    split <;> rfl
  · rw [if_neg h, if_neg, List.map_append]
    · rfl
    · intro q
      obtain ⟨x, hx, e⟩ := List.any_eq_true.mp q
      exact h (List.mem_map.mpr ⟨x, hx, of_decide_eq_true e⟩)
theorem putK_val {xs : KV} {k k' : List Nat} {key v : Value} : valK (putK xs k key v) k' = if k' = k then some v else valK xs k' := by
  have put : ∀ ys : KV, valK (ys.map (fun x => if x.1 = k then (x.1, x.2.1, v) else x)) k' = if k' = k ∧ (ys.any fun x => decide (x.1 = k)) then some v else valK ys k' := by
    intro ys
    induction ys with
    | nil => simp [valK]
    | cons y ys ih =>
      obtain ⟨ky, ay, vy⟩ := y
      unfold valK at ih ⊢
      simp only [List.map_cons, List.find?_cons, List.any_cons]
      by_cases h1 : ky = k
      · subst h1
        by_cases h2 : ky = k'
        · subst h2; simp
        · have h3 : ¬ k' = ky := fun e => h2 e.symm
          simp only [if_true, h2, decide_false, h3, false_and, if_false] at ih ⊢
          simpa using ih
      · have d1 : decide (ky = k) = false := decide_eq_false h1
        by_cases h2 : ky = k'
        · subst h2; simp [h1]
        · have d2 : decide (ky = k') = false := decide_eq_false h2
          simp only [if_neg h1, d1, d2, Bool.false_or]
          exact ih
  unfold putK
  split
  · rename_i hs
    rw [put]
    simp [hs]
  · rename_i hs
    unfold valK
    rw [List.find?_append]
    by_cases h2 : k' = k
    · subst h2
      have : xs.find? (fun x => decide (x.1 = k')) = none := by
        rw [List.find?_eq_none]
        intro z hz e
        exact hs (List.any_eq_true.mpr ⟨z, hz, e⟩)
      simp [this]
    · have h3 : ¬ k = k' := fun e => h2 e.symm
      simp [h2, h3]
theorem KeysIn.put {prog : Program} {w : World} {z : Bool} {h : Heap} {xs : KV} {k : List Nat} {key v : Value} (x : KeysIn prog w z h xs) (hk : isKey prog w z h k key) : KeysIn prog w z h (putK xs k key v) := by
  refine ⟨fun y hy => ?_, ?_⟩
  · unfold putK at hy
    split at hy
    · obtain ⟨u, hu, rfl⟩ := List.mem_map.mp hy
      have := x.is u hu
      split <;> exact this
    · rcases List.mem_append.mp hy with hy | hy
      · exact x.is y hy
      · rw [List.mem_singleton.mp hy]; exact hk
  · rw [putK_keys]
    split
    · exact x.nd
    · rename_i hn
      exact List.nodup_append.mpr ⟨x.nd, by simp, fun a ha b hb e => hn (by rw [List.mem_singleton.mp hb] at e; exact e ▸ ha)⟩
section
variable {prog : Program} {w : World} {A : Around} {E : Value → Shared → Prop} {s : Shared} {z : Bool} {d : Addr} {k : List Nat} {key v : Value} {xs : KV}
theorem strPairs {es : List DictEntry} {xs : KV} {h : Heap} (he : es = xs.map (entK prog w true)) (K : ∀ x ∈ xs, isKey prog w true h x.1 x.2.1) :
    (∀ e ∈ es, ∃ k, (PySem.strKind prog w).is k e.key = true ∧ e.hash = (PySem.strKind prog w).hash k) ∧ ∀ c, es.findIdx? (fun e => (PySem.strKind prog w).is (sw [c]) e.key) = xs.findIdx? fun x => decide (x.1 = [c]) := by
  subst he
  constructor
  · intro e he
    obtain ⟨x, hx, rfl⟩ := List.mem_map.mp he
    have := K x hx
    unfold isKey at this
    rw [if_pos rfl] at this
    obtain ⟨c, t, e1, e2⟩ := this
    refine ⟨sw x.1, ?_, hashK_t prog w x.1⟩
    show (PySem.strKind prog w).is (sw x.1) x.2.1 = true
    rw [e2, e1]; exact strKind_is _ _ _ _
  · intro c
    rw [List.findIdx?_map]
    have : ∀ xs : KV, (∀ x ∈ xs, isKey prog w true h x.1 x.2.1) → xs.findIdx? ((fun e : DictEntry => (PySem.strKind prog w).is (sw [c]) e.key) ∘ entK prog w true) = xs.findIdx? fun x => decide (x.1 = [c]) := by
      intro xs
      induction xs with
      | nil => intro _; rfl
      | cons x xs ih =>
        intro K
        rw [List.findIdx?_cons, List.findIdx?_cons, ih fun y hy => K y (.tail _ hy)]
        have q := K x (.head _)
        unfold isKey at q
        rw [if_pos rfl] at q
        obtain ⟨c', t, e1, e2⟩ := q
        have : ((fun e : DictEntry => (PySem.strKind prog w).is (sw [c]) e.key) ∘ entK prog w true) x = decide (x.1 = [c]) := by
          show (PySem.strKind prog w).is (sw [c]) x.2.1 = _
          rw [e2, KeyKind.is_eq_decide (strKind_is prog w (sw [c']) t), e1]
          by_cases hc : c = c'
          · subst hc; simp
          · have h1 : ¬ sw [c] = sw [c'] := fun e => hc (by simpa using sw_inj.mp e)
            have h2 : ¬ [c'] = [c] := fun e => hc (by simpa using e.symm)
            rw [decide_eq_false h1, decide_eq_false h2]
        rw [this]
    exact this xs K
theorem find_K {o : Obj} {es ep} {Q : Option Nat → Shared → Prop} (hu : A.units < cLine) (hk : isKey prog w z s.heap k key) (ho : s.heap.get? d = some o) (hd : o.data = .dict es ep) (he : es.toList = xs.map (entK prog w z))
    (K : KeysIn prog w z s.heap xs) (h : Q (xs.findIdx? fun x => decide (x.1 = k)) s) : wpAny (model prog w) A (dictFind d key (hashK prog w z k)) Q E s := by
  cases z with
  | true =>
    have hk0 := hk
    unfold isKey at hk
    rw [if_pos rfl] at hk
    obtain ⟨c, t, rfl, rfl⟩ := hk
    obtain ⟨p1, p2⟩ := strPairs he K.is
    rw [hashK_t]
    refine wpAny_dictFind_of (knd := PySem.strKind prog w) (k := sw [c]) (strKind_is _ _ _ _) ho hd (fun e he => p1 e (Array.mem_toList_iff.mpr he)) ?_
    have e : (es.findIdx? fun e => (PySem.strKind prog w).is (sw [c]) e.key) = xs.findIdx? fun x => decide (x.1 = [c]) := by
      rw [← p2 c, ← List.findIdx?_toArray]
    rw [e]; exact h
  | false =>
    unfold isKey at hk
    rw [if_neg (by decide)] at hk
    obtain ⟨a, rfl, hk⟩ := hk
    have K' : ∀ x ∈ xs, ∃ a, x.2.1 = .ref a ∧ (tupleKind (PySem.strKind prog w)).is s.heap (x.1.map fun c => sw [c]) a := fun x hx => by
      have := K.is x hx
      unfold isKey at this
      rw [if_neg (by decide)] at this
      exact this
    let ad : Value → Addr := fun v => match v with | .ref a => a | _ => 0
    have e1 : ∀ x ∈ xs, x.2.1 = .ref (ad x.2.1) ∧ (tupleKind (PySem.strKind prog w)).is s.heap (x.1.map fun c => sw [c]) (ad x.2.1) := fun x hx => by
      obtain ⟨a, e, y⟩ := K' x hx
      rw [e]; exact ⟨rfl, y⟩
    let ys : List (List Str × Addr × Value) := xs.map fun x => (x.1.map fun c => sw [c], ad x.2.1, x.2.2)
    have hy : es.toList = ys.map (entryOfKey (tupleKind (PySem.strKind prog w))) := by
      rw [he, List.map_map]
      refine List.map_congr_left fun x hx => ?_
      simp only [Function.comp, entryOfKey, entK, hashK_f]
      have e := (e1 x hx).1
      exact congrArg (fun u => DictEntry.mk _ u x.2.2) e
    have hsome : ∀ j p, ys[j]? = some (k.map fun c => sw [c], p) → xs.findIdx? (fun x => decide (x.1 = k)) = some j := by
      intro j p hj
      rw [List.getElem?_map] at hj
      obtain ⟨x, hx, e⟩ := Option.map_eq_some_iff.mp hj
      injection e with e _
      have e2 := sw1_inj e
      obtain ⟨hlt, hx2⟩ := List.getElem?_eq_some_iff.mp hx
      refine List.findIdx?_eq_some_iff_getElem.mpr ⟨hlt, by rw [hx2]; exact decide_eq_true e2, fun i hij => ?_⟩
      have hne : xs[i].1 ≠ k := fun q => by
        have h1 : (xs.map (·.1))[i]? = some k := by rw [List.getElem?_map, List.getElem?_eq_getElem (by omega)]; simp [q]
        have h2 : (xs.map (·.1))[j]? = some k := by rw [List.getElem?_map, hx]; simp [e2]
        have := (List.getElem?_inj (by simpa using (by omega : i < xs.length)) K.nd).mp (h1.trans h2.symm)
        omega
      simpa using hne
    rw [hashK_f]
    refine wpAny_dictFind_heap (knd := tupleKind (PySem.strKind prog w)) (k := k.map fun c => sw [c]) (xs := ys) hu hk ho hd hy (fun y hy' => ?_) ?_ (fun hno => ?_) fun j p hj => ?_
    · obtain ⟨x, hx, rfl⟩ := List.mem_map.mp hy'
      exact (e1 x hx).2
    · have : ys.map (·.1) = (xs.map (·.1)).map fun k => k.map fun c => sw [c] := by
        show (xs.map _).map _ = _
        rw [List.map_map, List.map_map]; rfl
      rw [this]
      exact List.pairwise_map.mpr (K.nd.imp fun hab e => hab (sw1_inj e))
    · have : xs.findIdx? (fun x => decide (x.1 = k)) = none := by
        rw [List.findIdx?_eq_none_iff]
        intro x hx
        refine decide_eq_false fun e => ?_
        obtain ⟨j, hj⟩ := List.mem_iff_getElem?.mp hx
        refine hno j (ad x.2.1, x.2.2) ?_
        rw [List.getElem?_map, hj]
        simp [e]
      rw [this] at h; exact h
    · rw [hsome j p hj] at h; exact h
theorem hash_K {Q : Int → Shared → Prop} (hu : A.units < cLine) (hk : isKey prog w z s.heap k key) (h : ∀ tk, Q (hashK prog w z k) { s with toks := tk }) : wpAny (model prog w) A (PySem.pyHash key) Q E s := by
  cases z with
  | true =>
    unfold isKey at hk
    rw [if_pos rfl] at hk
    obtain ⟨c, t, rfl, rfl⟩ := hk
    refine (PySem.strKind prog w).pyHash (strKind_is _ _ _ _) ?_
    have := h (s.toks + 1)
    rw [hashK_t] at this
    exact this
  | false =>
    unfold isKey at hk
    rw [if_neg (by decide)] at hk
    obtain ⟨a, rfl, hk⟩ := hk
    refine (tupleKind (PySem.strKind prog w)).pyHash hu hk ?_
    have := h (s.toks + (tupleKind (PySem.strKind prog w)).draws (k.map fun c => sw [c]))
    rw [hashK_f] at this
    exact this
theorem get_K {C : Value} {dx : Option Addr} {Q : Option Value → Shared → Prop} (hu : A.units < cLine) (hk : isKey prog w z s.heap k key) (hm : At s.heap (d, isM prog w z C dx xs)) (K : KeysIn prog w z s.heap xs)
    (h : ∀ tk, Q (valK xs k) { s with toks := tk }) : wpAny (model prog w) A (dictGet d key) Q E s := by
  obtain ⟨o, ho, hc, hdx, hsl, es, ep, hd, he⟩ := hm
  unfold dictGet
  try with_reducible refine wpAny_holding ?_
  refine wpAny_bind (hash_K hu hk fun tk => wpAny_bind (find_K (s := { s with toks := tk }) hu hk ho hd he K ?_))
  have h' := h tk
  rw [valK_idx] at h'
  cases hi : xs.findIdx? fun x => decide (x.1 = k) with
  | none => rw [hi] at h'; exact wpAny_pure h'
  | some i =>
    rw [hi] at h'
    refine wpAny_bind (wpAny_dictEntries (s := { s with toks := tk }) ho hd (wpAny_pure ?_))
    rw [← Array.getElem?_toList, he, List.getElem?_map]
    have : Option.map (fun x => x.val) (Option.map (entK prog w z) xs[i]?) = (xs[i]?).map (·.2.2) := by rw [Option.map_map]; rfl
    rw [this]; exact h'
theorem setH_K {C : Value} {dx : Option Addr} {Q : Unit → Shared → Prop} (hu : A.units < cLine) (hk : isKey prog w z s.heap k key) (hm : At s.heap (d, isM prog w z C dx xs)) (K : KeysIn prog w z s.heap xs) (hz : xs.length ≤ 1000)
    (h : ∀ h', At h' (d, isM prog w z C dx (putK xs k key v)) → Heap.SameBut d s.heap h' → Q () { s with heap := h' }) : wpAny (model prog w) A (dictSetHashed d key (hashK prog w z k) v) Q E s := by
  obtain ⟨o, ho, hc, hdx, hsl, es, ep, hd, he⟩ := hm
  have hsz : es.size = xs.length := by rw [← Array.length_toList, he, List.length_map]
  unfold dictSetHashed
  try with_reducible refine wpAny_holding ?_
  refine wpAny_bind (find_K hu hk ho hd he K ?_)
  cases hi : xs.findIdx? fun x => decide (x.1 = k) with
  | none =>
    refine wpAny_bind (wpAny_rule (wpAny_updateDictKeys (hz := by rw [sizeLine_eq]; omega) ho hd (h _ ⟨_, Heap.get?_update_self _ ho (Obj.isFreed_of_dict (Obj.data_mapDictKeys hd _)), ?_, ?_, ?_, _, ep + 1, Obj.data_mapDictKeys hd _, ?_⟩ (Heap.SameBut.update ..))))
    · obtain ⟨c, d, dt, sl⟩ := o; simp only at hd; subst hd; exact hc
    · obtain ⟨c, d, dt, sl⟩ := o; simp only at hd; subst hd; exact hdx
    · obtain ⟨c, d, dt, sl⟩ := o; simp only at hd; subst hd; exact hsl
    · rw [putK_new hi]
      simp [he, entK]
  | some i =>
    refine wpAny_bind (wpAny_rule (wpAny_bind (wpAny_updateDict ho hd (wpAny_point (h _ ⟨_, Heap.get?_update_self _ ho (Obj.isFreed_of_dict (Obj.data_mapDict hd _)), ?_, ?_, ?_, _, ep, Obj.data_mapDict hd _, ?_⟩ (Heap.SameBut.update ..))))))
    · obtain ⟨c, d, dt, sl⟩ := o; simp only at hd; subst hd; exact hc
    · obtain ⟨c, d, dt, sl⟩ := o; simp only at hd; subst hd; exact hdx
    · obtain ⟨c, d, dt, sl⟩ := o; simp only at hd; subst hd; exact hsl
    · rw [putK_old hi]
      obtain ⟨hlt, hp, hmin⟩ := List.findIdx?_eq_some_iff_getElem.mp hi
      rw [Array.toList_modify, he]
      apply List.ext_getElem?
      intro j
      rw [List.getElem?_modify, List.getElem?_map, List.getElem?_map, List.getElem?_map]
      cases hj : xs[j]? with
      | none => simp
      | some x =>
        simp only [Option.map_some, Option.map_eq_map]
        by_cases hij : i = j
        · subst hij
          rw [if_pos rfl]
          have e : x.1 = k := by
            rw [List.getElem?_eq_getElem hlt] at hj
            cases hj; exact of_decide_eq_true hp
          rw [if_pos e]
          simp only [if_true, entK]
        · simp only [if_neg hij]
          have e : ¬ x.1 = k := fun e => by
            have h1 : (xs.map (·.1))[i]? = some k := by rw [List.getElem?_map, List.getElem?_eq_getElem hlt]; simp [of_decide_eq_true hp]
            have h2 : (xs.map (·.1))[j]? = some k := by rw [List.getElem?_map, hj]; simp [e]
            exact hij ((List.getElem?_inj (by simpa using hlt) K.nd).mp (h1.trans h2.symm))
          rw [if_neg e]
theorem set_K {C : Value} {dx : Option Addr} {Q : Unit → Shared → Prop} (hu : A.units < cLine) (hk : isKey prog w z s.heap k key) (hm : At s.heap (d, isM prog w z C dx xs)) (K : KeysIn prog w z s.heap xs) (hz : xs.length ≤ 1000)
    (h : ∀ h' tk, At h' (d, isM prog w z C dx (putK xs k key v)) → Heap.SameBut d s.heap h' → Q () { s with heap := h', toks := tk }) : wpAny (model prog w) A (dictSet d key v) Q E s := by
  unfold dictSet
  try with_reducible refine wpAny_holding ?_
  exact wpAny_bind (hash_K hu hk fun tk => setH_K (s := { s with toks := tk }) hu hk hm K hz fun h' a b => h h' tk a b)
end
end
section
/-- a dict's class: dict itself, or the text's Counter -/
structure DCls (M : Model) (h : Heap) (C : Value) : Prop where
  sub : Looks M h (isSubtype C (.type "dict")) true
  deque : C = .type "dict" ∨ ∃ c, C = .ref c ∧ Looks M h (isSubtype (.ref c) (.type "collections.deque")) false
  getitem : Looks M h (typeLookup C "__getitem__") (some (.builtin "dict.__getitem__"))
  setitem : Looks M h (typeLookup C "__setitem__") (some (.builtin "dict.__setitem__"))
  contains : Looks M h (typeLookup C "__contains__") (some (.builtin "dict.__contains__"))
  iter : Looks M h (typeLookup C "__iter__") (some (.builtin "dict.__iter__"))
theorem ctr_cls {M : Model} {w : World} {h : Heap} (X : (K1 w.params).In h) : DCls M h (.ref 74) where
  sub := looks_subIn X (by k_is)
  deque := .inr ⟨_, rfl, looks_subIn X (by k_is)⟩
  getitem := looks_findIn X (by k_is)
  setitem := looks_findIn X (by k_is)
  contains := looks_findIn X (by k_is)
  iter := looks_findIn X (by k_is)
theorem dict_cls {M : Model} {h : Heap} : DCls M h (.type "dict") where
  sub := Looks.of_pure (by rw [isSubtype_type]; kernel_rfl)
  deque := .inl rfl
  getitem := Looks.of_pure PySem.slot_dict_getitem.lookup
  setitem := Looks.of_pure PySem.slot_dict_setitem.lookup
  contains := Looks.of_pure PySem.slot_dict_contains.lookup
  iter := Looks.of_pure PySem.F.slot_dict_iter.lookup
section
variable {prog : Program} {w : World} {A : Around} {E : Value → Shared → Prop} {s : Shared} {z : Bool} {d : Addr} {k : List Nat} {key v : Value} {xs : KV} {C : Value} {dx : Option Addr}
theorem typ_M {M : Model} {h : Heap} (hm : At h (d, isM prog w z C dx xs)) : Looks M h (typeOf (.ref d)) C := by
  obtain ⟨o, ho, hc, _⟩ := hm
  subst hc
  exact (Looks.ld ho).andThen .now
theorem seqKey_M {Q : Value → Shared → Prop} {name : Str} (Y : DCls (model prog w) s.heap C) (hm : At s.heap (d, isM prog w z C dx xs)) (h : Q key s) : wpAny (model prog w) A (sequenceKey (.ref d) key name) Q E s := by
  unfold sequenceKey
  refine wpAny_bind ((typ_M hm).here ?_)
  rcases Y.deque with rfl | ⟨c, rfl, l⟩
  · show wpAny _ _ (if (!seqItemTypes.contains "dict") = true then _ else _) _ _ _
    rw [if_pos (by decide)]
    exact wpAny_pure h
  · show wpAny _ _ (seqItemTypes.anyM (fun n => isSubtype (.ref c) (.type n)) >>= _) _ _ _
    show wpAny _ _ ((["collections.deque"] : List String).anyM (fun n => isSubtype (.ref c) (.type n)) >>= _) _ _ _
    simp only [List.anyM]
    refine wpAny_bind (wpAny_bind (l.here ?_))
    refine wpAny_pure ?_
    exact wpAny_pure h
theorem check_sm {M : Model} {i owner n : String} {self : Value} {rest : List Value} {kw : List (Str × Value)} {Q : Unit → Shared → Prop}
    (hk : builtinKind i = some .slot ∨ builtinKind i = some .method) (hs : splitId i = some (owner, n)) (hi : Looks M s.heap (isInstance self (.type owner)) true) (ha : argsOk i ⟨self :: rest, kw⟩) (q : Q () s) :
    wpAny M A (checkBuiltinCall i ⟨self :: rest, kw⟩) Q E s := by
  rcases hk with hk | hk
  · exact check_slot hk hs hi ha q
  · simp only [checkBuiltinCall, hk, hs]
    refine wpAny_bind (hi.here ?_)
    simp only [Bool.not_true, Bool.false_eq_true, if_false]
    cases hsig : Manifest.signature? i with
    | none => exact wpAny_pure q
    | some sig =>
      simp only [argsOk, hsig] at ha
      have h2 : Bind.checkArgs i sig ⟨self :: rest, kw⟩ = pure () := ha
      show wpAny M A (Bind.checkArgs i sig ⟨self :: rest, kw⟩) Q E s
      rw [h2]; exact wpAny_pure q
/-- a dict's slot is called on one of these -/
theorem slot_M {id n : String} {args : List Value} {R : Result → Shared → Prop} {B : Builtin} (Y : DCls (model prog w) s.heap C) (hm : At s.heap (d, isM prog w z C dx xs)) (hp : plainId id = true) (he : entryFor table id = some B)
    (hk : builtinKind id = some .slot ∨ builtinKind id = some .method) (hs : splitId id = some ("dict", n)) (ha : argsOk id ⟨.ref d :: args, []⟩)
    (q : wpAny (model prog w) A.in1 (B ⟨.ref d :: args, []⟩) (fun fin s' => match fin with | .done f => R (.ok f) s' | .again c' => c'.quiet = true ∧ codeAny (model prog w) A c' R s') (fun e s' => R (.error e) s') s) :
    codeAny (model prog w) A (.call (.builtin id) ⟨.ref d :: args, []⟩) R s := by
  refine codeAny_call_builtin hp he ?_
  exact check_sm hk hs ((typ_M hm).andThen Y.sub) ha q
theorem getItem_M {Q : Value → Shared → Prop} (hu : A.units + 1 < cLine) (Y : DCls (model prog w) s.heap C) (hk : isKey prog w z s.heap k key) (hm : At s.heap (d, isM prog w z C dx xs)) (K : KeysIn prog w z s.heap xs) (hv : valK xs k = some v)
    (h : ∀ tk, Q v { s with toks := tk }) : wpAny (model prog w) A (getItem (.ref d) key) Q E s := by
  unfold getItem
  try with_reducible refine wpAny_holding ?_
  refine wpAny_bind (seqKey_M Y hm ?_)
  unfold callSpecial? specialOf
  refine wpAny_bind (wpAny_bind (wpAny_bind ((typ_M hm).here (Y.getitem.here ?_))))
  dsimp only
  refine wpAny_holding ?_
  rw [PySem.slot_dict_getitem.bind]
  refine wpAny_bind (wpAny_pure ?_)
  refine wpAny_bind (wpAny_call (slot_M (n := "__getitem__") Y hm PySem.slot_dict_getitem.plain PySem.entry_dict_getitem (.inr (by decide +kernel)) (by decide +kernel) (PySem.args_dict_getitem _ _) ?_))
  show wpAny _ _ (dictGet d key >>= _) _ _ s
  refine wpAny_bind (get_K (A := A.in1) hu hk hm K fun tk => ?_)
  rw [hv]
  exact wpAny_pure (wpAny_pure (wpAny_pure (h tk)))
theorem setItem_M {Q : Unit → Shared → Prop} (hu : A.units + 1 < cLine) (Y : DCls (model prog w) s.heap C) (hk : isKey prog w z s.heap k key) (hm : At s.heap (d, isM prog w z C dx xs)) (K : KeysIn prog w z s.heap xs) (hz : xs.length ≤ 1000)
    (ho : Looks (model prog w) s.heap (isInstance (.ref d) (.type "collections.OrderedDict")) false ∨ C = .type "dict")
    (h : ∀ h' tk, At h' (d, isM prog w z C dx (putK xs k key v)) → Heap.SameBut d s.heap h' → Q () { s with heap := h', toks := tk }) : wpAny (model prog w) A (setItem (.ref d) key v) Q E s := by
  unfold setItem
  try with_reducible refine wpAny_holding ?_
  refine wpAny_bind (seqKey_M Y hm ?_)
  unfold callSpecial? specialOf
  refine wpAny_bind (wpAny_bind (wpAny_bind ((typ_M hm).here (Y.setitem.here ?_))))
  dsimp only
  refine wpAny_holding ?_
  rw [PySem.slot_dict_setitem.bind]
  refine wpAny_bind (wpAny_pure ?_)
  refine wpAny_bind (wpAny_call (slot_M (n := "__setitem__") Y hm PySem.slot_dict_setitem.plain PySem.entry_dict_setitem (.inl (by decide +kernel)) (by decide +kernel) (PySem.args_dict_setitem _ _ _) ?_))
  show wpAny _ _ (Builtin.Dict.notOrdered "__setitem__" ⟨[.ref d, key, v], []⟩ >>= _) _ _ s
  refine wpAny_bind ?_
  have no : ∀ {Q : Unit → Shared → Prop} {E : Value → Shared → Prop}, Q () s → wpAny (model prog w) A.in1 (Builtin.Dict.notOrdered "__setitem__" ⟨[.ref d, key, v], []⟩) Q E s := by
    intro Q E q
    unfold Builtin.Dict.notOrdered
    rw [if_pos (by decide)]
    refine wpAny_bind ((typ_M hm).here ?_)
    rcases ho with ho | rfl
    · split
      · refine wpAny_bind (ho.here ?_)
        simp only [Bool.false_eq_true, if_false]
        exact wpAny_pure q
      · exact wpAny_pure q
    · rw [if_neg (by decide)]
      exact wpAny_pure q
  refine no ?_
  show wpAny _ _ (dictSet d key v >>= _) _ _ s
  exact wpAny_bind (set_K (A := A.in1) hu hk hm K hz fun h' tk a b => wpAny_pure (wpAny_pure (wpAny_pure (h h' tk a b))))
theorem ord_no {w : World} {M : Model} {h : Heap} (X : (K1 w.params).In h) (hm : At h (d, isM prog w z (.ref 74) dx xs)) : Looks M h (isInstance (.ref d) (.type "collections.OrderedDict")) false :=
  (typ_M hm).andThen (looks_subIn X (by k_is))
theorem contains_M {Q : Value → Shared → Prop} (hu : A.units + 1 < cLine) (Y : DCls (model prog w) s.heap C) (hd : (d == sysModules) = false) (hk : isKey prog w z s.heap k key) (hm : At s.heap (d, isM prog w z C dx xs)) (K : KeysIn prog w z s.heap xs)
    (h : ∀ tk, Q (.bool (valK xs k).isSome) { s with toks := tk }) : wpAny (model prog w) A (compareOp .In key (.ref d)) Q E s := by
  show wpAny _ _ (do return .bool (← contains (.ref d) key)) Q E s
  refine wpAny_bind ?_
  unfold contains
  try with_reducible refine wpAny_holding ?_
  have stuck : stdlibNamesSay? (.ref d) key = none := rfl
  simp only [stuck]
  unfold specialOf
  refine wpAny_bind (wpAny_bind ((typ_M hm).here (Y.contains.here ?_)))
  rw [if_neg (by rw [PySem.beq_builtin_none]; exact Bool.false_ne_true)]
  unfold callSpecialUnlessNone? specialOf
  refine wpAny_bind (wpAny_bind (wpAny_bind ((typ_M hm).here (Y.contains.here ?_))))
  dsimp only
  refine wpAny_holding ?_
  rw [PySem.slot_dict_contains.bind]
  refine wpAny_bind (wpAny_pure ?_)
  dsimp only
  rw [if_neg (by decide)]
  refine wpAny_bind (wpAny_call (slot_M (n := "__contains__") Y hm PySem.slot_dict_contains.plain PySem.entry_dict_contains (.inr (by decide +kernel)) (by decide +kernel) (PySem.args_dict_contains _ _) ?_))
  show wpAny _ _ (dictGet d key >>= _) _ _ s
  refine wpAny_bind (get_K (A := A.in1) hu hk hm K fun tk => ?_)
  have h' := h tk
  cases hf : valK xs k with
  | some v =>
    rw [hf] at h'
    exact wpAny_pure (wpAny_pure (PySem.wpAny_truthy_bool (wpAny_pure h')))
  | none =>
    rw [hf] at h'
    show wpAny _ _ (Builtin.Dict.pendingKey? d key >>= _) _ _ _
    exact wpAny_bind (PySem.wpAny_pendingKey_other hd (wpAny_pure (wpAny_pure (PySem.wpAny_truthy_bool (wpAny_pure h')))))
/-- d.get(key, dflt) -/
theorem dget_M {dflt : Value} {Q : Value → Shared → Prop} (hu : A.units + 1 < cLine) (Y : DCls (model prog w) s.heap C) (hd : (d == sysModules) = false) (hk : isKey prog w z s.heap k key) (hm : At s.heap (d, isM prog w z C dx xs)) (K : KeysIn prog w z s.heap xs)
    (h : ∀ tk, Q ((valK xs k).getD dflt) { s with toks := tk }) : wpAny (model prog w) A (call (.builtin "dict.get") [.ref d, key, dflt]) Q E s := by
  refine wpAny_call (slot_M (n := "get") Y hm PySem.F.slot_dict_get.plain PySem.F.entry_dict_get (.inr (by decide +kernel)) (by decide +kernel) (PySem.F.args_dict_get_3 _ _ _) ?_)
  show wpAny _ _ (dictGet d key >>= _) _ _ s
  refine wpAny_bind (get_K (A := A.in1) hu hk hm K fun tk => ?_)
  have h' := h tk
  cases hf : valK xs k with
  | some v =>
    rw [hf] at h'
    exact wpAny_pure h'
  | none =>
    rw [hf] at h'
    show wpAny _ _ (Builtin.Dict.missed d key >>= _) _ _ _
    exact wpAny_bind (PySem.wpAny_missed_other hd (wpAny_pure h'))
end
end
section
set_option maxHeartbeats 4000000
open Builtin Builtin.ObjectAttr Builtin.Getset_descriptor
abbrev ctrObj (dx : Addr) : Obj := { cls := .ref 74, dict := some dx, data := .dict #[] }
theorem dn_entry : entryFor table "dict.__new__" = some Builtin.«dict.__new__» := entryFor_of_tree (by kernel_rfl)
theorem dn_plain : plainId "dict.__new__" = true := by decide +kernel
theorem dn_kind : builtinKind "dict.__new__" = some .builtinFn := by decide +kernel
theorem dn_split : splitId "dict.__new__" = some ("dict", "__new__") := by decide +kernel
theorem dn_args (a b : Value) : argsOk "dict.__new__" ⟨[a, b], []⟩ := by unfold argsOk; kernel_rfl
structure Ctr (M : Model) (h : Heap) : Prop where
  obj : ∃ oc od cd sl, h.get? 74 = some ⟨oc, od, .cls cd, sl⟩ ∧ cd.abstract = false ∧ cd.hasDel = false ∧ cd.mro = [.ref 74, .type "dict", .type "object"]
  made : Looks M h (Bind.madeBy (.ref 74)) (some "dict.__new__")
  base : Looks M h (Bind.staticBase (.ref 74)) (.ref 74)
  self : Looks M h (isSubtype (.ref 74) (.ref 74)) true
  dict : Looks M h (isSubtype (.ref 74) (.type "dict")) true
  call : Looks M h (specialOf (.ref 74) "__call__") (some (.builtin "type.__call__"))
  typ : Looks M h (isInstance (.ref 74) (.type "type")) true
  isT : Looks M h (isType (.ref 74)) true
  mro : Looks M h (mroOf (.ref 74)) [.ref 74, .type "dict", .type "object"]
theorem ctr_of {M : Model} {w : World} {h : Heap} (X : (K1 w.params).In h) : Ctr M h := by
  obtain ⟨oc, od, cd, sl, ho, e1, e2, e3, e4⟩ : ∃ oc od cd sl, (K1 w.params).lookup 74 = some ⟨oc, od, .cls cd, sl⟩ ∧ cd.abstract = false ∧ cd.hasDel = false ∧ cd.mro = [.ref 74, .type "dict", .type "object"] ∧ sl.toList[4]? = some (some (.builtin "dict.__new__")) :=
    ⟨_, _, _, _, by k_is, rfl, rfl, rfl, rfl⟩
  have hl := X _ _ ho
  have hc : Looks M h (classData 74) cd := (Looks.ld hl).andThen .now
  have hm : Looks M h (mroOf (.ref 74)) [.ref 74, .type "dict", .type "object"] := e3 ▸ hc.andThen .now
  have made : Looks M h (Bind.madeBy (.ref 74)) (some "dict.__new__") := by
    intro A Q E s k q
    unfold Bind.madeBy
    refine wpAny_bind (hm A _ E s k ?_)
    rw [List.forIn_cons]
    refine wpAny_bind (wpAny_bind (wpAny_bind (wpAny_bind (wpAny_loadPart (k _ _ hl) (wpAny_pure ?_)))))
    dsimp only
    rw [← Array.getElem?_toList, e4]
    exact wpAny_pure (wpAny_pure (wpAny_pure q))
  refine ⟨⟨oc, od, cd, sl, hl, e1, e2, e3⟩, made, ?_, looks_subIn X (by k_is), looks_subIn X (by k_is), looks_specialIn X (by k_is), looks_instIn X (by k_is), (Looks.ld hl).andThen .now, hm⟩
  intro A Q E s k q
  unfold Bind.staticBase
  refine wpAny_bind (hm A _ E s k ?_)
  rw [List.forIn_cons]
  exact wpAny_bind (wpAny_bind (wpAny_bind (made A _ E s k (wpAny_pure (wpAny_pure (wpAny_pure q))))))
section
variable {prog : Program} {w : World} {A : Around} {R : Result → Shared → Prop} {h : Heap} {g : Array GenState} {d : Drawn} {t : Nat} {os : OsState}
theorem ctr_new {b : Value} (X : (K1 w.params).In h)
    (hq : R (.ok (.ret (.ref (h.objs.size + 1)))) ⟨(h.push emptyDict).push (ctrObj h.objs.size), g, d, t, os⟩) :
    codeAny (model prog w) A (.call (.builtin "dict.__new__") ⟨[.ref 74, b], []⟩) R ⟨h, g, d, t, os⟩ := by
  obtain ⟨⟨oc, od, cd, sl, hC, e1, e2, e3⟩, made, base, self, dict, call, typ, isT, mro⟩ := ctr_of (M := model prog w) X
  refine codeAny_call_builtin dn_plain dn_entry ?_
  simp only [checkBuiltinCall, dn_kind, dn_split]
  have hC' : ((h.push emptyDict).push (ctrObj h.objs.size)).get? 74 = some ⟨oc, od, .cls cd, sl⟩ := Heap.get?_push_of_some _ (Heap.get?_push_of_some _ hC)
  repeat (first | simp only [bne_self_eq_false, Bool.not_true, Bool.false_eq_true, if_false] | lk)
  simp only [e2, Bool.false_eq_true, if_false]
  refine wpAny_pure (wpAny_pure ?_)
  show R _ _
  rw [Heap.size_push]
  exact hq
/-- Counter is called -/
theorem ctr_make {b : Value} (X : (K1 w.params).In h)
    (hq : codeAny (model prog w) (A.under (.builtin "type.__call__" ⟨[.ref 74, b], []⟩)) (.call (.ref 37) ⟨[.ref (h.objs.size + 1), b], []⟩) (InitBack (h.objs.size + 1) R) ⟨(h.push emptyDict).push (ctrObj h.objs.size), g, d, t, os⟩) :
    codeAny (model prog w) A (.call (.ref 74) ⟨[b], []⟩) R ⟨h, g, d, t, os⟩ := by
  obtain ⟨⟨oc, od, cd, sl, hC, e1, e2, e3⟩, made, base, self, dict, call, typ, isT, mro⟩ := ctr_of (M := model prog w) X
  have hi : Looks (model prog w) h (typeLookup (.ref 74) "__init__") (some (.ref 37)) := looks_findIn X (by k_is)
  have hb : ∀ self, Looks (model prog w) h (bindSpecial (.ref 37) self) (.ref 37, [self]) := fun self => bind_fn X self (by k_is)
  refine codeAny_of_tree ?_
  show wpAny _ _ (callAny (.ref 74) _) _ _ _
  refine nd_load hC ?_
  show wpAny _ _ (callAny.viaDunder (.ref 74) _) _ _ _
  unfold callAny.viaDunder
  refine wpAny_bind (call.at ?_)
  dsimp only
  rw [tc_bind]
  refine wpAny_bind (wpAny_pure (wpAny_bind (wpAny_pure ?_)))
  refine wpAny_pure (a := Fin.again (.call (.builtin "type.__call__") ⟨[.ref 74, b], []⟩)) (And.intro rfl ?_)
  refine codeAny_call_builtin_at (Code.quiet_builtin _ (by decide +kernel)) entry_typeCall (check_slot tc_kind tc_split typ (tc_args _ _ _) ?_)
  unfold Builtin.«type.__call__»
  repeat (first | simp only [Bool.false_eq_true, if_false] | with_reducible refine wpAny_call ?_ | lk)
  refine ctr_new X ?_
  have k : ∀ b o, h.get? b = some o → ((h.push emptyDict).push (ctrObj h.objs.size)).get? b = some o := fun b o e => Heap.get?_push_of_some _ (Heap.get?_push_of_some _ e)
  have hx : ((h.push emptyDict).push (ctrObj h.objs.size)).get? (h.objs.size + 1) = some (ctrObj h.objs.size) := by heap_get
  have t1 : Looks (model prog w) ((h.push emptyDict).push (ctrObj h.objs.size)) (typeOf (.ref (h.objs.size + 1))) (.ref 74) := (Looks.ld hx).andThen .now
  have s1 := self.keeps k
  have i1 := hi.keeps k
  have b1 := (hb (.ref (h.objs.size + 1))).keeps k
  unfold isInstance callSpecial? specialOf
  repeat (first | with_reducible refine wpAny_call ?_ | lk)
  refine codeAny_mono hq fun r s' z => ?_
  rcases r with e | (v | _ | _ | _) <;> first | exact z | exact z.elim | skip
  obtain ⟨rfl, z⟩ := z
  exact wpAny_pure (wpAny_pure z)
end
end
section
set_option maxHeartbeats 4000000
open Builtin
theorem findDI (P : Params) : findCls (K1 P) (.type "dict") (.type "type") "__init__" = some (.val (.builtin "dict.__init__")) := by k_is
section
variable {prog : Program} {w : World} {A : Around} {s : Shared} {E : Value → Shared → Prop}
theorem typ_type {M : Model} {h : Heap} : Looks M h (typeOf (.type "dict")) (.type "type") := by
  refine Looks.of_pure ?_
  rfl
theorem dictInitMeth {pl : Sem Bool} {Q : Value × List Value → Shared → Prop} (X : (K1 w.params).In s.heap) (h : ∀ tk, Q (.builtin "dict.__init__", []) { s with toks := tk }) :
    wpAny (model prog w) A (getMethod (.type "dict") "__init__" pl) Q E s := by
  unfold getMethod specialOf
  refine wpAny_bind (wpAny_bind (typ_type.here ?_))
  rw [KF.slot_tga.lookup]
  refine wpAny_pure ?_
  dsimp only
  rw [if_pos canon_tga]
  refine wpAny_bind ?_
  refine cls_open (mc := .type "type") (hook := none) X (Looks.of_pure ?_) typ_type (by k_is) (Looks.of_pure ?_) (by k_is) (findDI _) ?_
  · rfl
  · rfl
  · refine wpAny_pure ?_
    show wpAny _ _ (handedOut (.builtin "dict.__init__")) _ _ _
    rw [handedOut_of (by decide +kernel)]
    exact wpAny_pure (wpAny_pure (h _))
end
section
variable {prog : Program} {w : World} {A : Around} {E : Value → Shared → Prop} {s : Shared} {z : Bool} {d : Addr} {k : List Nat} {key v : Value} {xs : KV} {C : Value} {dx : Option Addr}
theorem di_entry : entryFor table "dict.__init__" = some Builtin.«dict.__init__» := PySem.F.entry_dict_init
theorem notOrd_M {name : String} {rest : List Value} {Q : Unit → Shared → Prop} (X : (K1 w.params).In s.heap) (hm : At s.heap (d, isM prog w z (.ref 74) dx xs)) (h : Q () s) : wpAny (model prog w) A (Builtin.Dict.notOrdered name ⟨.ref d :: rest, []⟩) Q E s := by
  unfold Builtin.Dict.notOrdered
  split
  · refine wpAny_bind ((typ_M hm).here ?_)
    split
    · refine wpAny_bind ((ord_no X hm).here ?_)
      simp only [Bool.false_eq_true, if_false]
      exact wpAny_pure h
    · exact wpAny_pure h
  · exact wpAny_pure h
theorem dictInit_M {Q : Value → Shared → Prop} (X : (K1 w.params).In s.heap) (hm : At s.heap (d, isM prog w z (.ref 74) dx xs)) (h : Q .none s) : wpAny (model prog w) A (call (.builtin "dict.__init__") [.ref d]) Q E s := by
  refine wpAny_call (slot_M (n := "__init__") (ctr_cls X) hm PySem.F.slot_dict_init.plain PySem.F.entry_dict_init (.inl (by decide +kernel)) (by decide +kernel) (PySem.F.args_dict_init_1 _) ?_)
  unfold Builtin.«dict.__init__» Builtin.Dict.selfAndRest
  refine wpAny_bind (wpAny_bind (notOrd_M X hm ?_))
  exact wpAny_bind (wpAny_pure (wpAny_pure (wpAny_bind (wpAny_pure (wpAny_pure h)))))
end
end
section
set_option maxHeartbeats 4000000
def DatAt (h : Heap) (d : Addr) (es : Array DictEntry) (ep : Nat) : Prop := ∃ o, h.get? d = some o ∧ o.data = .dict es ep
section
variable {prog : Program} {w : World} {A : Around} {E : Value → Shared → Prop} {s : Shared} {it d : Addr} {es : Array DictEntry} {ep i : Nat}
theorem knext_item {e : DictEntry} {Q : Option Value → Shared → Prop} (hit : s.heap.IsKeyIter it d i es.size ep) (hm : DatAt s.heap d es ep) (hx : es[i]? = some e)
    (hQ : ∀ h', h'.IsKeyIter it d (i + 1) es.size ep → Heap.SameBut it s.heap h' → Q (some e.key) { s with heap := h' }) : wpAny (model prog w) A (pyNext (.ref it)) Q E s := by
  obtain ⟨o, ho, hc, hd⟩ := id hit
  obtain ⟨od, hod, hdd⟩ := id hm
  unfold pyNext
  refine wpAny_bind (wpAny_attempt (wpAny_callSpecial?_slot (name := Str.ofString "__next__") hit.typeIs PySem.F.slot_dict_keyiterator_next
    (wpAny_call_entry PySem.F.slot_dict_keyiterator_next hit.typeIs PySem.F.entry_dict_keyiterator_next ?_ (PySem.F.args_dict_keyiterator_next_1 _))))
  refine wpAny_bind (wpAny_pure (wpAny_bind (wpAny_bind (wpAny_bind (wpAny_typeNameOfWhole_keyiter hit.typeIs (wpAny_pure ?_))))))
  refine wpAny_bind (wpAny_fieldsOf ho hd ?_)
  have hown : Builtin.Dict_items.ownsTuple "dict_keyiterator" = false := by decide
  simp only [hown, Bool.false_eq_true, if_false]
  show wpAny _ _ (if (Value.ref d == Value.none) = true then _ else _) _ _ s
  rw [if_neg (show ¬ ((Value.ref d == Value.none) = true) from Bool.false_ne_true)]
  refine wpAny_bind (wpAny_pure (wpAny_bind (wpAny_dictEntries hod hdd ?_)))
  rw [if_neg (by simp)]
  refine wpAny_bind (wpAny_pure (wpAny_bind (wpAny_dictEpoch hod hdd ?_)))
  rw [if_neg (by simp)]
  refine wpAny_pure ?_
  have hlt : i < es.size := (Array.getElem?_eq_some_iff.mp hx).1
  have hei : es[i] = e := (Array.getElem?_eq_some_iff.mp hx).2
  simp only [show ¬ ((i : Int) < 0) from by omega, if_false, Int.toNat_natCast, hx]
  refine wpAny_bind (wpAny_bind (wpAny_typeNameOfWhole_keyiter hit.typeIs (wpAny_pure ?_)))
  refine wpAny_bind (wpAny_isOneOf_keyiter hit.typeIs ?_)
  show wpAny _ _ (setField (.ref it) 1 (rawInt ((i : Int) + 1)) >>= _) _ _ s
  refine wpAny_bind (wpAny_setField ho hd (by simp) ?_)
  have hit' : (s.heap.update it (Obj.mapFields (·.setIfInBounds 1 (rawInt ((i : Int) + 1))))).IsKeyIter it d (i + 1) es.size ep :=
    ⟨_, Heap.get?_update_self _ ho (Obj.isFreed_of_fields (Obj.data_mapFields hd _)), (Obj.cls_mapFields ..).trans hc, by rw [Obj.data_mapFields hd]; simp [rawInt]⟩
  refine wpAny_bind (wpAny_holding (wpAny_bind (wpAny_isOneOf_keyiter (s := { s with heap := s.heap.update it (Obj.mapFields (·.setIfInBounds 1 (rawInt ((i : Int) + 1)))) }) hit'.typeIs ?_)))
  show wpAny _ _ (pure e.key) _ _ _
  exact wpAny_pure (wpAny_pure ⟨_, rfl, wpAny_pure (hQ _ hit' (Heap.SameBut.update ..))⟩)
theorem knext_end {Q : Option Value → Shared → Prop} (hh : A.handled = none) (hit : s.heap.IsKeyIter it d es.size es.size ep) (hm : DatAt s.heap d es ep)
    (hQ : ∀ h', Heap.ExtBut it s.heap h' → Q none { s with heap := h' }) : wpAny (model prog w) A (pyNext (.ref it)) Q E s := by
  obtain ⟨o, ho, hc, hd⟩ := id hit
  obtain ⟨od, hod, hdd⟩ := id hm
  unfold pyNext
  refine wpAny_bind (wpAny_attempt (wpAny_callSpecial?_slot (name := Str.ofString "__next__") hit.typeIs PySem.F.slot_dict_keyiterator_next
    (wpAny_call_entry PySem.F.slot_dict_keyiterator_next hit.typeIs PySem.F.entry_dict_keyiterator_next ?_ (PySem.F.args_dict_keyiterator_next_1 _))))
  refine wpAny_bind (wpAny_pure (wpAny_bind (wpAny_bind (wpAny_bind (wpAny_typeNameOfWhole_keyiter hit.typeIs (wpAny_pure ?_))))))
  refine wpAny_bind (wpAny_fieldsOf ho hd ?_)
  have hown : Builtin.Dict_items.ownsTuple "dict_keyiterator" = false := by decide
  simp only [hown, Bool.false_eq_true, if_false]
  show wpAny _ _ (if (Value.ref d == Value.none) = true then _ else _) _ _ s
  rw [if_neg (show ¬ ((Value.ref d == Value.none) = true) from Bool.false_ne_true)]
  refine wpAny_bind (wpAny_pure (wpAny_bind (wpAny_dictEntries hod hdd ?_)))
  rw [if_neg (by simp)]
  refine wpAny_bind (wpAny_pure (wpAny_bind (wpAny_dictEpoch hod hdd ?_)))
  rw [if_neg (by simp)]
  refine wpAny_pure ?_
  have hx : es[es.size]? = none := by simp
  simp only [show ¬ ((es.size : Int) < 0) from by omega, if_false, Int.toNat_natCast, hx]
  refine wpAny_bind (wpAny_bind (wpAny_typeNameOfWhole_keyiter hit.typeIs (wpAny_pure ?_)))
  show wpAny _ _ (setField (.ref it) 0 .none >>= _) _ _ s
  refine wpAny_bind (wpAny_setField ho hd (by simp) ?_)
  show wpAny _ _ (newExc (.type "StopIteration") [] >>= _) _ _ _
  refine wpAny_bind ?_
  simp only [newExc, newTuple]
  refine wpAny_bind (wpAny_newObj_type ?_ (by size_fits))
  refine wpAny_bind (m := firstArgMember _ _) (wpAny_of_eq (a := Value.none) (by first | rfl | (simp only [firstArgMember]; rfl)) ?_)
  refine wpAny_newObj_type ?_ (by size_fits)
  simp only [raiseNew]
  refine wpAny_bind (wpAny_handled ?_)
  rw [show A.in1.handled = none from hh]
  refine wpAny_bind (wpAny_pure (wpAny_throw ?_))
  refine wpAny_bind (wpAny_isInstance (T := "StopIteration") (b := true) ⟨_, Heap.get?_push_size _ rfl, rfl⟩ isSubtype_stop ?_)
  exact wpAny_pure (hQ _ (((Heap.SameBut.update ..).extBut.push _).push _))
theorem DatAt.at' {h h' : Heap} (x : DatAt h d es ep) (e : ∀ o, h.get? d = some o → h'.get? d = some o) : DatAt h' d es ep := let ⟨o, ho, r⟩ := x; ⟨o, e _ ho, r⟩
theorem Walks.keysM (hh : A.handled = none) (I d : Addr) (hne : d ≠ I) (es : Array DictEntry) (ep : Nat) :
    Walks prog w A I [I, d] [I] es.size (fun i v => ∃ e, es[i]? = some e ∧ v = e.key) (fun i h => h.IsKeyIter I d i es.size ep ∧ DatAt h d es ep) where
  sub := fun b hb => by simp at hb; simp [hb]
  frame := fun _ _ _ st hk => ⟨st.1.at fun o e => hk I (by simp) o e, st.2.at' fun o e => hk d (by simp) o e⟩
  item := fun i s Q E hi st hQ => by
    refine knext_item st.1 st.2 (Array.getElem?_eq_getElem hi) fun h' hit' hs' => ?_
    exact hQ _ h' s.toks ⟨es[i], Array.getElem?_eq_getElem hi, rfl⟩ ⟨hit', st.2.at' fun o e => (hs'.2 d hne).trans e⟩ fun b o hb e => hs'.extBut b o (fun h => hb (by simp [h])) e
  done := fun s Q E st hQ => knext_end hh st.1 st.2 fun h' he' => hQ h' s.toks fun b o hb e => he' b o (fun h => hb (by simp [h])) e
  self := fun _ _ _ _ st hQ => wpAny_pyIter_keyiter st.1 hQ
end
section
variable {prog : Program} {w : World} {A : Around} {E : Value → Shared → Prop} {s : Shared} {z : Bool} {d : Addr} {xs : KV} {C : Value} {dx : Option Addr} {g : Heap} {L : Addr} {m : Str → Option Value} {news : Led} {Q : Value → Shared → Prop}
theorem notOrd_D {name : String} {rest : List Value} {Q : Unit → Shared → Prop} (hC : C = .type "dict" ∨ (C = .ref 74 ∧ (K1 w.params).In s.heap)) (hm : At s.heap (d, isM prog w z C dx xs)) (h : Q () s) : wpAny (model prog w) A (Builtin.Dict.notOrdered name ⟨.ref d :: rest, []⟩) Q E s := by
  rcases hC with rfl | ⟨rfl, X⟩
  · obtain ⟨o, ho, hc, _⟩ := hm
    exact PySem.wpAny_notOrdered_dict ⟨o, ho, hc⟩ h
  · exact notOrd_M X hm h
theorem dcls_of {h : Heap} (hC : C = .type "dict" ∨ (C = .ref 74 ∧ (K1 w.params).In h)) : DCls (model prog w) h C := by
  rcases hC with rfl | ⟨rfl, X⟩
  · exact dict_cls
  · exact ctr_cls X
/-- for key in a dict or a Counter -/
theorem iter_M (hh : A.handled = none) (hC : C = .type "dict" ∨ (C = .ref 74 ∧ (K1 w.params).In s.heap)) (hd : (d == sysModules) = false) (hm : At s.heap (d, isM prog w z C dx xs)) (S : St g L s.heap m news)
    (h : ∀ I h' Si, It prog w A I [I, d] xs.length (fun i v => ∃ x, xs[i]? = some x ∧ v = x.2.1) Si → Si 0 h' → St g L h' m ((I, any) :: news) → (∀ b ∈ [I, d], b < h'.objs.size) → d < I → (∀ c o, s.heap.get? c = some o → h'.get? c = some o ∧ c ≠ I) → Q (.ref I) { s with heap := h' }) :
    wpAny (model prog w) A (pyIter (.ref d)) Q E s := by
  have Y := dcls_of (prog := prog) hC
  obtain ⟨o, ho, hc, hdx, hsl, es, ep, hdat, he⟩ := id hm
  have hsz : es.size = xs.length := by rw [← Array.length_toList, he, List.length_map]
  have hlt : d < s.heap.objs.size := Heap.lt_size ho
  have fin : Q (.ref s.heap.objs.size) { s with heap := s.heap.push { cls := .type "dict_keyiterator", data := .fields #[.ref d, .int 0 0, .int es.size 0, .int ep 0] } } := by
    refine h _ _ (fun i h => h.IsKeyIter s.heap.objs.size d i es.size ep ∧ DatAt h d es ep) ⟨?_, ?_⟩ ?_ (S.push _ trivial) ?_ hlt (fun c o e => ⟨Heap.get?_push_of_some _ e, Nat.ne_of_lt (Heap.lt_size e)⟩)
    · have W := Walks.keysM (prog := prog) (w := w) hh s.heap.objs.size d (Nat.ne_of_lt hlt) es ep
      refine ⟨W.sub, W.frame, fun i s Q E hi st hQ => W.item i s Q E (by omega) st fun v h' tk ⟨e, h1, h2⟩ => hQ v h' tk ?_, fun s Q E st hQ => W.done s Q E (by rw [← hsz] at st; exact st) hQ, W.self⟩
      rw [← Array.getElem?_toList, he, List.getElem?_map] at h1
      obtain ⟨x, hx, rfl⟩ := Option.map_eq_some_iff.mp h1
      exact ⟨x, hx, h2⟩
    · intro i h st b hb
      rcases List.mem_cons.mp hb with rfl | hb
      · obtain ⟨o, e, _⟩ := st.1; exact ⟨o, e⟩
      · rw [List.mem_singleton.mp hb]; obtain ⟨o, e, _⟩ := st.2; exact ⟨o, e⟩
    · exact ⟨⟨_, Heap.get?_push_size _ rfl, rfl, rfl⟩, o, Heap.get?_push_of_some _ ho, hdat⟩
    · intro b hb
      rw [Heap.size_push]
      rcases List.mem_cons.mp hb with rfl | hb
      · exact Nat.lt_succ_self _
      · rw [List.mem_singleton.mp hb]; exact Nat.lt_succ_of_lt hlt
  unfold pyIter specialOf
  refine wpAny_bind (wpAny_bind ((typ_M hm).here (Y.iter.here ?_)))
  dsimp only
  have call_ : wpAny (model prog w) A (call (.builtin "dict.__iter__") [.ref d]) (fun it s' => s'.TypeIs it "dict_keyiterator" ∧ Q it s') E s := by
    refine wpAny_call (slot_M (n := "__iter__") Y hm PySem.F.slot_dict_iter.plain PySem.F.entry_dict_iter (.inl (by decide +kernel)) (by decide +kernel) (PySem.F.args_dict_iter_1 _) ?_)
    unfold Builtin.«dict.__iter__» Builtin.Dict.dictSlotNone
    refine wpAny_bind (wpAny_bind (notOrd_D hC hm ?_))
    show wpAny _ _ (pure (Value.ref d)) _ _ s
    refine wpAny_pure ?_
    show wpAny _ _ (Builtin.Dict.showsAll d >>= _) _ _ s
    unfold Builtin.Dict.showsAll
    rw [if_neg (by rw [hd]; exact Bool.false_ne_true)]
    refine wpAny_bind (wpAny_pure (wpAny_bind (wpAny_dictEntries ho hdat (wpAny_bind (wpAny_dictEpoch ho hdat ?_)))))
    exact wpAny_bind (wpAny_newObj_type (wpAny_pure ⟨⟨_, Heap.get?_push_size _ rfl, rfl⟩, fin⟩))
  have call2 : wpAny (model prog w) A (callSpecialIfBoundUnlessNone? (.ref d) "__iter__" (do rule "iter.none"; raiseError "TypeError" s!"'{← typeNameOf (.ref d)}' object is not iterable")) (fun r s' => ∃ it, r = some it ∧ s'.TypeIs it "dict_keyiterator" ∧ Q it s') E s := by
    simp only [callSpecialIfBoundUnlessNone?, bindSpecialIfBound?, specialOf]
    refine wpAny_holding (wpAny_bind (wpAny_bind (wpAny_bind ((typ_M hm).here (Y.iter.here ?_)))))
    simp only [PySem.F.slot_dict_iter.bind]
    refine wpAny_bind (wpAny_askSetting (wpAny_ite ?_))
    have f2 : wpAny (model prog w) A (call (.builtin "dict.__iter__") [.ref d] >>= fun v => pure (some v)) (fun r s' => ∃ it, r = some it ∧ s'.TypeIs it "dict_keyiterator" ∧ Q it s') E s :=
      wpAny_bind (wpAny_mono call_ (fun v s' h' => wpAny_pure ⟨v, rfl, h'⟩) fun _ _ h' => h')
    split
    · exact wpAny_bind (wpAny_pure (wpAny_pure (by dsimp only; rw [if_neg (by decide)]; exact f2)))
    · exact PySem.wpAny_tryCatch (wpAny_bind (wpAny_pure (wpAny_pure (by dsimp only; rw [if_neg (by decide)]; exact f2))))
  refine wpAny_bind (wpAny_mono call2 (fun r s' h' => ?_) fun _ _ h' => h')
  obtain ⟨it, rfl, hT, hq⟩ := h'
  dsimp only
  refine wpAny_bind (wpAny_specialOf hT PySem.F.slot_dict_keyiterator_next.lookup ?_)
  exact wpAny_pure hq
end
end
section
set_option maxHeartbeats 4000000
theorem dict_canon : Manifest.canonical "dict.__getattribute__" = "object.__getattribute__" := by decide +kernel
theorem typ_dict : typeOf (.type "dict") = pure (.type "type") := by rfl
section
variable {prog : Program} {w : World} {A : Around} {E : Value → Shared → Prop} {s : Shared} {z : Bool} {d x dx : Addr} {xs : KV} {C : Value} {odx : Option Addr} {g : Heap} {L l : Addr} {m : Str → Option Value} {news : Led} {Q : Value → Shared → Prop}
/-- isinstance(a list, dict) -/
theorem isiList {vs : List Value} (hm : At s.heap (l, isL vs)) (h : ∀ tk, Q (.bool false) { s with toks := tk }) : wpAny (model prog w) A (call (.builtin "isinstance") [.ref l, .type "dict"]) Q E s := by
  obtain ⟨o, ho, n, rfl⟩ := hm
  exact call_isinstance (isinstance_false_list (by decide) typ_dict (by rw [isSubtype_type]; kernel_rfl)) ⟨⟨_, ho, rfl⟩, h _⟩
/-- isinstance(a str, dict) -/
theorem isiStr {y : Str} {t : Tok} (h : ∀ tk, Q (.bool false) { s with toks := tk }) : wpAny (model prog w) A (call (.builtin "isinstance") [.str y t, .type "dict"]) Q E s := by
  obtain ⟨hp, g, d, tk, os⟩ := s
  refine call_isinstance_of ?_ (by intro e; cases e)
  exact isinstance_nested_false_str (by decide) typ_dict (by rw [isSubtype_type]; kernel_rfl) (h _)
/-- isinstance(a dict or a Counter, dict) -/
theorem isiDict (hC : C = .type "dict" ∨ (C = .ref 74 ∧ (K1 w.params).In s.heap)) (hm : At s.heap (d, isM prog w z C odx xs)) (h : ∀ tk, Q (.bool true) { s with toks := tk }) : wpAny (model prog w) A (call (.builtin "isinstance") [.ref d, .type "dict"]) Q E s := by
  have Y := dcls_of (prog := prog) hC
  have t1 := typ_M (M := model prog w) hm
  have t2 : Looks (model prog w) s.heap (isInstance (.ref d) (.type "dict")) true := t1.andThen Y.sub
  refine call_isinstance_of ?_ (by intro e; cases e)
  unfold Builtin.«isinstance.nested»
  refine wpAny_bind (t1.here ?_)
  by_cases q : (C == Value.type "dict") = true
  · rw [if_pos q]
    have hq : Q (.bool true) s := h s.toks
    repeat (first | refine wpAny_pure ?_ | refine wpAny_rule ?_ | refine wpAny_bind ?_)
    exact hq
  · rw [if_neg q, typ_dict]
    refine wpAny_bind (wpAny_pure ?_)
    rw [if_pos (by decide)]
    k_delta "plainIsInstance"
    unfold isType
    refine wpAny_bind (wpAny_bind (nd_pure ?_))
    simp only [Bool.not_true, Bool.false_eq_true, if_false]
    refine wpAny_bind (t2.here ?_)
    simp only [if_true]
    exact wpAny_pure (wpAny_pure (h s.toks))
/-- isinstance(a str, Counter) -/
theorem isiCtr {y : Str} {t : Tok} (X : (K1 w.params).In s.heap) (h : ∀ tk, Q (.bool false) { s with toks := tk }) : wpAny (model prog w) A (call (.builtin "isinstance") [.str y t, .ref 74]) Q E s := by
  obtain ⟨hp, gg, dr, tk, os⟩ := s
  have Y := ctr_of (M := model prog w) X
  have sb : Looks (model prog w) hp (isSubtype (.type "str") (.ref 74)) false := looks_subIn X (by k_is)
  have ty : Looks (model prog w) hp (typeOf (.ref 74)) (.type "type") := looks_typeIn X (by k_is)
  have st : Looks (model prog w) hp (isInstance (.str y t) (.ref 74)) false := (Looks.now (a := Value.type "str")).andThen sb
  refine call_isinstance_of ?_ (by intro e; cases e)
  unfold Builtin.«isinstance.nested»
  refine wpAny_bind (m := typeOf (.str y t)) (wpAny_pure ?_)
  rw [if_neg (by decide)]
  refine wpAny_bind (ty.at ?_)
  rw [if_pos (by decide)]
  k_delta "plainIsInstance"
  refine wpAny_bind (wpAny_bind (Y.isT.at ?_))
  simp only [Bool.not_true, Bool.false_eq_true, if_false]
  refine wpAny_bind (st.at ?_)
  simp only [Bool.false_eq_true, if_false]
  refine wpAny_bind (class_attr_str ?_)
  dsimp only
  unfold isType
  refine wpAny_bind (wpAny_pure ?_)
  simp only [Bool.not_true, Bool.false_eq_true, if_false]
  refine wpAny_bind (wpAny_rule ?_)
  refine sb.at ?_
  exact wpAny_pure (h _)
/-- a Counter's method of dict's -/
theorem methC {name : Str} {id : String} {pl : Sem Bool} {Q : Value × List Value → Shared → Prop} (X : (K1 w.params).In s.heap) (hm : At s.heap (x, isM prog w z (.ref 74) (some dx) xs)) (hd : At s.heap (dx, isA []))
    (ha : findIn (K1 w.params) (.ref 74) name = some (some (.builtin id))) (ht : typeIn (K1 w.params) (.builtin id) = some (.type "method_descriptor")) (h : Q (.builtin id, [.ref x]) s) :
    wpAny (model prog w) A (getMethod (.ref x) name pl) Q E s := by
  have hga : findIn (K1 w.params) (.ref 74) "__getattribute__" = some (some (.builtin "dict.__getattribute__")) := by k_is
  have hk : findIn (K1 w.params) (.ref 74) "__getattr__" = some none := by k_is
  have hcan := dict_canon
  have t1 := typ_M (M := model prog w) hm
  obtain ⟨o, ho, hc, hdx, hsl, es, ep, hdat, he⟩ := hm
  obtain ⟨od, hod, es', n, rfl, En⟩ := hd
  unfold getMethod specialOf
  refine wpAny_bind (wpAny_bind (t1.here ((looks_findIn X hga).here ?_)))
  dsimp only
  rw [hcan, if_neg (by decide)]
  refine wpAny_bind (wpAny_bind (t1.here ((looks_findIn X hk).here ?_)))
  refine wpAny_bind (wpAny_bind (t1.here ((looks_findIn X ha).here (wpAny_bind ((looks_typeIn X ht).here ?_)))))
  rw [if_neg (by decide +kernel)]
  refine wpAny_bind (wpAny_loadPart ho ?_)
  rw [hdx]
  refine wpAny_bind (wpAny_bind (wpAny_loadPart hod ?_))
  rw [nsLook_of (r := none) (by rw [lookIn_dict, En.look]; rfl)]
  refine wpAny_pure ?_
  exact wpAny_bind (wpAny_rule (wpAny_pure h))
/-- a Counter's own method -/
theorem methCF {name : Str} {f : Addr} {pl : Sem Bool} {Q : Value × List Value → Shared → Prop} (X : (K1 w.params).In s.heap) (hm : At s.heap (x, isM prog w z (.ref 74) (some dx) xs)) (hd : At s.heap (dx, isA []))
    (ha : findIn (K1 w.params) (.ref 74) name = some (some (.ref f))) (ht : typeIn (K1 w.params) (.ref f) = some (.type "function")) (h : Q (.ref f, [.ref x]) s) :
    wpAny (model prog w) A (getMethod (.ref x) name pl) Q E s := by
  have t1 := typ_M (M := model prog w) hm
  obtain ⟨o, ho, hc, hdx, hsl, es, ep, hdat, he⟩ := hm
  obtain ⟨od, hod, es', n, rfl, En⟩ := hd
  have hga : findIn (K1 w.params) (.ref 74) "__getattribute__" = some (some (.builtin "dict.__getattribute__")) := by k_is
  have hk : findIn (K1 w.params) (.ref 74) "__getattr__" = some none := by k_is
  unfold getMethod specialOf
  refine wpAny_bind (wpAny_bind (t1.here ((looks_findIn X hga).here ?_)))
  dsimp only
  rw [dict_canon, if_neg (by decide)]
  refine wpAny_bind (wpAny_bind (t1.here ((looks_findIn X hk).here ?_)))
  refine wpAny_bind (wpAny_bind (t1.here ((looks_findIn X ha).here (wpAny_bind ((looks_typeIn X ht).here ?_)))))
  rw [if_neg (by decide +kernel)]
  refine wpAny_bind (wpAny_loadPart ho ?_)
  rw [hdx]
  refine wpAny_bind (wpAny_bind (wpAny_loadPart hod ?_))
  rw [nsLook_of (r := none) (by rw [lookIn_dict, En.look]; rfl)]
  refine wpAny_pure ?_
  exact wpAny_bind (wpAny_rule (wpAny_pure h))
end
end
section
set_option maxHeartbeats 4000000
abbrev keysK (xs : KV) : List (List Nat) := xs.map (·.1)
/-- a table of ints by keys: f tells it, 0 where there is none -/
structure CM (prog : Program) (w : World) (z : Bool) (g : Heap) (xs : KV) (f : List Nat → Int) : Prop where
  keys : KeysIn prog w z g xs
  val : ∀ x ∈ xs, ∃ t, x.2.2 = .int (f x.1) t
  off : ∀ k, k ∉ keysK xs → f k = 0
theorem CM.keeps {prog : Program} {w : World} {z : Bool} {g g' : Heap} {xs : KV} {f : List Nat → Int} (M : CM prog w z g xs f) (s : Sub g g') : CM prog w z g' xs f := ⟨M.keys.keeps s, M.val, M.off⟩
theorem CM.nil {prog : Program} {w : World} {z : Bool} {g : Heap} : CM prog w z g [] (fun _ => 0) := ⟨KeysIn.nil, fun _ h => by simp at h, fun _ _ => rfl⟩
theorem valK_mem {xs : KV} {k : List Nat} (h : k ∈ keysK xs) : ∃ x ∈ xs, x.1 = k ∧ valK xs k = some x.2.2 := by
  obtain ⟨y, hy, e⟩ := List.mem_map.mp h
  unfold valK
  cases q : xs.find? fun x => decide (x.1 = k) with
  | none => exact absurd (List.find?_eq_none.mp q y hy) (by simp [e])
  | some x => exact ⟨x, List.mem_of_find?_eq_some q, by simpa using List.find?_some q, rfl⟩
theorem valK_not {xs : KV} {k : List Nat} (h : k ∉ keysK xs) : valK xs k = none := by
  unfold valK
  rw [List.find?_eq_none.mpr, Option.map_none]
  intro x hx e
  exact h (List.mem_map.mpr ⟨x, hx, of_decide_eq_true e⟩)
theorem CM.sub {prog : Program} {w : World} {z : Bool} {g : Heap} {xs : KV} {f : List Nat → Int} (M : CM prog w z g xs f) {k : List Nat} (h : k ∈ keysK xs) : ∃ t, valK xs k = some (.int (f k) t) := by
  obtain ⟨x, hx, rfl, e⟩ := valK_mem h
  obtain ⟨t, e2⟩ := M.val x hx
  exact ⟨t, by rw [e, e2]⟩
theorem CM.get {prog : Program} {w : World} {z : Bool} {g : Heap} {xs : KV} {f : List Nat → Int} (M : CM prog w z g xs f) (k : List Nat) (u : Tok) : ∃ t, (valK xs k).getD (.int 0 u) = .int (f k) t := by
  by_cases h : k ∈ keysK xs
  · obtain ⟨t, e⟩ := M.sub h
    exact ⟨t, by rw [e]; rfl⟩
  · exact ⟨u, by rw [valK_not h, M.off k h]; rfl⟩
theorem CM.isSome {xs : KV} (k : List Nat) : (valK xs k).isSome = decide (k ∈ keysK xs) := by
  by_cases h : k ∈ keysK xs
  · obtain ⟨x, hx, _, e⟩ := valK_mem h
    rw [e, decide_eq_true h]; rfl
  · rw [valK_not h, decide_eq_false h]; rfl
def updK (f : List Nat → Int) (k : List Nat) (n : Int) : List Nat → Int := fun y => if y = k then n else f y
theorem CM.put {prog : Program} {w : World} {z : Bool} {g : Heap} {xs : KV} {f : List Nat → Int} (M : CM prog w z g xs f) {k : List Nat} {key : Value} (hk : isKey prog w z g k key) (n : Int) (t : Tok) : CM prog w z g (putK xs k key (.int n t)) (updK f k n) := by
  refine ⟨M.keys.put hk, fun y hy => ?_, fun y hy => ?_⟩
  · unfold updK
    by_cases e : y.1 = k
    · rw [if_pos e]
      unfold putK at hy
      split at hy
      · obtain ⟨u, hu, rfl⟩ := List.mem_map.mp hy
        by_cases e2 : u.1 = k
        · rw [if_pos e2]; exact ⟨t, rfl⟩
        · rw [if_neg e2] at e; exact absurd e e2
      · rename_i hs
        rcases List.mem_append.mp hy with hy | hy
        · exact absurd (List.any_eq_true.mpr ⟨y, hy, decide_eq_true e⟩) hs
        · rw [List.mem_singleton.mp hy]; exact ⟨t, rfl⟩
    · rw [if_neg e]
      unfold putK at hy
      split at hy
      · obtain ⟨u, hu, rfl⟩ := List.mem_map.mp hy
        by_cases e2 : u.1 = k
        · rw [if_pos e2] at e; exact absurd e2 e
        · rw [if_neg e2]; exact M.val u hu
      · rcases List.mem_append.mp hy with hy | hy
        · exact M.val y hy
        · rw [List.mem_singleton.mp hy] at e; exact absurd rfl e
  · have hy' : y ∉ keysK xs ∧ y ≠ k := by
      have e := putK_keys (xs := xs) (k := k) (key := key) (v := .int n t)
      rw [show keysK (putK xs k key (.int n t)) = _ from e] at hy
      split at hy
      · rename_i hin
        exact ⟨hy, fun q => hy (q ▸ hin)⟩
      · simpa using hy
    unfold updK
    rw [if_neg hy'.2]; exact M.off y hy'.1
theorem putK_len {xs : KV} {k : List Nat} {key v : Value} : (putK xs k key v).length ≤ xs.length + 1 := by
  unfold putK
  split
  · rw [List.length_map]; omega
  · rw [List.length_append]; simp
section
variable {prog : Program} {w : World} {A : Around} {E : Value → Shared → Prop} {s : Shared} {z : Bool} {d x dx : Addr} {xs : KV} {C : Value} {odx : Option Addr} {g : Heap} {L l : Addr} {m : Str → Option Value} {news post : Led} {f : List Nat → Int} {k : List Nat} {key : Value}
/-- c[key] = n -/
theorem setC (pre : Led) {gk : Heap} {n : Int} {t : Tok} {Q : Unit → Shared → Prop} (hu : A.units + 1 < cLine) (G : Gd w g) (S : St g L s.heap m (pre ++ (x, isM prog w z (.ref 74) odx xs) :: post)) (M : CM prog w z gk xs f) (hk : isKey prog w z gk k key) (j : Sub gk s.heap) (hz : xs.length ≤ 1000)
    (h : ∀ h' tk xs', CM prog w z gk xs' (updK f k n) → keysK xs' = (if k ∈ keysK xs then keysK xs else keysK xs ++ [k]) → xs'.length ≤ xs.length + 1 → St g L h' m (pre ++ (x, isM prog w z (.ref 74) odx xs') :: post) → Q () { s with heap := h', toks := tk }) :
    wpAny (model prog w) A (setItem (.ref x) key (.int n t)) Q E s := by
  have hm := S.get (a := x) (P := isM prog w z (.ref 74) odx xs) (by simp)
  have X := G.X.keeps S.keep
  exact setItem_M hu (ctr_cls X) (hk.keeps j) hm (M.keys.keeps j) hz (.inl (ord_no X hm)) fun h' tk a b => h h' tk _ (M.put hk n t) putK_keys putK_len (S.upd b a)
/-- c[key] of a dict or a Counter -/
theorem subC {gk : Heap} {value slice : Expr} {Q : Value → Shared → Prop} (hu : A.units + 1 < cLine) (hC : C = .type "dict" ∨ (C = .ref 74 ∧ (K1 w.params).In s.heap)) (hm : At s.heap (d, isM prog w z C odx xs)) (M : CM prog w z gk xs f) (hk : isKey prog w z gk k key) (j : Sub gk s.heap) (hin : k ∈ keysK xs)
    (h : ∀ t tk, Q (.int (f k) t) { s with toks := tk })
    (hs : subscripted slice false (.ref d) key = operate [.ref d, key] (getItem (.ref d) key) := by with_unfolding_all rfl) :
    wpAny (model prog w) A (subscriptTail value slice (.ref d) key) Q E s := by
  have Y := dcls_of (prog := prog) hC
  obtain ⟨t, e⟩ := M.sub hin
  have hg : wpAny (model prog w) A (getItem (.ref d) key) Q E s := getItem_M hu Y (hk.keeps j) hm (M.keys.keeps j) e fun tk => h t tk
  unfold subscriptTail getitemInPython specialOf
  refine wpAny_bind (wpAny_bind (wpAny_bind ((typ_M hm).here (Y.getitem.here ?_))))
  dsimp only
  refine wpAny_pure ?_
  rw [hs]
  exact wpAny_bind (wpAny_operating (wpAny_mono hg (fun r s₃ h₃ => wpAny_bind (wpAny_letTemporaryGo (wpAny_pure h₃))) fun _ _ x => x))
theorem inC {gk : Heap} {Q : Value → Shared → Prop} (hu : A.units + 1 < cLine) (hC : C = .type "dict" ∨ (C = .ref 74 ∧ (K1 w.params).In s.heap)) (hd : (d == sysModules) = false) (hm : At s.heap (d, isM prog w z C odx xs)) (M : CM prog w z gk xs f) (hk : isKey prog w z gk k key) (j : Sub gk s.heap)
    (h : ∀ tk, Q (.bool (decide (k ∈ keysK xs))) { s with toks := tk }) : wpAny (model prog w) A (compareOp .In key (.ref d)) Q E s :=
  contains_M hu (dcls_of (prog := prog) hC) hd (hk.keeps j) hm (M.keys.keeps j) fun tk => by rw [CM.isSome]; exact h tk
theorem getC {gk : Heap} {u : Tok} {Q : Value → Shared → Prop} (hu : A.units + 1 < cLine) (hC : C = .type "dict" ∨ (C = .ref 74 ∧ (K1 w.params).In s.heap)) (hd : (d == sysModules) = false) (hm : At s.heap (d, isM prog w z C odx xs)) (M : CM prog w z gk xs f) (hk : isKey prog w z gk k key) (j : Sub gk s.heap)
    (h : ∀ t tk, Q (.int (f k) t) { s with toks := tk }) : wpAny (model prog w) A (call (.builtin "dict.get") [.ref d, key, .int 0 u]) Q E s :=
  dget_M hu (dcls_of (prog := prog) hC) hd (hk.keeps j) hm (M.keys.keeps j) fun tk => by
    obtain ⟨t, e⟩ := M.get k u
    rw [e]; exact h t tk
end
end
section
section
variable {prog : Program} {w : World} {A : Around} {s : Shared} {env : Env} {g : Heap} {Q : Flow → Shared → Prop} {m : Str → Option Value} {mu rest : Led} {z : Bool} {xs : KV} {C : Value} {odx : Option Addr}
theorem offOf2 {I d : Addr} {h : Heap} (S : St g env.locals h m ((I, any) :: (mu ++ rest))) (hd : d ≠ env.locals) (hmu : ∀ p ∈ mu, p.1 ≠ d) : ItOff g env.locals I [I, d] mu rest :=
  ⟨(S.o.own (I, any) (.head _)).2, fun q => by
    rcases List.mem_cons.mp q with q | q
    · exact S.neL (P := any) (.head _) q.symm
    · exact hd (List.mem_singleton.mp q).symm, fun p hp q => by
    rcases List.mem_cons.mp q with q | q
    · exact headNe S p (List.mem_append_left _ hp) q
    · exact hmu p hp (List.mem_singleton.mp q),
    fun q => by obtain ⟨p, hp, e⟩ := List.mem_map.mp q; exact headNe S p (List.mem_append_right _ hp) e⟩
/-- for x in a dict or a Counter -/
theorem dictLoop {d : Addr} {x : Str} {px : Pos} {body : List Stmt} (J : Nat → (Str → Option Value) → Led → Prop)
    (hh : A.handled = none) (hC : C = .type "dict" ∨ (C = .ref 74 ∧ (K1 w.params).In s.heap)) (hds : (d == sysModules) = false) (hm : At s.heap (d, isM prog w z C odx xs)) (hd : d ≠ env.locals) (hmu : ∀ p ∈ mu, p.1 ≠ d) (hx : env.kindOf x = some .local) (hp : (env.scope.kind == .class || (env.scope.kind == .module && env.locals != env.globals)) = false)
    (S : St g env.locals s.heap m (mu ++ rest)) (j0 : J 0 m mu)
    (turn : ∀ i y m₁ mu₁ g₁ h tk, xs[i]? = some y → J i m₁ mu₁ → Sub g g₁ → (∀ p ∈ rest, At g₁ p) → (∀ c o, s.heap.get? c = some o → c ≠ env.locals → c ∉ mu.map (·.1) → g₁.get? c = some o) →
      St g₁ env.locals h (fun n => if n = x then some y.2.1 else m₁ n) mu₁ →
      wpAny (model prog w) A (execs body env) (TurnEnd s g₁ env.locals (J (i + 1)) Q) FalseE { s with heap := h, toks := tk })
    (done : ∀ m₁ mu₁ h tk, J xs.length m₁ mu₁ → St g env.locals h m₁ (mu₁ ++ rest) → Q .next { s with heap := h, toks := tk }) :
    wpAny (model prog w) A (pyIter (.ref d)) (fun it s₂ => ∃ I, it = .ref I ∧ codeAny (model prog w) A (.forLoop (.Name x px) (.ref I) body [] env) (fun r s' => match r with | .ok f => Q f s' | .error _ => False) s₂) FalseE s := by
  refine iter_M hh hC hds hm S fun I h' Si X st S' bd lt kf => ⟨I, rfl, ?_⟩
  refine loop_S (s := { s with heap := h' }) (mu := mu) (rest := rest) J X hx hp S'.drop1 st (offOf2 S' hd hmu) j0 (fun i v m₁ mu₁ g₁ h tk hi hP j sub at₁ all S₁ => ?_) done
  obtain ⟨y, hy, rfl⟩ := hP
  exact turn i y m₁ mu₁ g₁ h tk hy j sub at₁ (fun c o e q1 q2 => all c o (kf c o e).1 q1 (kf c o e).2 q2) S₁
/-- for x in a list -/
theorem listLoop {d : Addr} {vs : List Value} {x : Str} {px : Pos} {body : List Stmt} (J : Nat → (Str → Option Value) → Led → Prop)
    (hh : A.handled = none) (hm : At s.heap (d, isL vs)) (hd : d ≠ env.locals) (hmu : ∀ p ∈ mu, p.1 ≠ d) (hx : env.kindOf x = some .local) (hp : (env.scope.kind == .class || (env.scope.kind == .module && env.locals != env.globals)) = false)
    (S : St g env.locals s.heap m (mu ++ rest)) (j0 : J 0 m mu)
    (turn : ∀ i y m₁ mu₁ g₁ h tk, vs[i]? = some y → J i m₁ mu₁ → Sub g g₁ → (∀ p ∈ rest, At g₁ p) → (∀ c o, s.heap.get? c = some o → c ≠ env.locals → c ∉ mu.map (·.1) → g₁.get? c = some o) →
      St g₁ env.locals h (fun n => if n = x then some y else m₁ n) mu₁ →
      wpAny (model prog w) A (execs body env) (TurnEnd s g₁ env.locals (J (i + 1)) Q) FalseE { s with heap := h, toks := tk })
    (done : ∀ m₁ mu₁ h tk, J vs.length m₁ mu₁ → St g env.locals h m₁ (mu₁ ++ rest) → Q .next { s with heap := h, toks := tk }) :
    wpAny (model prog w) A (pyIter (.ref d)) (fun it s₂ => ∃ I, it = .ref I ∧ codeAny (model prog w) A (.forLoop (.Name x px) (.ref I) body [] env) (fun r s' => match r with | .ok f => Q f s' | .error _ => False) s₂) FalseE s := by
  refine iter_list hh hm S fun I h' Si X st S' bd lt kf => ⟨I, rfl, ?_⟩
  refine loop_S (s := { s with heap := h' }) (mu := mu) (rest := rest) J X hx hp S'.drop1 st (offOf2 S' hd hmu) j0 (fun i v m₁ mu₁ g₁ h tk hi hP j sub at₁ all S₁ => ?_) done
  exact turn i v m₁ mu₁ g₁ h tk hP j sub at₁ (fun c o e q1 q2 => all c o (kf c o e).1 q1 (kf c o e).2 q2) S₁
end
section
variable {g g' h h' : Heap} {L a : Addr} {m : Str → Option Value} {news new : Led}
/-- down to a smaller base -/
theorem Own.down (O : Own g' h news) (s : Sub g g') : Own g h news := by
  refine ⟨fun b o e => O.keep b o (s b o e), fun p hp => ⟨(O.own p hp).1, ?_⟩, O.nd⟩
  cases q : g.get? p.1 with
  | none => rfl
  | some o => have := (O.own p hp).2; rw [s _ _ q] at this; cases this
theorem St.down (S : St g' L h m news) (s : Sub g g') : St g L h m news := by
  refine ⟨S.ns, ?_, S.offn, fun b o e => S.keep b o (s b o e), (S.o.down s).own, S.o.nd⟩
  cases q : g.get? L with
  | none => rfl
  | some o => have := S.offg; rw [s _ _ q] at this; cases this
/-- what does not change any more goes to the base -/
theorem St.absorb (new : Led) (S : St g L h m (new ++ news)) : ∃ g', Sub g g' ∧ St g' L h m news ∧ ∀ p ∈ new, At g' p := by
  have S' : St g L h m (news ++ new) := S.sub (fun p hp => by
    rcases List.mem_append.mp hp with hp | hp
    · exact List.mem_append_right _ hp
    · exact List.mem_append_left _ hp) (by
    have nd := S.o.nd
    rw [List.map_append] at nd ⊢
    have := List.nodup_append.mp nd
    exact List.nodup_append.mpr ⟨this.2.1, this.1, fun a ha b hb e => this.2.2 b hb a ha e.symm⟩)
  obtain ⟨g', a, b, c, d⟩ := S'.rebase
  exact ⟨g', a, b, c⟩
end
end
section
/-- no test, or one -/
def Tests (M : Model) (A : Around) (ifs : List Expr) (cenv : Env) (Q : Bool → Shared → Prop) (s : Shared) : Prop := match ifs with
  | [] => Q true s
  | [c] => wpAny M A (isTrue c cenv (eval c cenv)) Q FalseE s
  | _ => False
theorem Tests.run {M : Model} {A : Around} {ifs : List Expr} {cenv : Env} {Q : Bool → Shared → Prop} {E : Value → Shared → Prop} {s : Shared} (h : Tests M A ifs cenv Q s) :
    wpAny M A (forIn ifs true fun c r => if r = true then do let ok ← isTrue c cenv (eval c cenv); pure (ForInStep.yield ok) else pure (ForInStep.yield r)) Q E s := by
  match ifs, h with
  | [], h => rw [List.forIn_nil]; exact wpAny_pure h
  | [c], h =>
    rw [List.forIn_cons]
    simp only [if_true]
    refine wpAny_bind (wpAny_bind (wpAny_mono (toFalse h) (fun ok s' q => wpAny_pure ?_) fun _ _ e => e))
    dsimp only
    rw [List.forIn_nil]
    exact wpAny_pure q
section
variable {prog : Program} {w : World} {A : Around} {s : Shared} {env : Env} {g : Heap} {Q : Value → Shared → Prop} {I : Addr} {fp : List Addr} {n : Nat} {P : Nat → Value → Prop} {Si : Nat → Heap → Prop} {z : Bool} {gk : Heap}
/-- the value of one turn -/
def DcEnd (prog : Program) (w : World) (z : Bool) (gk : Heap) (s : Shared) (g₁ : Heap) (C : Addr) (J : KV → (List Nat → Int) → Prop) (ys : KV) (f : List Nat → Int) (kv vv : Value) (s' : Shared) : Prop :=
  ∃ k nn t h' tk' m', vv = .int nn t ∧ isKey prog w z gk k kv ∧ s' = { s with heap := h', toks := tk' } ∧ St g₁ C h' m' [] ∧
    ∀ ys', CM prog w z gk ys' (updK f k nn) → keysK ys' = (if k ∈ keysK ys then keysK ys else keysK ys ++ [k]) → J ys' (updK f k nn)
theorem DcEnd.mk {s : Shared} {g₁ : Heap} {C : Addr} {J : KV → (List Nat → Int) → Prop} {ys : KV} {f : List Nat → Int} {kv : Value} {k : List Nat} {nn : Int} {t : Tok} {h : Heap} {tk : Nat} {m : Str → Option Value} (S : St g₁ C h m []) (hk : isKey prog w z gk k kv)
    (j : ∀ ys', CM prog w z gk ys' (updK f k nn) → keysK ys' = (if k ∈ keysK ys then keysK ys else keysK ys ++ [k]) → J ys' (updK f k nn)) : DcEnd prog w z gk s g₁ C J ys f kv (.int nn t) { s with heap := h, toks := tk } :=
  ⟨k, nn, t, h, tk, m, rfl, hk, rfl, S, j⟩
def DcTest (prog : Program) (w : World) (A : Around) (z : Bool) (gk : Heap) (s : Shared) (g₁ : Heap) (C : Addr) (cenv : Env) (kx vx : Expr) (J : KV → (List Nat → Int) → Prop) (ys : KV) (f : List Nat → Int) (ok : Bool) (s' : Shared) : Prop :=
  ∃ h' tk' m', s' = { s with heap := h', toks := tk' } ∧ St g₁ C h' m' [] ∧
    (ok = true → wpAny (model prog w) A (eval kx cenv) (fun kv s₄ => wpAny (model prog w) A (eval vx cenv) (DcEnd prog w z gk s g₁ C J ys f kv) FalseE s₄) FalseE s') ∧ (ok = false → J ys f)
theorem DcTest.no {s : Shared} {g₁ : Heap} {C : Addr} {cenv : Env} {kx vx : Expr} {J : KV → (List Nat → Int) → Prop} {ys : KV} {f : List Nat → Int} {h : Heap} {tk : Nat} {m : Str → Option Value} (S : St g₁ C h m []) (j : J ys f) :
    DcTest prog w A z gk s g₁ C cenv kx vx J ys f false { s with heap := h, toks := tk } := ⟨h, tk, m, rfl, S, (fun q => by cases q), fun _ => j⟩
theorem DcTest.yes {s : Shared} {g₁ : Heap} {C : Addr} {cenv : Env} {kx vx : Expr} {J : KV → (List Nat → Int) → Prop} {ys : KV} {f : List Nat → Int} {h : Heap} {tk : Nat} {m : Str → Option Value} (S : St g₁ C h m [])
    (j : wpAny (model prog w) A (eval kx cenv) (fun kv s₄ => wpAny (model prog w) A (eval vx cenv) (DcEnd prog w z gk s g₁ C J ys f kv) FalseE s₄) FalseE { s with heap := h, toks := tk }) :
    DcTest prog w A z gk s g₁ C cenv kx vx J ys f true { s with heap := h, toks := tk } := ⟨h, tk, m, rfl, S, fun _ => j, fun q => by cases q⟩
theorem dcLoop {kx vx iter : Expr} {ifs : List Expr} {x : Str} {px : Pos} {scope : Scope} {pos : Pos} {cenv : Env} {D : Addr} {m : Str → Option Value} {R : Result → Shared → Prop}
    (J : Nat → KV → (List Nat → Int) → Prop) (hu : A.units < cLine) (hgk : Sub gk g) (X : It prog w A I fp n P Si) (hn : n ≤ 1000) (hx : cenv.kindOf x = some .local) (hp : (cenv.scope.kind == .class || (cenv.scope.kind == .module && cenv.locals != cenv.globals)) = false)
    (S : St g cenv.locals s.heap m [(D, isM prog w z (.type "dict") none [])]) (hst : Si 0 s.heap) (off : ItOff g cenv.locals I fp [] [(D, isM prog w z (.type "dict") none [])]) (hD : D ∉ fp) (j0 : J 0 [] (fun _ => 0))
    (turn : ∀ i v ys f (m₁ : Str → Option Value) g₁ h tk, i < n → P i v → J i ys f → CM prog w z gk ys f → Sub g g₁ →
      St g₁ cenv.locals h (fun y => if y = x then some v else m₁ y) [] →
      Tests (model prog w) A ifs cenv (DcTest prog w A z gk s g₁ cenv.locals cenv kx vx (J (i + 1)) ys f) { s with heap := h, toks := tk })
    (done : ∀ ys f m₁ h tk, J n ys f → CM prog w z gk ys f → ys.length ≤ n → St g cenv.locals h m₁ [(D, isM prog w z (.type "dict") none ys)] → R (.ok .next) { s with heap := h, toks := tk }) :
    codeAny (model prog w) A (.compLoop (.DictComp kx vx [⟨.Name x px, iter, ifs, 0⟩] scope pos) 0 (.ref I) (.ref D) cenv) R s := by
  refine codeAny_compLoop_testsD (fun k s' => ∃ i h tk m₁ ys f, s' = { s with heap := h, toks := tk } ∧ Si i h ∧ St g cenv.locals h m₁ [(D, isM prog w z (.type "dict") none ys)] ∧ J i ys f ∧ CM prog w z gk ys f ∧ ys.length ≤ i ∧ i ≤ n ∧ k = n + 1 - i) ?_ (n + 1)
    ⟨0, s.heap, s.toks, m, [], fun _ => 0, rfl, hst, S, j0, CM.nil, Nat.le_refl _, Nat.zero_le _, rfl⟩
  rintro k s' ⟨i, h, tk, m₁, ys, f, rfl, hsi, S₁, j₁, M₁, hl, hi, rfl⟩
  have O₁ : ItOff g cenv.locals I fp [] [(D, isM prog w z (.type "dict") none ys)] := ⟨off.g, off.L, off.mu, fun q => off.rest (by simpa using q)⟩
  by_cases hlt : i < n
  · refine X.W.item i _ _ _ hlt hsi fun v h₁ tk₁ hP hst₁ hk₁ => ?_
    have S₂ := St.next (mu := []) S₁ O₁ X.self hk₁
    refine wpAny_assign_Name (wpAny_storeName_local hx S₂.ns (fun h₂ hn₂ hs₂ => ?_) hp)
    have S₃ := S₂.setNs hn₂ hs₂
    have hst₂ : Si (i + 1) h₂ := X.W.frame _ _ _ hst₁ fun b hb o e => (hs₂.2 b fun q => off.L (q ▸ hb)).trans e
    obtain ⟨g₁, sub₁, S₄, at₁, all₁⟩ := St.rebase (news := []) S₃
    have fpg : ∀ b ∈ fp, ∀ o, h₂.get? b = some o → g₁.get? b = some o := fun b hb o e => all₁ b o e (fun q => off.L (q ▸ hb)) (by simp)
    have back : ∀ {h' : Heap} {m' : Str → Option Value}, St g₁ cenv.locals h' m' [] → St g cenv.locals h' m' [(D, isM prog w z (.type "dict") none ys)] ∧ Si (i + 1) h' := fun S₅ =>
      ⟨St.unbase (mu := []) S₅ sub₁ at₁ (fun p hp => by
        rw [List.mem_singleton.mp hp]
        exact ⟨(S₁.o.own _ (.head _)).2, S₁.neL (.head _)⟩) (by simp), X.W.frame _ _ _ hst₂ fun b hb o e => S₅.keep b o (fpg b hb o e)⟩
    refine wpAny_mono (turn i v ys f m₁ g₁ h₂ _ hlt hP j₁ M₁ sub₁ S₄).run (fun ok s₃ h₃ => ?_) fun _ _ e => e
    obtain ⟨h₃, tk₃, m₃, rfl, S₅, hok, hno⟩ := h₃
    cases ok with
    | false =>
      simp only [Bool.false_eq_true, if_false]
      obtain ⟨b1, b2⟩ := back S₅
      exact ⟨n + 1 - (i + 1), by omega, i + 1, h₃, tk₃, m₃, ys, f, rfl, b2, b1, hno rfl, M₁, by omega, hlt, rfl⟩
    | true =>
      simp only [if_true]
      refine toFalse (wpAny_mono (hok rfl) (fun kv s₄ h₄ => toFalse (wpAny_mono h₄ (fun vv s₅ h₅ => ?_) fun _ _ e => e)) fun _ _ e => e)
      obtain ⟨k, nn, t, h₅, tk₅, m₅, rfl, hkk, rfl, S₆, jn⟩ := h₅
      obtain ⟨b1, b2⟩ := back S₆
      have sk : Sub gk h₅ := fun b o e => b1.keep b o (hgk b o e)
      refine set_K hu (hkk.keeps sk) (b1.get (.head _)) (M₁.keys.keeps sk) (by omega) fun h₆ tk₆ a b => ?_
      have S₇ := St.upd0 b1 b a
      refine ⟨n + 1 - (i + 1), by omega, i + 1, h₆, tk₆, m₅, _, _, rfl, ?_, S₇, jn _ (M₁.put hkk nn t) putK_keys, M₁.put hkk nn t, Nat.le_trans putK_len (by omega), hlt, rfl⟩
      exact X.W.frame _ _ _ b2 fun c hc o e => (b.2 c fun q => hD (q ▸ hc)).trans e
  · have hin : i = n := by omega
    subst hin
    refine X.W.done _ _ _ hsi fun h₁ tk₁ hk₁ => ?_
    exact done ys f m₁ h₁ tk₁ j₁ M₁ hl (St.next (mu := []) S₁ O₁ X.self hk₁)
theorem St.sub0 {g h : Heap} {L : Addr} {m : Str → Option Value} {news : Led} (S : St g L h m news) : St g L h m [] := S.sub (fun p q => by simp at q) (by simp)
/-- an iterator at hand for a dict comprehension -/
def DcAt (prog : Program) (w : World) (A : Around) (env : Env) (scope : Scope) (cl : List (Str × Addr)) (kx vx : Expr) (ifs : List Expr) (x : Str) (it : Value) (s : Shared) (fin : Addr → Heap → Nat → Prop) : Prop :=
  ∃ (z : Bool) (gk g : Heap) (m : Str → Option Value) (I : Addr) (fp : List Addr) (n : Nat) (P : Nat → Value → Prop) (Si : Nat → Heap → Prop) (rest : Led) (PI : Obj → Prop) (J : Nat → KV → (List Nat → Int) → Prop), it = .ref I ∧ It prog w A I fp n P Si ∧ n ≤ 1000 ∧ Sub gk g ∧ Gd w g ∧ Si 0 s.heap ∧
    St g env.locals s.heap m ((I, PI) :: rest) ∧ (∀ b ∈ fp, b < s.heap.objs.size) ∧ J 0 [] (fun _ => 0) ∧
    (∀ i v ys f (m₁ : Str → Option Value) g₁ C h tk, i < n → P i v → J i ys f → CM prog w z gk ys f → Sub g g₁ → (∀ p ∈ rest, At g₁ p) →
      St g₁ C h (fun y => if y = x then some v else m₁ y) [] →
      Tests (model prog w) A ifs (compEnvC scope cl C env) (DcTest prog w A z gk s g₁ C (compEnvC scope cl C env) kx vx (J (i + 1)) ys f) { s with heap := h, toks := tk }) ∧
    (∀ ys f D h tk, (D == sysModules) = false → J n ys f → CM prog w z gk ys f → ys.length ≤ n → St g env.locals h m ((D, isM prog w z (.type "dict") none ys) :: rest) → fin D h tk)
theorem dcS {kx vx iter : Expr} {ifs : List Expr} {x : Str} {px : Pos} {scope : Scope} {pos : Pos} {cl : List (Str × Addr)} {Q : Value → Shared → Prop} (hu : A.units < cLine)
    (hclos : closureFor scope env = pure cl) (hcell : ∀ y ∈ scope.names, y.2 ≠ .cell) (hkind : scope.kind = .function) (hnames : ∀ y ∈ scope.names, y.2 = .local → scope.names.lookup y.1 = some .local) (hx : scope.names.lookup x = some .local)
    (h : wpAny (model prog w) A (eval iter env) (fun xv s₁ => wpAny (model prog w) A (pyIter xv) (fun it s₂ => DcAt prog w A env scope cl kx vx ifs x it s₂ (fun D h tk => Q (.ref D) { s₂ with heap := h, toks := tk })) FalseE s₁) FalseE s)
    (hs : ∀ x, foldedSetIterable iter env x = pure x := by intro _; rfl) :
    wpAny (model prog w) A (eval (.DictComp kx vx [⟨.Name x px, iter, ifs, 0⟩] scope pos) env) Q FalseE s := by
  rw [arm_eval_DictComp]
  refine wpAny_comprehension_free (use := none) rfl hs hclos hkind hnames (wpAny_mono h (fun xv s₁ h₁ => wpAny_mono h₁ (fun it s₂ h₂ => ?_) fun _ _ e => e) fun _ _ e => e)
  obtain ⟨z, gk, g, m, I, fp, n, P, Si, rest, PI, J, rfl, X, hsz, hgk, G, hst, S, hfp, j0, turn, fin⟩ := h₂
  have nd := S.o.nd
  obtain ⟨g', hg, O, hrest, hall, back⟩ := S.lend [(I, PI)] rest (fun p hp => by rw [List.mem_singleton.mp hp]; exact .head _) (fun p hp => .tail _ hp) nd
  refine wpAny_newObj_type ?_
  have O₁ := O.push (P := isM prog w z (.type "dict") none []) { cls := .type "dict", dict := none, data := .dict #[] } ⟨rfl, rfl, rfl, #[], 0, rfl, rfl⟩
  refine wpAny_newFunctionEnv hcell (by intro y hy; simp at hy) (fun h₁ hns₁ hsb₁ => ?_) hkind
  have S₁ := O₁.frame hns₁ hsb₁
  have hDf : s₂.heap.objs.size ∉ fp := fun q => Nat.lt_irrefl _ (hfp _ q)
  have hDm : (s₂.heap.objs.size == sysModules) = false := beq_eq_false_iff_ne.mpr (Nat.ne_of_gt (modules_low (G.nolimit.keeps S.keep)))
  have lt2 : ∀ b ∈ fp, b < (s₂.heap.push { cls := .type "dict", dict := none, data := .dict #[] }).objs.size := fun b hb => by rw [Heap.size_push]; exact Nat.lt_succ_of_lt (hfp b hb)
  have hst₁ : Si 0 h₁ := X.W.frame _ _ _ hst fun b hb o e => (hsb₁.2 b fun q => absurd (lt2 b hb) (by rw [q]; exact Nat.lt_irrefl _)).trans (Heap.get?_push_of_some _ (Heap.get?_push_of_some _ e))
  have S₂ : St g' (s₂.heap.push { cls := .type "dict", dict := none, data := .dict #[] }).objs.size h₁ _ [(s₂.heap.objs.size, isM prog w z (.type "dict") none [])] := S₁.sub (fun p hp => by
    rw [List.mem_singleton.mp hp]; exact .head _) (by simp)
  have loop : ∀ s₃ : Shared, s₃ = { s₂ with heap := h₁, toks := s₂.toks + ([] : List (Str × Value)).length } →
      codeAny (model prog w) A (.compLoop (.DictComp kx vx [⟨.Name x px, iter, ifs, 0⟩] scope pos) 0 (.ref I) (.ref s₂.heap.objs.size) (compEnvC scope cl (s₂.heap.push { cls := .type "dict", dict := none, data := .dict #[] }).objs.size env))
        (compPost (model prog w) A FalseE none Q (.ref s₂.heap.objs.size) (s₂.heap.push { cls := .type "dict", dict := none, data := .dict #[] }).objs.size) s₃ := by
    rintro s₃ rfl
    refine dcLoop (g := g') (gk := gk) (cenv := compEnvC scope cl _ env) J hu (fun b o e => hg b o (hgk b o e)) X hsz (lookup_relabel_local hx) (by simp [compEnvC, relabel, hkind]) S₂ hst₁
      ⟨(O.own (I, PI) (.head _)).2, fun q => absurd (lt2 _ q) (Nat.lt_irrefl _), fun p hp => by simp at hp, fun q => ?_⟩ hDf j0 (fun i v ys f m₁ g₁ h tk hi hP j M sub S' => ?_) fun ys f m₁ h tk j M hl S' => ?_
    · have : I = s₂.heap.objs.size := by simpa using q
      exact hDf (this ▸ X.self)
    · exact turn i v ys f m₁ g₁ _ h tk hi hP j M (fun b o e => sub b o (hg b o e)) (fun p hp => (hrest p hp).keeps sub) S'
    · have hgC : g.get? (s₂.heap.push { cls := .type "dict", dict := none, data := .dict #[] }).objs.size = none := by
        cases q : g.get? (s₂.heap.push { cls := .type "dict", dict := none, data := .dict #[] }).objs.size with
        | none => rfl
        | some o => have h7 : g'.get? (s₂.heap.push { cls := .type "dict", dict := none, data := .dict #[] }).objs.size = none := S'.offg
                    rw [hg _ _ q] at h7; cases h7
      have S₆ : St g env.locals h m ((s₂.heap.objs.size, isM prog w z (.type "dict") none ys) :: rest) := back h _ S'.o
      refine ⟨m₁, S'.ns, fun h' hs => fin ys f _ h' tk hDm j M hl (S₆.sameBut hs hgC (fun q => ?_) fun q => ?_)⟩
      · have := S.ns.lt
        have h8 : (s₂.heap.push { cls := .type "dict", dict := none, data := .dict #[] }).objs.size = env.locals := q
        rw [← h8, Heap.size_push] at this
        exact Nat.lt_irrefl _ (Nat.lt_of_succ_lt this)
      · rw [List.map_cons] at q
        rcases List.mem_cons.mp q with q | q
        · exact S'.offn (by rw [show (compEnvC scope cl (s₂.heap.push { cls := .type "dict", dict := none, data := .dict #[] }).objs.size env).locals = (s₂.heap.push { cls := .type "dict", dict := none, data := .dict #[] }).objs.size from rfl, q]; simp)
        · obtain ⟨p, hp, e⟩ := List.mem_map.mp q
          obtain ⟨o, eo, _⟩ := hrest p hp
          have h7 : g'.get? (s₂.heap.push { cls := .type "dict", dict := none, data := .dict #[] }).objs.size = none := S'.offg
          rw [← e, eo] at h7; cases h7
  exact codeAny_compStart_dict (loop _ rfl) (X.W.self 0 _ _ _ hst₁ (loop _ rfl))
end
end
section
set_option maxHeartbeats 4000000
section
variable {prog : Program} {w : World} {A : Around} {E : Value → Shared → Prop} {s : Shared} {z : Bool} {a b dx : Addr} {xs ys : KV} {C : Value} {oa ob : Option Addr} {g : Heap} {L T : Addr} {m : Str → Option Value} {news : Led}
theorem fillsC {M : Model} {h : Heap} {nm : String} {f : Addr} (X : (K1 w.params).In h) (hs : findIn (K1 w.params) (.ref 74) (PySem.dunder nm) = some (some (.ref f))) : Looks M h (fillsNumberSlot (.ref 74) nm) true := by
  have hc : ∃ cd rest, clsIn (K1 w.params) 74 = some cd ∧ cd.mro = .ref 74 :: rest := ⟨_, _, by k_is, rfl⟩
  obtain ⟨cd, rest, h1, h2⟩ := hc
  exact fills_K X h1 h2 hs
/-- a Counter with a Counter, by its own operator -/
theorem binC1 {nm : String} {f : Addr} {Q : Option Value → Shared → Prop} (X : (K1 w.params).In s.heap) (ha : At s.heap (a, isM prog w z (.ref 74) oa xs)) (hb : At s.heap (b, isM prog w z (.ref 74) ob ys))
    (hs : findIn (K1 w.params) (.ref 74) (PySem.dunder nm) = some (some (.ref f))) (hf : typeIn (K1 w.params) (.ref f) = some (.type "function"))
    (h : wpAny (model prog w) A (call (.ref f) [.ref a, .ref b]) (PySem.W.CmpBack fun v => Q (some v)) E s) : wpAny (model prog w) A (binaryOp1 nm (.ref a) (.ref b)) Q E s := by
  have L1 := typ_M (M := model prog w) ha
  have L2 := typ_M (M := model prog w) hb
  have L3 := fillsC (M := model prog w) X hs
  have L4 : Looks (model prog w) s.heap (typeLookup (.ref 74) (PySem.dunder nm)) (some (.ref f)) := looks_findIn X hs
  have L5 : Looks (model prog w) s.heap (bindSpecial (.ref f) (.ref a)) (.ref f, [.ref a]) := bind_fn X (.ref a) hf
  unfold binaryOp1
  refine wpAny_bind (L1.here (wpAny_bind (L2.here (wpAny_bind (L3.here ?_)))))
  rw [if_pos (by decide)]
  refine wpAny_bind (wpAny_pure ?_)
  simp only [Bool.and_false, Bool.false_and, Bool.false_eq_true, if_false]
  have tm : ∀ {Q' : Option Value → Shared → Prop}, (∀ v s', Q (some v) s' → Q' (some v) s') → wpAny (model prog w) A (tryMethod (.ref a) (PySem.dunder nm) (.ref b)) Q' E s := by
    intro Q' hQ
    unfold tryMethod
    refine wpAny_bind (wpAny_bind (wpAny_bind (L1.here (L4.here (wpAny_holding (wpAny_bind (L5.here (wpAny_bind (wpAny_mono h (fun v s' q => wpAny_pure ?_) fun _ _ e => e)))))))))
    cases v <;> first | exact q.elim | exact wpAny_pure (hQ _ _ q)
  obtain ⟨hp, gs, dr, tk, os⟩ := s
  repeat (first | simp only [Bool.and_false, Bool.false_and, Bool.false_eq_true, if_false, if_true] | ((fail_if_success (with_reducible show wpAny _ _ (tryMethod _ _ _) _ _ _)); lk))
  refine tm fun v s' q => ?_
  exact wpAny_pure q
theorem subOpC {Q : Value → Shared → Prop} (X : (K1 w.params).In s.heap) (ha : At s.heap (a, isM prog w z (.ref 74) oa xs)) (hb : At s.heap (b, isM prog w z (.ref 74) ob ys))
    (h : wpAny (model prog w) A (call (.ref 71) [.ref a, .ref b]) (PySem.W.CmpBack Q) E s) : wpAny (model prog w) A (binaryOp .Sub (.ref a) (.ref b)) Q E s := by
  simp only [binaryOp, show Operator.Sub.info = ("-", "sub") from rfl]
  refine wpAny_holding (wpAny_bind (binC1 (f := 71) X ha hb (by show findIn _ _ (Str.ofString "__sub__") = _; k_is) (by k_is) (wpAny_mono h (fun v s' q => ?_) fun _ _ e => e)))
  cases v <;> first | exact q.elim | exact wpAny_pure q
theorem inC74 {M : Model} {h : Heap} (X : (K1 w.params).In h) : Looks M h (fillsInplaceSlot (.ref 74) "and" false) false := by
  intro A Q E s k q
  have X' := fun b o e => k b o (X b o e)
  have m := (ctr_of (M := M) X).mro.keeps k
  have l1 : Looks M s.heap (typeLookup (.ref 74) (dunderI "and")) none := looks_findIn X' (by show findIn _ _ (Str.ofString "__iand__") = _; k_is)
  have l2 : Looks M s.heap (typeLookup (.type "dict") (dunderI "and")) none := looks_findIn X' (by show findIn _ _ (Str.ofString "__iand__") = _; k_is)
  have l3 : Looks M s.heap (typeLookup (.type "object") (dunderI "and")) none := looks_findIn X' (by show findIn _ _ (Str.ofString "__iand__") = _; k_is)
  unfold fillsInplaceSlot
  refine wpAny_bind (m.here ?_)
  simp only [List.anyM]
  refine wpAny_bind (wpAny_bind (l1.here (wpAny_pure ?_)))
  refine wpAny_bind (wpAny_bind (l2.here (wpAny_pure ?_)))
  refine wpAny_bind (wpAny_bind (l3.here (wpAny_pure ?_)))
  exact wpAny_pure q
theorem iandC {Q : Value → Shared → Prop} (X : (K1 w.params).In s.heap) (ha : At s.heap (a, isM prog w z (.ref 74) oa xs)) (hb : At s.heap (b, isM prog w z (.ref 74) ob ys))
    (h : wpAny (model prog w) A (call (.ref 49) [.ref a, .ref b]) (PySem.W.CmpBack Q) E s) : wpAny (model prog w) A (inplaceOp .BitAnd (.ref a) (.ref b)) Q E s := by
  unfold inplaceOp
  simp only [show Operator.BitAnd.info = ("&", "and") from rfl]
  refine wpAny_holding (wpAny_bind ((typ_M ha).here (wpAny_bind ((inC74 X).here ?_))))
  simp only [Bool.false_eq_true, if_false]
  refine wpAny_bind (binC1 (f := 49) X ha hb (by show findIn _ _ (Str.ofString "__and__") = _; k_is) (by k_is) (wpAny_mono h (fun v s' q => ?_) fun _ _ e => e))
  cases v <;> first | exact q.elim | exact wpAny_pure q
/-- an item of a tuple -/
theorem subT {value slice : Expr} {vs : List Value} {k : Int} {u : Tok} {v : Value} {Q : Value → Shared → Prop} (hm : At s.heap (T, isT vs)) (h0 : 0 ≤ k) (hhi : k < 2 ^ 63) (hx : vs[k.toNat]? = some v) (h : Q v s)
    (hs : subscripted slice false (.ref T) (.int k u) = operate [.ref T, .int k u] (getItem (.ref T) (.int k u)) := by with_unfolding_all rfl) :
    wpAny (model prog w) A (subscriptTail value slice (.ref T) (.int k u)) Q E s := by
  have hlt := (List.getElem?_eq_some_iff.mp hx).1
  refine item_tupleT (isTup_of hm) (by omega) hhi (j := k.toNat) ?_ hx h hs
  unfold seqIndex?
  have e1 : ¬ k < 0 := by omega
  have e2 : (decide (0 ≤ k) && decide (k < (vs.length : Int))) = true := by rw [Bool.and_eq_true, decide_eq_true_iff, decide_eq_true_iff]; omega
  simp only [if_neg e1, e2, if_true]
theorem sliceT {value slice : Expr} {vs : List Value} {k : Nat} {u : Tok} {Q : Value → Shared → Prop} (S : St g L s.heap m news) (hm : At s.heap (T, isT vs)) (h1 : 1 ≤ k) (hk : k ≤ vs.length) (hz : vs.length ≤ 1000)
    (h : ∀ T' h', St g L h' m ((T', isT (vs.drop k)) :: news) → Q (.ref T') { s with heap := h' })
    (hs : subscripted slice false (.ref T) (.ref s.heap.objs.size) = operate [.ref s.heap.objs.size, .ref T] (getItem (.ref T) (.ref s.heap.objs.size)) := by with_unfolding_all rfl)
    (hg : ∀ r, letTemporaryGo value (.ref T) r = pure () := by intro _; with_unfolding_all rfl) :
    wpAny (model prog w) A (subscriptTail value slice (.ref T) (.ref s.heap.objs.size)) Q E { s with heap := s.heap.push { cls := .type "slice", data := .fields #[.int k u, .none, .none] } } := by
  have ht : IsTup s.heap T vs.toArray := isTup_of hm
  have ht' : IsTup (s.heap.push { cls := .type "slice", data := .fields #[.int k u, .none, .none] }) T vs.toArray := ht.keeps fun _ _ e => Heap.get?_push_of_some _ e
  refine subscriptTail_ops (s := { s with heap := s.heap.push { cls := .type "slice", data := .fields #[.int k u, .none, .none] } }) ht'.typeIs slot_tuple_getitem.lookup
    (getItem_tuple_from ht' (Heap.IsSliceOf.new ..) h1 (by simpa using hk) ?_ (by rw [List.size_toArray, sizeLine_eq]; omega)) hs hg
  have S₁ := S.push (P := any) { cls := .type "slice", data := .fields #[.int k u, .none, .none] } trivial
  have S₂ := S₁.push (P := isT (vs.drop k)) { cls := .type "tuple", data := .seq (vs.toArray.toList.drop k).toArray } ⟨rfl, 0, by simp⟩
  exact h _ _ S₂.drop2
end
end
section
set_option maxHeartbeats 4000000
open Builtin Builtin.ObjectAttr
theorem args_getattr_3 (a b c : Value) : argsOk "getattr" ⟨[a, b, c], []⟩ := by unfold argsOk; kernel_rfl
section
variable {prog : Program} {w : World} {A : Around} {E : Value → Shared → Prop} {s : Shared} {x dx : Addr} {at_ : List (Str × Value)}
theorem bagName {M : Model} {h : Heap} (X : (K1 w.params).In h) (hx : At h (x, isO (instObj 304 dx))) : Looks M h (typeNameOfCut 100 (.ref x)) "Bag" := by
  obtain ⟨o, ho, rfl⟩ := hx
  obtain ⟨oc, od, cd, sl, hc, e1⟩ : ∃ oc od cd sl, (K1 w.params).lookup 304 = some ⟨oc, od, .cls cd, sl⟩ ∧ cd.name = Str.ofString "Bag" := ⟨_, _, _, _, by k_is, rfl⟩
  have hcl := X _ _ hc
  have t1 : Looks M h (typeOf (.ref x)) (.ref 304) := (Looks.ld ho).andThen .now
  have t2 : Looks M h (classData 304) cd := (Looks.ld hcl).andThen .now
  intro A Q E s k q
  unfold typeNameOfCut shownTypeOf
  refine wpAny_bind (wpAny_bind ((t1.keeps k).here ?_))
  rw [if_neg (by decide)]
  refine wpAny_pure ?_
  unfold typeNameCut
  refine wpAny_bind ((t2.keeps k).here ?_)
  rw [e1, if_pos (by decide +kernel)]
  refine wpAny_pure ?_
  have : (Str.ofString "Bag").toString = "Bag" := by decide +kernel
  rw [this]; exact q
/-- getattr(a Bag, 'as_set', False) -/
theorem asSet {u : Tok} {Q : Value → Shared → Prop} (hh : A.handled = none) (X : (K1 w.params).In s.heap) (hx : At s.heap (x, isO (instObj 304 dx))) (hd : At s.heap (dx, isA at_)) (hl : at_.lookup ("as_set" : Str) = none)
    (h : ∀ h' tk, Sub s.heap h' → Q (.bool false) { s with heap := h', toks := tk }) : wpAny (model prog w) A (call (.builtin "getattr") [.ref x, .str "as_set" u, .bool false]) Q E s := by
  obtain ⟨es, n, En, I⟩ := inst_of hx hd
  have L0 := I.type (M := model prog w)
  have hf : findObj (K1 w.params) 304 (some (dictOf es n)) "as_set" = some .missing := by
    have e1 : findIn (K1 w.params) (.ref 304) "as_set" = some none := by k_is
    have e2 : lookIn "as_set" (dictOf es n) = some none := by rw [lookIn_dict, En.look, hl]
    have e3 : hasDictIn (K1 w.params) 304 = true := by k_is
    obtain ⟨cd, hc, hdd⟩ := any_some e3
    unfold findObj
    rw [hc, Option.bind_some, e1, Option.bind_some]
    simp only [Option.bind_some]
    unfold PySem.W.ownOf
    rw [if_pos hdd]
    dsimp only
    rw [e2, Option.bind_some]
    have e4 : copiedNames.contains "as_set" = false := by decide +kernel
    simp only [e4, Bool.false_and, Bool.false_eq_true, if_false]
  have L1 := looks_find (M := model prog w) X I hf
  have hga : Looks (model prog w) s.heap (typeLookup (.ref 304) "__getattribute__") (some (.builtin "object.__getattribute__")) := looks_findIn X (by k_is)
  have hgt : Looks (model prog w) s.heap (typeLookup (.ref 304) "__getattr__") none := looks_findIn X (by k_is)
  have hmod : Looks (model prog w) s.heap (isInstance (.ref x) (.type "module")) false := L0.andThen (looks_subIn X (by k_is))
  have nm := bagName (M := model prog w) X hx
  refine Calls.call_function_entry KB.kind_getattr KB.plain_getattr KB.entry_getattr (args_getattr_3 _ _ _) ?_
  unfold Builtin.«getattr»
  refine wpAny_bind (wpAny_of_eq (a := [.ref x, .str "as_set" u, .bool false]) (by first | rfl | kernel_rfl) ?_)
  dsimp only
  refine wpAny_bind (wpAny_of_eq (a := ()) (by first | rfl | kernel_rfl) ?_)
  obtain ⟨hp, gs, dr, tk, os⟩ := s
  have look : ∀ {Q : Option Value → Shared → Prop} {E : Value → Shared → Prop}, (∀ h' tk, Sub hp h' → Q none ⟨h', gs, dr, tk, os⟩) → wpAny (model prog w) A.in1 (getAttrBy? (.ref x) (.str "as_set" u)) Q E ⟨hp, gs, dr, tk, os⟩ := by
    intro Q E hq
    unfold getAttrBy?
    refine wpAny_bind (wpAny_attempt ?_)
    unfold getAttrBy
    refine wpAny_holding (wpAny_bind (L0.at (wpAny_bind (hga.at ?_))))
    show wpAny _ _ (getAttrEveryday _ _ _) _ _ _
    refine wpAny_bind (wpAny_onRaise (wpAny_runValue (codeAny_builtin F.plainObj_entry_getattr_hooked ?_)))
    refine wpAny_bind (wpAny_pure (wpAny_bind (L0.at (wpAny_bind (L1.at (wpAny_bind (hgt.at ?_)))))))
    show wpAny _ _ (noSuchAttribute _ _) _ _ _
    unfold noSuchAttribute
    refine wpAny_bind (nm.at ?_)
    refine wpAny_raiseAttrError hh (fun h' tk' e ne => ?_) (by decide +kernel)
    show wpAny _ _ (noteIf false _ _ _) _ _ _
    refine wpAny_pure ?_
    obtain ⟨o, _, ho, hc, _⟩ := ne.of.there
    refine wpAny_bind (wpAny_isInstance (T := "AttributeError") (b := true) ⟨o, ho, hc⟩ sub_AttributeError ?_)
    simp only [if_true]
    exact wpAny_pure (hq _ _ ne.keeps)
  repeat ((fail_if_success (with_reducible show wpAny _ _ (getAttrBy? _ _) _ _ _)); lk)
  refine look fun h' tk' sb => ?_
  exact wpAny_pure ⟨_, rfl, h h' tk' sb⟩
end
end
section
set_option maxHeartbeats 4000000
section
variable {prog : Program} {w : World} {A : Around} {E : Value → Shared → Prop} {s : Shared} {it d : Addr} {es : Array DictEntry} {ep i : Nat}
theorem vnext_item {e : DictEntry} {Q : Option Value → Shared → Prop} (hit : s.heap.IsValIter it d i es.size ep) (hm : DatAt s.heap d es ep) (hx : es[i]? = some e)
    (hQ : ∀ h', h'.IsValIter it d (i + 1) es.size ep → Heap.SameBut it s.heap h' → Q (some e.val) { s with heap := h' }) : wpAny (model prog w) A (pyNext (.ref it)) Q E s := by
  obtain ⟨o, ho, hc, hd⟩ := id hit
  obtain ⟨od, hod, hdd⟩ := id hm
  unfold pyNext
  refine wpAny_bind (wpAny_attempt (wpAny_callSpecial?_slot (name := Str.ofString "__next__") hit.typeIs PySem.F.slot_dict_valueiterator_next
    (wpAny_call_entry PySem.F.slot_dict_valueiterator_next hit.typeIs PySem.F.entry_dict_valueiterator_next ?_ (PySem.F.args_dict_valueiterator_next_1 _))))
  refine wpAny_bind (wpAny_pure (wpAny_bind (wpAny_bind (wpAny_bind (wpAny_typeNameOfWhole_valiter hit.typeIs (wpAny_pure ?_))))))
  refine wpAny_bind (wpAny_fieldsOf ho hd ?_)
  have hown : Builtin.Dict_items.ownsTuple "dict_valueiterator" = false := by decide
  simp only [hown, Bool.false_eq_true, if_false]
  show wpAny _ _ (if (Value.ref d == Value.none) = true then _ else _) _ _ s
  rw [if_neg (show ¬ ((Value.ref d == Value.none) = true) from Bool.false_ne_true)]
  refine wpAny_bind (wpAny_pure (wpAny_bind (wpAny_dictEntries hod hdd ?_)))
  rw [if_neg (by simp)]
  refine wpAny_bind (wpAny_pure (wpAny_bind (wpAny_dictEpoch hod hdd ?_)))
  rw [if_neg (by simp)]
  refine wpAny_pure ?_
  simp only [show ¬ ((i : Int) < 0) from by omega, if_false, Int.toNat_natCast, hx]
  refine wpAny_bind (wpAny_bind (wpAny_typeNameOfWhole_valiter hit.typeIs (wpAny_pure ?_)))
  refine wpAny_bind (wpAny_isOneOf_valiter hit.typeIs ?_)
  show wpAny _ _ (setField (.ref it) 1 (rawInt ((i : Int) + 1)) >>= _) _ _ s
  refine wpAny_bind (wpAny_setField ho hd (by simp) ?_)
  have hit' : (s.heap.update it (Obj.mapFields (·.setIfInBounds 1 (rawInt ((i : Int) + 1))))).IsValIter it d (i + 1) es.size ep :=
    ⟨_, Heap.get?_update_self _ ho (Obj.isFreed_of_fields (Obj.data_mapFields hd _)), (Obj.cls_mapFields ..).trans hc, by rw [Obj.data_mapFields hd]; simp [rawInt]⟩
  refine wpAny_bind (wpAny_holding (wpAny_bind (wpAny_isOneOf_valiter (s := { s with heap := s.heap.update it (Obj.mapFields (·.setIfInBounds 1 (rawInt ((i : Int) + 1)))) }) hit'.typeIs ?_)))
  refine wpAny_bind (wpAny_isOneOf_valiter (s := { s with heap := s.heap.update it (Obj.mapFields (·.setIfInBounds 1 (rawInt ((i : Int) + 1)))) }) hit'.typeIs ?_)
  show wpAny _ _ (pure e.val) _ _ _
  exact wpAny_pure (wpAny_pure ⟨_, rfl, wpAny_pure (hQ _ hit' (Heap.SameBut.update ..))⟩)
theorem vnext_end {Q : Option Value → Shared → Prop} (hh : A.handled = none) (hit : s.heap.IsValIter it d es.size es.size ep) (hm : DatAt s.heap d es ep)
    (hQ : ∀ h', Heap.ExtBut it s.heap h' → Q none { s with heap := h' }) : wpAny (model prog w) A (pyNext (.ref it)) Q E s := by
  obtain ⟨o, ho, hc, hd⟩ := id hit
  obtain ⟨od, hod, hdd⟩ := id hm
  unfold pyNext
  refine wpAny_bind (wpAny_attempt (wpAny_callSpecial?_slot (name := Str.ofString "__next__") hit.typeIs PySem.F.slot_dict_valueiterator_next
    (wpAny_call_entry PySem.F.slot_dict_valueiterator_next hit.typeIs PySem.F.entry_dict_valueiterator_next ?_ (PySem.F.args_dict_valueiterator_next_1 _))))
  refine wpAny_bind (wpAny_pure (wpAny_bind (wpAny_bind (wpAny_bind (wpAny_typeNameOfWhole_valiter hit.typeIs (wpAny_pure ?_))))))
  refine wpAny_bind (wpAny_fieldsOf ho hd ?_)
  have hown : Builtin.Dict_items.ownsTuple "dict_valueiterator" = false := by decide
  simp only [hown, Bool.false_eq_true, if_false]
  show wpAny _ _ (if (Value.ref d == Value.none) = true then _ else _) _ _ s
  rw [if_neg (show ¬ ((Value.ref d == Value.none) = true) from Bool.false_ne_true)]
  refine wpAny_bind (wpAny_pure (wpAny_bind (wpAny_dictEntries hod hdd ?_)))
  rw [if_neg (by simp)]
  refine wpAny_bind (wpAny_pure (wpAny_bind (wpAny_dictEpoch hod hdd ?_)))
  rw [if_neg (by simp)]
  refine wpAny_pure ?_
  have hx : es[es.size]? = none := by simp
  simp only [show ¬ ((es.size : Int) < 0) from by omega, if_false, Int.toNat_natCast, hx]
  refine wpAny_bind (wpAny_bind (wpAny_typeNameOfWhole_valiter hit.typeIs (wpAny_pure ?_)))
  show wpAny _ _ (setField (.ref it) 0 .none >>= _) _ _ s
  refine wpAny_bind (wpAny_setField ho hd (by simp) ?_)
  show wpAny _ _ (newExc (.type "StopIteration") [] >>= _) _ _ _
  refine wpAny_bind ?_
  simp only [newExc, newTuple]
  refine wpAny_bind (wpAny_newObj_type ?_ (by size_fits))
  refine wpAny_bind (m := firstArgMember _ _) (wpAny_of_eq (a := Value.none) (by first | rfl | (simp only [firstArgMember]; rfl)) ?_)
  refine wpAny_newObj_type ?_ (by size_fits)
  simp only [raiseNew]
  refine wpAny_bind (wpAny_handled ?_)
  rw [show A.in1.handled = none from hh]
  refine wpAny_bind (wpAny_pure (wpAny_throw ?_))
  refine wpAny_bind (wpAny_isInstance (T := "StopIteration") (b := true) ⟨_, Heap.get?_push_size _ rfl, rfl⟩ isSubtype_stop ?_)
  exact wpAny_pure (hQ _ (((Heap.SameBut.update ..).extBut.push _).push _))
theorem Walks.valsM (hh : A.handled = none) (I d : Addr) (hne : d ≠ I) (es : Array DictEntry) (ep : Nat) :
    Walks prog w A I [I, d] [I] es.size (fun i v => ∃ e, es[i]? = some e ∧ v = e.val) (fun i h => h.IsValIter I d i es.size ep ∧ DatAt h d es ep) where
  sub := fun b hb => by simp at hb; simp [hb]
  frame := fun _ _ _ st hk => ⟨st.1.at fun o e => hk I (by simp) o e, st.2.at' fun o e => hk d (by simp) o e⟩
  item := fun i s Q E hi st hQ => by
    refine vnext_item st.1 st.2 (Array.getElem?_eq_getElem hi) fun h' hit' hs' => ?_
    exact hQ _ h' s.toks ⟨es[i], Array.getElem?_eq_getElem hi, rfl⟩ ⟨hit', st.2.at' fun o e => (hs'.2 d hne).trans e⟩ fun b o hb e => hs'.extBut b o (fun h => hb (by simp [h])) e
  done := fun s Q E st hQ => vnext_end hh st.1 st.2 fun h' he' => hQ h' s.toks fun b o hb e => he' b o (fun h => hb (by simp [h])) e
  self := fun _ _ _ _ st hQ => wpAny_pyIter_valiter st.1 hQ
end
abbrev isVw (d : Addr) : Obj → Prop := fun o => o.cls = .type "dict_values" ∧ o.data = .fields #[.ref d]
theorem preSum_list (f : List Nat → Int) : ∀ (ks : List (List Nat)) (val : Nat → Int), (∀ i k, ks[i]? = some k → val i = f k) → ∀ n, n ≤ ks.length → preSum val n = ((ks.take n).map f).sum := by
  intro ks val hv n
  induction n with
  | zero => intro _; simp [preSum]
  | succ n ih =>
    intro hn
    have hk : ks[n]? = some ks[n] := List.getElem?_eq_getElem (by omega)
    rw [preSum, ih (by omega), hv n _ hk, List.take_add_one, hk, List.map_append, List.sum_append]
    simp only [Option.toList_some, List.map_cons, List.map_nil, List.sum_cons, List.sum_nil, Int.add_zero]
section
variable {prog : Program} {w : World} {A : Around} {E : Value → Shared → Prop} {s : Shared} {z : Bool} {c : Addr} {xs : KV} {odx : Option Addr} {g gk : Heap} {L : Addr} {m : Str → Option Value} {news : Led} {Q : Value → Shared → Prop} {f : List Nat → Int}
theorem valuesC (X : (K1 w.params).In s.heap) (hcs : (c == sysModules) = false) (hm : At s.heap (c, isM prog w z (.ref 74) odx xs)) (S : St g L s.heap m news)
    (h : ∀ v h', St g L h' m ((v, isVw c) :: news) → Q (.ref v) { s with heap := h' }) : wpAny (model prog w) A (call (.builtin "dict.values") [.ref c]) Q E s := by
  refine wpAny_call (slot_M (n := "values") (ctr_cls X) hm PySem.F.slot_dict_values.plain PySem.F.entry_dict_values (.inr (by decide +kernel)) (by decide +kernel) (PySem.F.args_dict_values_1 _) ?_)
  unfold Builtin.«dict.values»
  refine wpAny_bind ?_
  unfold Builtin.Dict.noArgs
  refine wpAny_bind (notOrd_M X hm ?_)
  show wpAny _ _ (pure c) _ _ s
  refine wpAny_pure ?_
  show wpAny _ _ (Builtin.Dict.showsAll c >>= _) _ _ s
  unfold Builtin.Dict.showsAll
  rw [if_neg (by rw [hcs]; exact Bool.false_ne_true)]
  refine wpAny_bind (wpAny_pure ?_)
  exact wpAny_bind (wpAny_newObj_type (wpAny_pure (h _ _ (S.push _ ⟨rfl, rfl⟩))))
/-- sum(c.values()) -/
theorem sumC {v : Addr} (hh : A.handled = none) (hv : At s.heap (v, isVw c)) (hm : At s.heap (c, isM prog w z (.ref 74) odx xs)) (M : CM prog w z gk xs f) (hb : ∀ k, 0 ≤ f k ∧ f k ≤ 1000) (hz : xs.length ≤ 1000) (S : St g L s.heap m news)
    (h : ∀ h' tk t, St g L h' m news → Q (.int ((keysK xs).map f).sum t) { s with heap := h', toks := tk }) : wpAny (model prog w) A (call (.builtin "sum") [.ref v]) Q E s := by
  obtain ⟨o, ho, hc, hdx, hsl, es, ep, hdat, he⟩ := id hm
  obtain ⟨ov, hov, hcv, hdv⟩ := hv
  have hsz : es.size = xs.length := by rw [← Array.length_toList, he, List.length_map]
  have hlt : c < s.heap.objs.size := Heap.lt_size ho
  have hVT : s.TypeIs (.ref v) "dict_values" := ⟨ov, hov, hcv⟩
  have W := Walks.valsM (prog := prog) (w := w) (A := A.in1) hh s.heap.objs.size c (Nat.ne_of_lt hlt) es ep
  refine call_sum_walk ?_
  refine wpAny_pyIter_slot hVT PySem.F.slot_dict_values_iter (wpAny_call_entry PySem.F.slot_dict_values_iter hVT PySem.F.entry_dict_values_iter ?_ (PySem.F.args_dict_values_iter_1 _))
  unfold Builtin.«dict_values.__iter__»
  refine wpAny_bind (wpAny_pure (wpAny_bind ?_))
  unfold Builtin.Dict_items.dictOf
  refine wpAny_bind (wpAny_field hov hdv (x := .ref c) rfl (wpAny_pure (wpAny_bind ?_)))
  unfold Builtin.Dict_items.newIterator
  refine wpAny_bind (wpAny_dictEntries ho hdat (wpAny_bind (wpAny_dictEpoch ho hdat ?_)))
  have hown : Builtin.Dict_items.ownsTuple "dict_valueiterator" = false := by decide
  simp only [hown, Bool.false_eq_true, if_false]
  let val : Nat → Int := fun i => f ((keysK xs).getD i [])
  have hval : ∀ i k, (keysK xs)[i]? = some k → val i = f k := fun i k e => by show f ((keysK xs).getD i []) = f k; rw [List.getD_eq_getElem?_getD, e]; rfl
  have hbd : ∀ j, j ≤ xs.length → 0 ≤ preSum val j ∧ preSum val j ≤ 1000 * j := by
    intro j
    induction j with
    | zero => intro _; simp [preSum]
    | succ j ih =>
      intro hj
      have h1 := ih (by omega)
      have h2 := hb ((keysK xs).getD j [])
      have e : val j = f ((keysK xs).getD j []) := rfl
      rw [preSum]
      omega
  refine wpAny_newObj_type (wpAny_pure ⟨_, rfl, "dict_valueiterator", _, ⟨_, Heap.get?_push_size _ rfl, rfl⟩, PySem.F.slot_dict_valueiterator_next.lookup, ?_⟩)
  refine ⟨s.heap.objs.size, [s.heap.objs.size, c], [s.heap.objs.size], es.size, _, _, val, rfl, W, ⟨⟨_, Heap.get?_push_size _ rfl, rfl, rfl⟩, o, Heap.get?_push_of_some _ ho, hdat⟩, ?_, ?_, ?_, ?_⟩
  · intro b hb'
    show b < (s.heap.push _).objs.size
    rw [Heap.size_push]
    rcases List.mem_cons.mp hb' with rfl | hb'
    · exact Nat.lt_succ_self _
    · rw [List.mem_singleton.mp hb']; exact Nat.lt_succ_of_lt hlt
  · rintro i u ⟨e, h1, rfl⟩
    rw [← Array.getElem?_toList, he, List.getElem?_map] at h1
    obtain ⟨x, hx, rfl⟩ := Option.map_eq_some_iff.mp h1
    obtain ⟨t, e2⟩ := M.val x (List.mem_of_getElem? hx)
    have hk : (keysK xs)[i]? = some x.1 := by show (xs.map (·.1))[i]? = _; rw [List.getElem?_map, hx]; rfl
    exact ⟨t, by rw [hval i _ hk]; exact e2⟩
  · intro j hj
    have h1 := hb ((keysK xs).getD j [])
    have h2 := hbd (j + 1) (by omega)
    have e : val j = f ((keysK xs).getD j []) := rfl
    unfold InLong
    rw [e]
    refine ⟨⟨by omega, by omega⟩, by omega, ?_⟩
    have h3 : (1000 : Int) * ((j + 1 : Nat) : Int) ≤ 1000 * 1000 := by omega
    omega
  · intro h' tk t' hk
    have e1 : preSum val es.size = ((keysK xs).map f).sum := by
      rw [preSum_list f (keysK xs) val hval es.size (by simp [hsz]), List.take_of_length_le (by simp [hsz])]
    rw [e1]
    refine h h' tk t' (S.keeps fun b ob e => hk b ob (fun q => ?_) (Heap.get?_push_of_some _ e))
    rw [List.mem_singleton.mp q] at e
    exact absurd (Heap.lt_size e) (Nat.lt_irrefl _)
end
end
section
def isSIt (y : List Nat) (t : Tok) (i : Nat) : Obj → Prop := fun o => o.cls = .type (strIterType (sw y)) ∧ o.data = .fields #[.str (sw y) t, .int i 0]
def isZ (f0 f1 : Value) (TI TO : Addr) : Obj → Prop := fun o => o = { cls := .type "zip", data := .fields #[f0, f1, .bool false, .ref TI, .ref TO] }
def isTO (ks : List Value) : Obj → Prop := fun o => o = { cls := .type "tuple", data := .seq ks.toArray }
section
variable {prog : Program} {w : World} {A : Around} {s : Shared} {g : Heap} {L : Addr} {m : Str → Option Value} {news pre post : Led} {E : Value → Shared → Prop}
theorem si_next {it : Addr} {y : List Nat} {t : Tok} {i c : Nat} {Q : Value → Shared → Prop} (hh : A.handled = none) (S : St g L s.heap m (pre ++ (it, isSIt y t i) :: post)) (hc : y[i]? = some c)
    (h : ∀ u h' tk, St g L h' m (pre ++ (it, isSIt y t (i + 1)) :: post) → Q (.str (sw [c]) u) { s with heap := h', toks := tk }) : wpAny (model prog w) A (Builtin.SmallTypes.nextOf (.ref it)) Q E s := by
  have x := S.get (a := it) (P := isSIt y t i) (by simp)
  refine (Draws.str hh it y t).item i s _ _ (List.getElem?_eq_some_iff.mp hc).1 x fun v h' tk p st sb => ?_
  obtain ⟨c', u, hc', rfl⟩ := p
  rw [hc] at hc'; cases hc'
  exact h _ _ _ (S.upd sb st)
theorem St.extDrop {h h' : Heap} {it : Addr} {P : Obj → Prop} (S : St g L h m (pre ++ (it, P) :: post)) (x : Heap.ExtBut it h h') : St g L h' m (pre ++ post) := by
  obtain ⟨n1, n2⟩ := mid_ne S.o.nd
  have hL : it ≠ L := S.neL (P := P) (by simp)
  have hg : g.get? it = none := (S.o.own (it, P) (by simp)).2
  obtain ⟨oL, es, ep, hL', r⟩ := id S.ns
  have nd := S.o.nd
  rw [List.map_append, List.map_cons] at nd
  have sn : ((pre ++ post).map (·.1)).Nodup := by
    rw [List.map_append]
    have h2 := List.nodup_append.mp nd
    exact List.nodup_append.mpr ⟨h2.1, (List.nodup_cons.mp h2.2.1).2, fun a ha b hb => h2.2.2 a ha b (.tail _ hb)⟩
  refine ⟨⟨oL, es, ep, x _ _ hL.symm hL', r⟩, S.offg, fun q => S.offn ?_, fun b o e => x _ _ (fun q => ?_) (S.o.keep b o e), fun p hp => ?_, sn⟩
  · rw [List.map_append] at q
    rw [List.map_append, List.map_cons]
    rcases List.mem_append.mp q with q | q
    · exact List.mem_append_left _ q
    · exact List.mem_append_right _ (.tail _ q)
  · rw [q, hg] at e; cases e
  · have hp' : p ∈ pre ++ (it, P) :: post := by
      rcases List.mem_append.mp hp with hp | hp
      · exact List.mem_append_left _ hp
      · exact List.mem_append_right _ (.tail _ hp)
    have hne : p.1 ≠ it := by
      rcases List.mem_append.mp hp with hp | hp
      · exact n1 p hp
      · exact n2 p hp
    obtain ⟨⟨o, e, hP⟩, hn⟩ := S.o.own p hp'
    exact ⟨⟨o, x _ _ hne e, hP⟩, hn⟩
theorem si_end {it : Addr} {y : List Nat} {t : Tok} {i : Nat} {Q : Value → Shared → Prop} (hh : A.handled = none) (S : St g L s.heap m (pre ++ (it, isSIt y t i) :: post)) (hi : i = y.length)
    (h : ∀ e h', St g L h' m (pre ++ post) → (∃ o, h'.get? e = some o ∧ o.cls = .type "StopIteration") → E (.ref e) { s with heap := h' }) : wpAny (model prog w) A (Builtin.SmallTypes.nextOf (.ref it)) Q E s := by
  subst hi
  have x := S.get (a := it) (P := isSIt y t y.length) (by simp)
  refine (Draws.str hh it y t).done s _ _ x fun h' e hx he => ?_
  exact h _ _ (S.extDrop hx) he
theorem setZ {z : Addr} {f0 f1 x : Value} {TI TO : Addr} {k : Nat} {Q : Unit → Shared → Prop} (S : St g L s.heap m ((z, isZ f0 f1 TI TO) :: news)) (hk : k = 0 ∨ k = 1)
    (h : ∀ h', St g L h' m ((z, isZ (if k = 0 then x else f0) (if k = 1 then x else f1) TI TO) :: news) → Heap.SameBut z s.heap h' → Q () { s with heap := h' }) : wpAny (model prog w) A (setField (.ref z) k x) Q E s := by
  obtain ⟨_, ho, rfl⟩ := S.get (a := z) (P := isZ f0 f1 TI TO) (.head _)
  refine wpAny_setField_rec ho (by rcases hk with rfl | rfl <;> simp) fun h' e sb => h _ (S.upd0 sb ⟨_, e, ?_⟩) sb
  rcases hk with rfl | rfl <;> simp [isZ]
theorem updTO {p : Addr × (Obj → Prop)} {TO : Addr} {ks : List Value} {k : Nat} {x : Value} {Q : Unit → Shared → Prop} (S : St g L s.heap m (p :: (TO, isTO ks) :: news)) (hks : ks.length ≤ 10)
    (h : ∀ h', St g L h' m (p :: (TO, isTO (ks.set k x)) :: news) → Q () { s with heap := h' }) : wpAny (model prog w) A (updateSeq TO (·.setIfInBounds k x)) Q E s := by
  obtain ⟨_, ho, rfl⟩ := S.get (a := TO) (P := isTO ks) (.tail _ (.head _))
  refine wpAny_updateSeq ho rfl (h _ (S.upd1 (Heap.SameBut.update ..) ⟨_, Heap.get?_update_self _ ho rfl, ?_⟩)) (by rw [List.size_toArray, sizeLine_eq]; omega) (by rw [Array.size_setIfInBounds, List.size_toArray, sizeLine_eq]; omega)
  simp [isTO, Obj.mapSeq]
theorem itemsTO {p : Addr × (Obj → Prop)} {TO : Addr} {ks : List Value} {Q : Option (Array Value) → Shared → Prop} (S : St g L s.heap m (p :: (TO, isTO ks) :: news)) (h : Q (some ks.toArray) s) : wpAny (model prog w) A (seqItems? (.ref TO)) Q E s := by
  obtain ⟨_, ho, rfl⟩ := S.get (a := TO) (P := isTO ks) (.tail _ (.head _))
  exact wpAny_seqItems ho rfl h
theorem fieldZ {z : Addr} {f0 f1 x : Value} {TI TO : Addr} {k : Nat} {Q : Value → Shared → Prop} (S : St g L s.heap m ((z, isZ f0 f1 TI TO) :: news)) (hk : (#[f0, f1, .bool false, .ref TI, .ref TO] : Array Value)[k]? = some x) (h : Q x s) : wpAny (model prog w) A (field (.ref z) k) Q E s := by
  obtain ⟨_, ho, rfl⟩ := S.get (a := z) (P := isZ f0 f1 TI TO) (.head _)
  exact wpAny_field ho rfl hk h
theorem alive_ {M : Model} {a : Addr} {Q : Option Obj → Shared → Prop} (h : Q (s.heap.get? a) s) : wpAny M A (loadIfAlive a) Q E s := fun Γ p hΓ => h
/-- the tuple handed out before is still there -/
def Held (g : Heap) (f0 : Value) : Prop := ∃ T o, f0 = rawInt (T : Nat) ∧ g.get? T = some o
theorem Held.keeps {g g' : Heap} {f0 : Value} (x : Held g f0) (s : Sub g g') : Held g' f0 := let ⟨T, o, e, q⟩ := x; ⟨T, o, e, s _ _ q⟩
theorem free_none {z TI TO : Addr} {f1 : Value} {Q : Bool → Shared → Prop} (S : St g L s.heap m ((z, isZ .none f1 TI TO) :: news)) (h : Q true s) : wpAny (model prog w) A (Builtin.SmallTypes.ownedTupleIsFree (.ref z)) Q E s := by
  unfold Builtin.SmallTypes.ownedTupleIsFree
  exact wpAny_bind (fieldZ S (x := .none) rfl (wpAny_pure h))
theorem free_held {z TI TO : Addr} {f0 f1 : Value} {Q : Bool → Shared → Prop} (S : St g L s.heap m ((z, isZ f0 f1 TI TO) :: news)) (hf : Held g f0)
    (h : ∀ h' f1', St g L h' m ((z, isZ f0 f1' TI TO) :: news) → Q false { s with heap := h' }) : wpAny (model prog w) A (Builtin.SmallTypes.ownedTupleIsFree (.ref z)) Q E s := by
  obtain ⟨T, o, rfl, hT⟩ := hf
  unfold Builtin.SmallTypes.ownedTupleIsFree
  refine wpAny_bind (fieldZ S (x := rawInt T) rfl ?_)
  show wpAny _ A (loadIfAlive ((T : Int)).toNat >>= _) Q E s
  rw [Int.toNat_natCast]
  refine wpAny_bind (alive_ ?_)
  rw [S.of hT]
  refine wpAny_bind (fieldZ S (x := f1) rfl ?_)
  show wpAny _ A (if (f1 != Value.bool true) = true then (setField (.ref z) 1 (.bool true) >>= fun _ => pure false) else pure false) Q E s
  by_cases q : (f1 != .bool true) = true
  · rw [if_pos q]
    exact wpAny_bind (setZ S (.inr rfl) fun h' S' _ => wpAny_pure (h h' (.bool true) S'))
  · rw [if_neg q]
    exact wpAny_pure (h s.heap f1 S)
theorem stopKept {z e TI TO : Addr} {f0 f1 : Value} {h h' : Heap} (S : St g L h m ((z, isZ f0 f1 TI TO) :: news)) (x : ∃ o, h.get? e = some o ∧ o.cls = .type "StopIteration") (sb : Heap.SameBut z h h') : ∃ o, h'.get? e = some o ∧ o.cls = .type "StopIteration" := by
  obtain ⟨o, ho, hc⟩ := x
  refine ⟨o, (sb.2 e fun q => ?_).trans ho, hc⟩
  obtain ⟨_, hz, rfl⟩ := S.get (a := z) (P := isZ f0 f1 TI TO) (.head _)
  rw [q, hz] at ho; cases ho; simp at hc
/-- zip.__next__ hands out a tuple of 2 letters -/
theorem znext2 {z TI TO i1 i2 : Addr} {f0 f1 a1 a2 : Value} {y1 y2 : List Nat} {t1 t2 : Tok} {i c1 c2 : Nat} {Q : Fin → Shared → Prop} (hh : A.handled = none)
    (S : St g L s.heap m ((z, isZ f0 f1 TI TO) :: (TO, isTO [a1, a2]) :: (i1, isSIt y1 t1 i) :: (i2, isSIt y2 t2 i) :: news)) (hTI : At g (TI, isT [.ref i1, .ref i2])) (hf : f0 = .none ∨ Held g f0) (h1 : y1[i]? = some c1) (h2 : y2[i]? = some c2)
    (h : ∀ u1 u2 T g' f0' f1' a1' a2' h' tk, Sub g g' → g.get? T = none → Held g' f0' → At g' (T, isT [.str (sw [c1]) u1, .str (sw [c2]) u2]) →
      St g' L h' m ((z, isZ f0' f1' TI TO) :: (TO, isTO [a1', a2']) :: (i1, isSIt y1 t1 (i + 1)) :: (i2, isSIt y2 t2 (i + 1)) :: news) → Q (.done (.ret (.ref T))) { s with heap := h', toks := tk }) :
    wpAny (model prog w) A (Builtin.«zip.__next__» ⟨[.ref z], []⟩) Q E s := by
  show wpAny _ _ (field (.ref z) 2 >>= _) _ _ _
  refine wpAny_bind (fieldZ S (x := .bool false) rfl ?_)
  show wpAny _ _ (field (.ref z) 3 >>= _) _ _ _
  refine wpAny_bind (fieldZ S (x := .ref TI) rfl ?_)
  obtain ⟨_, hoT, _, _, hdT⟩ := S.at hTI
  refine wpAny_bind (wpAny_seqItems hoT hdT ?_)
  rcases hf with rfl | hf
  · refine wpAny_bind (free_none S ?_)
    simp only [if_true]
    refine wpAny_bind (wpAny_rule ?_)
    refine wpAny_bind (fieldZ S (x := .ref TO) rfl ?_)
    refine wpAny_bind (setZ S (.inl rfl) fun h₁ S1 _ => ?_)
    replace S1 : St g L h₁ m ((z, isZ .ellipsis f1 TI TO) :: _) := S1
    refine wpAny_bind ?_
    simp only [List.zipIdx_cons, List.zipIdx_nil, List.forIn_cons, List.forIn_nil]
    refine wpAny_bind (wpAny_bind (wpAny_onRaise ?_))
    show wpAny _ _ (Builtin.SmallTypes.nextOf (.ref i1) >>= _) _ _ _
    refine wpAny_bind (si_next (pre := [_, _]) hh S1 h1 fun u1 _ _ R1 => wpAny_pure ?_)
    refine wpAny_bind (itemsTO R1 ?_)
    refine wpAny_bind (updTO R1 (by simp) fun _ S2 => ?_)
    refine wpAny_bind (wpAny_letGo (wpAny_pure ?_))
    refine wpAny_bind (wpAny_bind (wpAny_onRaise ?_))
    show wpAny _ _ (Builtin.SmallTypes.nextOf (.ref i2) >>= _) _ _ _
    refine wpAny_bind (si_next (pre := [_, _, _]) hh S2 h2 fun u2 _ _ R2 => wpAny_pure ?_)
    refine wpAny_bind (itemsTO R2 ?_)
    refine wpAny_bind (updTO R2 (by simp) fun _ S3 => ?_)
    refine wpAny_bind (wpAny_letGo (wpAny_pure ?_))
    refine wpAny_pure ?_
    refine wpAny_bind (itemsTO S3 ?_)
    refine wpAny_bind (wpAny_newTuple (hsz := by simp [sizeLine_eq]) ?_)
    have S₆ := S3.push (P := isT [.str (sw [c1]) u1, .str (sw [c2]) u2]) { cls := .type "tuple", data := .seq #[.str (sw [c1]) u1, .str (sw [c2]) u2] } ⟨rfl, _, rfl⟩
    obtain ⟨g', sub, S₇, q⟩ := S₆.absorb [_]
    have hT := q _ (.head _)
    unfold Builtin.SmallTypes.ownedTupleHandOut
    refine wpAny_bind (wpAny_bind (setZ S₇ (.inl rfl) fun h₈ S₈ _ => setZ S₈ (.inr rfl) fun h₉ S₉ _ => wpAny_pure ?_))
    exact h u1 u2 _ g' _ _ _ _ h₉ _ sub (S₆.o.own (_, isT [.str (sw [c1]) u1, .str (sw [c2]) u2]) (.head _)).2 (let ⟨o, e, _⟩ := hT; ⟨_, o, rfl, e⟩) hT S₉
  · refine wpAny_bind (free_held S hf fun h₁ f1' S1 => ?_)
    simp only [Bool.false_eq_true, if_false]
    simp only [List.forIn_toArray, List.forIn_cons, List.forIn_nil]
    refine wpAny_bind ?_
    refine wpAny_bind (wpAny_bind (wpAny_holding ?_))
    show wpAny _ _ (Builtin.SmallTypes.nextOf (.ref i1) >>= _) _ _ _
    refine wpAny_bind (si_next (pre := [_, _]) hh S1 h1 fun u1 _ _ S2 => wpAny_pure ?_)
    refine wpAny_pure ?_
    refine wpAny_bind (wpAny_bind (wpAny_holding ?_))
    show wpAny _ _ (Builtin.SmallTypes.nextOf (.ref i2) >>= _) _ _ _
    refine wpAny_bind (si_next (pre := [_, _, _]) hh S2 h2 fun u2 _ _ S3 => wpAny_pure ?_)
    refine wpAny_pure ?_
    refine wpAny_pure ?_
    refine wpAny_bind (wpAny_newTuple (hsz := by simp [sizeLine_eq]) ?_)
    have S₆ := S3.push (P := isT [.str (sw [c1]) u1, .str (sw [c2]) u2]) { cls := .type "tuple", data := .seq #[.str (sw [c1]) u1, .str (sw [c2]) u2] } ⟨rfl, _, rfl⟩
    obtain ⟨g', sub, S₇, q⟩ := S₆.absorb [_]
    have hT := q _ (.head _)
    exact wpAny_pure (h u1 u2 _ g' _ _ _ _ _ _ sub (S₆.o.own (_, isT [.str (sw [c1]) u1, .str (sw [c2]) u2]) (.head _)).2 (hf.keeps sub) hT S₇)
/-- zip.__next__ hands out a tuple of 3 letters -/
theorem znext3 {z TI TO i1 i2 i3 : Addr} {f0 f1 a1 a2 a3 : Value} {y1 y2 y3 : List Nat} {t1 t2 t3 : Tok} {i c1 c2 c3 : Nat} {Q : Fin → Shared → Prop} (hh : A.handled = none)
    (S : St g L s.heap m ((z, isZ f0 f1 TI TO) :: (TO, isTO [a1, a2, a3]) :: (i1, isSIt y1 t1 i) :: (i2, isSIt y2 t2 i) :: (i3, isSIt y3 t3 i) :: news)) (hTI : At g (TI, isT [.ref i1, .ref i2, .ref i3])) (hf : f0 = .none ∨ Held g f0) (h1 : y1[i]? = some c1) (h2 : y2[i]? = some c2) (h3 : y3[i]? = some c3)
    (h : ∀ u1 u2 u3 T g' f0' f1' a1' a2' a3' h' tk, Sub g g' → g.get? T = none → Held g' f0' → At g' (T, isT [.str (sw [c1]) u1, .str (sw [c2]) u2, .str (sw [c3]) u3]) →
      St g' L h' m ((z, isZ f0' f1' TI TO) :: (TO, isTO [a1', a2', a3']) :: (i1, isSIt y1 t1 (i + 1)) :: (i2, isSIt y2 t2 (i + 1)) :: (i3, isSIt y3 t3 (i + 1)) :: news) → Q (.done (.ret (.ref T))) { s with heap := h', toks := tk }) :
    wpAny (model prog w) A (Builtin.«zip.__next__» ⟨[.ref z], []⟩) Q E s := by
  show wpAny _ _ (field (.ref z) 2 >>= _) _ _ _
  refine wpAny_bind (fieldZ S (x := .bool false) rfl ?_)
  show wpAny _ _ (field (.ref z) 3 >>= _) _ _ _
  refine wpAny_bind (fieldZ S (x := .ref TI) rfl ?_)
  obtain ⟨_, hoT, _, _, hdT⟩ := S.at hTI
  refine wpAny_bind (wpAny_seqItems hoT hdT ?_)
  rcases hf with rfl | hf
  · refine wpAny_bind (free_none S ?_)
    simp only [if_true]
    refine wpAny_bind (wpAny_rule ?_)
    refine wpAny_bind (fieldZ S (x := .ref TO) rfl ?_)
    refine wpAny_bind (setZ S (.inl rfl) fun h₁ S1 _ => ?_)
    replace S1 : St g L h₁ m ((z, isZ .ellipsis f1 TI TO) :: _) := S1
    refine wpAny_bind ?_
    simp only [List.zipIdx_cons, List.zipIdx_nil, List.forIn_cons, List.forIn_nil]
    refine wpAny_bind (wpAny_bind (wpAny_onRaise ?_))
    show wpAny _ _ (Builtin.SmallTypes.nextOf (.ref i1) >>= _) _ _ _
    refine wpAny_bind (si_next (pre := [_, _]) hh S1 h1 fun u1 _ _ R1 => wpAny_pure ?_)
    refine wpAny_bind (itemsTO R1 ?_)
    refine wpAny_bind (updTO R1 (by simp) fun _ S2 => ?_)
    refine wpAny_bind (wpAny_letGo (wpAny_pure ?_))
    refine wpAny_bind (wpAny_bind (wpAny_onRaise ?_))
    show wpAny _ _ (Builtin.SmallTypes.nextOf (.ref i2) >>= _) _ _ _
    refine wpAny_bind (si_next (pre := [_, _, _]) hh S2 h2 fun u2 _ _ R2 => wpAny_pure ?_)
    refine wpAny_bind (itemsTO R2 ?_)
    refine wpAny_bind (updTO R2 (by simp) fun _ S3 => ?_)
    refine wpAny_bind (wpAny_letGo (wpAny_pure ?_))
    refine wpAny_bind (wpAny_bind (wpAny_onRaise ?_))
    show wpAny _ _ (Builtin.SmallTypes.nextOf (.ref i3) >>= _) _ _ _
    refine wpAny_bind (si_next (pre := [_, _, _, _]) hh S3 h3 fun u3 _ _ R3 => wpAny_pure ?_)
    refine wpAny_bind (itemsTO R3 ?_)
    refine wpAny_bind (updTO R3 (by simp) fun _ S4 => ?_)
    refine wpAny_bind (wpAny_letGo (wpAny_pure ?_))
    refine wpAny_pure ?_
    refine wpAny_bind (itemsTO S4 ?_)
    refine wpAny_bind (wpAny_newTuple (hsz := by simp [sizeLine_eq]) ?_)
    have S₆ := S4.push (P := isT [.str (sw [c1]) u1, .str (sw [c2]) u2, .str (sw [c3]) u3]) { cls := .type "tuple", data := .seq #[.str (sw [c1]) u1, .str (sw [c2]) u2, .str (sw [c3]) u3] } ⟨rfl, _, rfl⟩
    obtain ⟨g', sub, S₇, q⟩ := S₆.absorb [_]
    have hT := q _ (.head _)
    unfold Builtin.SmallTypes.ownedTupleHandOut
    refine wpAny_bind (wpAny_bind (setZ S₇ (.inl rfl) fun h₈ S₈ _ => setZ S₈ (.inr rfl) fun h₉ S₉ _ => wpAny_pure ?_))
    exact h u1 u2 u3 _ g' _ _ _ _ _ h₉ _ sub (S₆.o.own (_, isT [.str (sw [c1]) u1, .str (sw [c2]) u2, .str (sw [c3]) u3]) (.head _)).2 (let ⟨o, e, _⟩ := hT; ⟨_, o, rfl, e⟩) hT S₉
  · refine wpAny_bind (free_held S hf fun h₁ f1' S1 => ?_)
    simp only [Bool.false_eq_true, if_false]
    simp only [List.forIn_toArray, List.forIn_cons, List.forIn_nil]
    refine wpAny_bind ?_
    refine wpAny_bind (wpAny_bind (wpAny_holding ?_))
    show wpAny _ _ (Builtin.SmallTypes.nextOf (.ref i1) >>= _) _ _ _
    refine wpAny_bind (si_next (pre := [_, _]) hh S1 h1 fun u1 _ _ S2 => wpAny_pure ?_)
    refine wpAny_pure ?_
    refine wpAny_bind (wpAny_bind (wpAny_holding ?_))
    show wpAny _ _ (Builtin.SmallTypes.nextOf (.ref i2) >>= _) _ _ _
    refine wpAny_bind (si_next (pre := [_, _, _]) hh S2 h2 fun u2 _ _ S3 => wpAny_pure ?_)
    refine wpAny_pure ?_
    refine wpAny_bind (wpAny_bind (wpAny_holding ?_))
    show wpAny _ _ (Builtin.SmallTypes.nextOf (.ref i3) >>= _) _ _ _
    refine wpAny_bind (si_next (pre := [_, _, _, _]) hh S3 h3 fun u3 _ _ S4 => wpAny_pure ?_)
    refine wpAny_pure ?_
    refine wpAny_pure ?_
    refine wpAny_bind (wpAny_newTuple (hsz := by simp [sizeLine_eq]) ?_)
    have S₆ := S4.push (P := isT [.str (sw [c1]) u1, .str (sw [c2]) u2, .str (sw [c3]) u3]) { cls := .type "tuple", data := .seq #[.str (sw [c1]) u1, .str (sw [c2]) u2, .str (sw [c3]) u3] } ⟨rfl, _, rfl⟩
    obtain ⟨g', sub, S₇, q⟩ := S₆.absorb [_]
    have hT := q _ (.head _)
    exact wpAny_pure (h u1 u2 u3 _ g' _ _ _ _ _ _ _ sub (S₆.o.own (_, isT [.str (sw [c1]) u1, .str (sw [c2]) u2, .str (sw [c3]) u3]) (.head _)).2 (hf.keeps sub) hT S₇)
/-- zip.__next__ of 2 iterators ends at number 1 -/
theorem zend21 {z TI TO i1 i2 : Addr} {f0 f1 a1 a2 : Value} {y1 y2 : List Nat} {t1 t2 : Tok} {i : Nat}  {Q : Fin → Shared → Prop} (hh : A.handled = none)
    (S : St g L s.heap m ((z, isZ f0 f1 TI TO) :: (TO, isTO [a1, a2]) :: (i1, isSIt y1 t1 i) :: (i2, isSIt y2 t2 i) :: news)) (hTI : At g (TI, isT [.ref i1, .ref i2])) (hf : f0 = .none ∨ Held g f0)  (he : i = y1.length)
    (h : ∀ e h' tk, St g L h' m news → (∃ o, h'.get? e = some o ∧ o.cls = .type "StopIteration") → E (.ref e) { s with heap := h', toks := tk }) :
    wpAny (model prog w) A (Builtin.«zip.__next__» ⟨[.ref z], []⟩) Q E s := by
  show wpAny _ _ (field (.ref z) 2 >>= _) _ _ _
  refine wpAny_bind (fieldZ S (x := .bool false) rfl ?_)
  show wpAny _ _ (field (.ref z) 3 >>= _) _ _ _
  refine wpAny_bind (fieldZ S (x := .ref TI) rfl ?_)
  obtain ⟨_, hoT, _, _, hdT⟩ := S.at hTI
  refine wpAny_bind (wpAny_seqItems hoT hdT ?_)
  rcases hf with rfl | hf
  · refine wpAny_bind (free_none S ?_)
    simp only [if_true]
    refine wpAny_bind (wpAny_rule ?_)
    refine wpAny_bind (fieldZ S (x := .ref TO) rfl ?_)
    refine wpAny_bind (setZ S (.inl rfl) fun h₁ S1 _ => ?_)
    replace S1 : St g L h₁ m ((z, isZ .ellipsis f1 TI TO) :: _) := S1
    refine wpAny_bind ?_
    simp only [List.zipIdx_cons, List.zipIdx_nil, List.forIn_cons, List.forIn_nil]
    refine wpAny_bind (wpAny_bind (wpAny_onRaise ?_))
    show wpAny _ _ (Builtin.SmallTypes.nextOf (.ref i1) >>= _) _ _ _
    refine wpAny_bind (si_end (pre := [_, _]) hh S1 he fun e h' S' x => ?_)
    refine setZ S' (.inl rfl) fun h₂ S₂ sb => h e h₂ _ S₂.drop1.drop1.drop1 ?_
    exact stopKept S' x sb
  · refine wpAny_bind (free_held S hf fun h₁ f1' S1 => ?_)
    simp only [Bool.false_eq_true, if_false]
    simp only [List.forIn_toArray, List.forIn_cons, List.forIn_nil]
    refine wpAny_bind ?_
    refine wpAny_bind (wpAny_bind (wpAny_holding ?_))
    show wpAny _ _ (Builtin.SmallTypes.nextOf (.ref i1) >>= _) _ _ _
    exact wpAny_bind (si_end (pre := [_, _]) hh S1 he fun e h' S' x => h e h' _ S'.drop1.drop1.drop1 x)
/-- zip.__next__ of 2 iterators ends at number 2 -/
theorem zend22 {z TI TO i1 i2 : Addr} {f0 f1 a1 a2 : Value} {y1 y2 : List Nat} {t1 t2 : Tok} {i : Nat} {c1 : Nat} {Q : Fin → Shared → Prop} (hh : A.handled = none)
    (S : St g L s.heap m ((z, isZ f0 f1 TI TO) :: (TO, isTO [a1, a2]) :: (i1, isSIt y1 t1 i) :: (i2, isSIt y2 t2 i) :: news)) (hTI : At g (TI, isT [.ref i1, .ref i2])) (hf : f0 = .none ∨ Held g f0) (h1 : y1[i]? = some c1) (he : i = y2.length)
    (h : ∀ e h' tk, St g L h' m news → (∃ o, h'.get? e = some o ∧ o.cls = .type "StopIteration") → E (.ref e) { s with heap := h', toks := tk }) :
    wpAny (model prog w) A (Builtin.«zip.__next__» ⟨[.ref z], []⟩) Q E s := by
  show wpAny _ _ (field (.ref z) 2 >>= _) _ _ _
  refine wpAny_bind (fieldZ S (x := .bool false) rfl ?_)
  show wpAny _ _ (field (.ref z) 3 >>= _) _ _ _
  refine wpAny_bind (fieldZ S (x := .ref TI) rfl ?_)
  obtain ⟨_, hoT, _, _, hdT⟩ := S.at hTI
  refine wpAny_bind (wpAny_seqItems hoT hdT ?_)
  rcases hf with rfl | hf
  · refine wpAny_bind (free_none S ?_)
    simp only [if_true]
    refine wpAny_bind (wpAny_rule ?_)
    refine wpAny_bind (fieldZ S (x := .ref TO) rfl ?_)
    refine wpAny_bind (setZ S (.inl rfl) fun h₁ S1 _ => ?_)
    replace S1 : St g L h₁ m ((z, isZ .ellipsis f1 TI TO) :: _) := S1
    refine wpAny_bind ?_
    simp only [List.zipIdx_cons, List.zipIdx_nil, List.forIn_cons, List.forIn_nil]
    refine wpAny_bind (wpAny_bind (wpAny_onRaise ?_))
    show wpAny _ _ (Builtin.SmallTypes.nextOf (.ref i1) >>= _) _ _ _
    refine wpAny_bind (si_next (pre := [_, _]) hh S1 h1 fun u1 _ _ R1 => wpAny_pure ?_)
    refine wpAny_bind (itemsTO R1 ?_)
    refine wpAny_bind (updTO R1 (by simp) fun _ S2 => ?_)
    refine wpAny_bind (wpAny_letGo (wpAny_pure ?_))
    refine wpAny_bind (wpAny_bind (wpAny_onRaise ?_))
    show wpAny _ _ (Builtin.SmallTypes.nextOf (.ref i2) >>= _) _ _ _
    refine wpAny_bind (si_end (pre := [_, _, _]) hh S2 he fun e h' S' x => ?_)
    refine setZ S' (.inl rfl) fun h₂ S₂ sb => h e h₂ _ S₂.drop1.drop1.drop1 ?_
    exact stopKept S' x sb
  · refine wpAny_bind (free_held S hf fun h₁ f1' S1 => ?_)
    simp only [Bool.false_eq_true, if_false]
    simp only [List.forIn_toArray, List.forIn_cons, List.forIn_nil]
    refine wpAny_bind ?_
    refine wpAny_bind (wpAny_bind (wpAny_holding ?_))
    show wpAny _ _ (Builtin.SmallTypes.nextOf (.ref i1) >>= _) _ _ _
    refine wpAny_bind (si_next (pre := [_, _]) hh S1 h1 fun u1 _ _ S2 => wpAny_pure ?_)
    refine wpAny_pure ?_
    refine wpAny_bind (wpAny_bind (wpAny_holding ?_))
    show wpAny _ _ (Builtin.SmallTypes.nextOf (.ref i2) >>= _) _ _ _
    exact wpAny_bind (si_end (pre := [_, _, _]) hh S2 he fun e h' S' x => h e h' _ S'.drop1.drop1.drop1 x)
/-- zip.__next__ of 3 iterators ends at number 1 -/
theorem zend31 {z TI TO i1 i2 i3 : Addr} {f0 f1 a1 a2 a3 : Value} {y1 y2 y3 : List Nat} {t1 t2 t3 : Tok} {i : Nat}  {Q : Fin → Shared → Prop} (hh : A.handled = none)
    (S : St g L s.heap m ((z, isZ f0 f1 TI TO) :: (TO, isTO [a1, a2, a3]) :: (i1, isSIt y1 t1 i) :: (i2, isSIt y2 t2 i) :: (i3, isSIt y3 t3 i) :: news)) (hTI : At g (TI, isT [.ref i1, .ref i2, .ref i3])) (hf : f0 = .none ∨ Held g f0)  (he : i = y1.length)
    (h : ∀ e h' tk, St g L h' m news → (∃ o, h'.get? e = some o ∧ o.cls = .type "StopIteration") → E (.ref e) { s with heap := h', toks := tk }) :
    wpAny (model prog w) A (Builtin.«zip.__next__» ⟨[.ref z], []⟩) Q E s := by
  show wpAny _ _ (field (.ref z) 2 >>= _) _ _ _
  refine wpAny_bind (fieldZ S (x := .bool false) rfl ?_)
  show wpAny _ _ (field (.ref z) 3 >>= _) _ _ _
  refine wpAny_bind (fieldZ S (x := .ref TI) rfl ?_)
  obtain ⟨_, hoT, _, _, hdT⟩ := S.at hTI
  refine wpAny_bind (wpAny_seqItems hoT hdT ?_)
  rcases hf with rfl | hf
  · refine wpAny_bind (free_none S ?_)
    simp only [if_true]
    refine wpAny_bind (wpAny_rule ?_)
    refine wpAny_bind (fieldZ S (x := .ref TO) rfl ?_)
    refine wpAny_bind (setZ S (.inl rfl) fun h₁ S1 _ => ?_)
    replace S1 : St g L h₁ m ((z, isZ .ellipsis f1 TI TO) :: _) := S1
    refine wpAny_bind ?_
    simp only [List.zipIdx_cons, List.zipIdx_nil, List.forIn_cons, List.forIn_nil]
    refine wpAny_bind (wpAny_bind (wpAny_onRaise ?_))
    show wpAny _ _ (Builtin.SmallTypes.nextOf (.ref i1) >>= _) _ _ _
    refine wpAny_bind (si_end (pre := [_, _]) hh S1 he fun e h' S' x => ?_)
    refine setZ S' (.inl rfl) fun h₂ S₂ sb => h e h₂ _ S₂.drop1.drop1.drop1.drop1 ?_
    exact stopKept S' x sb
  · refine wpAny_bind (free_held S hf fun h₁ f1' S1 => ?_)
    simp only [Bool.false_eq_true, if_false]
    simp only [List.forIn_toArray, List.forIn_cons, List.forIn_nil]
    refine wpAny_bind ?_
    refine wpAny_bind (wpAny_bind (wpAny_holding ?_))
    show wpAny _ _ (Builtin.SmallTypes.nextOf (.ref i1) >>= _) _ _ _
    exact wpAny_bind (si_end (pre := [_, _]) hh S1 he fun e h' S' x => h e h' _ S'.drop1.drop1.drop1.drop1 x)
/-- zip.__next__ of 3 iterators ends at number 2 -/
theorem zend32 {z TI TO i1 i2 i3 : Addr} {f0 f1 a1 a2 a3 : Value} {y1 y2 y3 : List Nat} {t1 t2 t3 : Tok} {i : Nat} {c1 : Nat} {Q : Fin → Shared → Prop} (hh : A.handled = none)
    (S : St g L s.heap m ((z, isZ f0 f1 TI TO) :: (TO, isTO [a1, a2, a3]) :: (i1, isSIt y1 t1 i) :: (i2, isSIt y2 t2 i) :: (i3, isSIt y3 t3 i) :: news)) (hTI : At g (TI, isT [.ref i1, .ref i2, .ref i3])) (hf : f0 = .none ∨ Held g f0) (h1 : y1[i]? = some c1) (he : i = y2.length)
    (h : ∀ e h' tk, St g L h' m news → (∃ o, h'.get? e = some o ∧ o.cls = .type "StopIteration") → E (.ref e) { s with heap := h', toks := tk }) :
    wpAny (model prog w) A (Builtin.«zip.__next__» ⟨[.ref z], []⟩) Q E s := by
  show wpAny _ _ (field (.ref z) 2 >>= _) _ _ _
  refine wpAny_bind (fieldZ S (x := .bool false) rfl ?_)
  show wpAny _ _ (field (.ref z) 3 >>= _) _ _ _
  refine wpAny_bind (fieldZ S (x := .ref TI) rfl ?_)
  obtain ⟨_, hoT, _, _, hdT⟩ := S.at hTI
  refine wpAny_bind (wpAny_seqItems hoT hdT ?_)
  rcases hf with rfl | hf
  · refine wpAny_bind (free_none S ?_)
    simp only [if_true]
    refine wpAny_bind (wpAny_rule ?_)
    refine wpAny_bind (fieldZ S (x := .ref TO) rfl ?_)
    refine wpAny_bind (setZ S (.inl rfl) fun h₁ S1 _ => ?_)
    replace S1 : St g L h₁ m ((z, isZ .ellipsis f1 TI TO) :: _) := S1
    refine wpAny_bind ?_
    simp only [List.zipIdx_cons, List.zipIdx_nil, List.forIn_cons, List.forIn_nil]
    refine wpAny_bind (wpAny_bind (wpAny_onRaise ?_))
    show wpAny _ _ (Builtin.SmallTypes.nextOf (.ref i1) >>= _) _ _ _
    refine wpAny_bind (si_next (pre := [_, _]) hh S1 h1 fun u1 _ _ R1 => wpAny_pure ?_)
    refine wpAny_bind (itemsTO R1 ?_)
    refine wpAny_bind (updTO R1 (by simp) fun _ S2 => ?_)
    refine wpAny_bind (wpAny_letGo (wpAny_pure ?_))
    refine wpAny_bind (wpAny_bind (wpAny_onRaise ?_))
    show wpAny _ _ (Builtin.SmallTypes.nextOf (.ref i2) >>= _) _ _ _
    refine wpAny_bind (si_end (pre := [_, _, _]) hh S2 he fun e h' S' x => ?_)
    refine setZ S' (.inl rfl) fun h₂ S₂ sb => h e h₂ _ S₂.drop1.drop1.drop1.drop1 ?_
    exact stopKept S' x sb
  · refine wpAny_bind (free_held S hf fun h₁ f1' S1 => ?_)
    simp only [Bool.false_eq_true, if_false]
    simp only [List.forIn_toArray, List.forIn_cons, List.forIn_nil]
    refine wpAny_bind ?_
    refine wpAny_bind (wpAny_bind (wpAny_holding ?_))
    show wpAny _ _ (Builtin.SmallTypes.nextOf (.ref i1) >>= _) _ _ _
    refine wpAny_bind (si_next (pre := [_, _]) hh S1 h1 fun u1 _ _ S2 => wpAny_pure ?_)
    refine wpAny_pure ?_
    refine wpAny_bind (wpAny_bind (wpAny_holding ?_))
    show wpAny _ _ (Builtin.SmallTypes.nextOf (.ref i2) >>= _) _ _ _
    exact wpAny_bind (si_end (pre := [_, _, _]) hh S2 he fun e h' S' x => h e h' _ S'.drop1.drop1.drop1.drop1 x)
/-- zip.__next__ of 3 iterators ends at number 3 -/
theorem zend33 {z TI TO i1 i2 i3 : Addr} {f0 f1 a1 a2 a3 : Value} {y1 y2 y3 : List Nat} {t1 t2 t3 : Tok} {i : Nat} {c1 : Nat} {c2 : Nat} {Q : Fin → Shared → Prop} (hh : A.handled = none)
    (S : St g L s.heap m ((z, isZ f0 f1 TI TO) :: (TO, isTO [a1, a2, a3]) :: (i1, isSIt y1 t1 i) :: (i2, isSIt y2 t2 i) :: (i3, isSIt y3 t3 i) :: news)) (hTI : At g (TI, isT [.ref i1, .ref i2, .ref i3])) (hf : f0 = .none ∨ Held g f0) (h1 : y1[i]? = some c1) (h2 : y2[i]? = some c2) (he : i = y3.length)
    (h : ∀ e h' tk, St g L h' m news → (∃ o, h'.get? e = some o ∧ o.cls = .type "StopIteration") → E (.ref e) { s with heap := h', toks := tk }) :
    wpAny (model prog w) A (Builtin.«zip.__next__» ⟨[.ref z], []⟩) Q E s := by
  show wpAny _ _ (field (.ref z) 2 >>= _) _ _ _
  refine wpAny_bind (fieldZ S (x := .bool false) rfl ?_)
  show wpAny _ _ (field (.ref z) 3 >>= _) _ _ _
  refine wpAny_bind (fieldZ S (x := .ref TI) rfl ?_)
  obtain ⟨_, hoT, _, _, hdT⟩ := S.at hTI
  refine wpAny_bind (wpAny_seqItems hoT hdT ?_)
  rcases hf with rfl | hf
  · refine wpAny_bind (free_none S ?_)
    simp only [if_true]
    refine wpAny_bind (wpAny_rule ?_)
    refine wpAny_bind (fieldZ S (x := .ref TO) rfl ?_)
    refine wpAny_bind (setZ S (.inl rfl) fun h₁ S1 _ => ?_)
    replace S1 : St g L h₁ m ((z, isZ .ellipsis f1 TI TO) :: _) := S1
    refine wpAny_bind ?_
    simp only [List.zipIdx_cons, List.zipIdx_nil, List.forIn_cons, List.forIn_nil]
    refine wpAny_bind (wpAny_bind (wpAny_onRaise ?_))
    show wpAny _ _ (Builtin.SmallTypes.nextOf (.ref i1) >>= _) _ _ _
    refine wpAny_bind (si_next (pre := [_, _]) hh S1 h1 fun u1 _ _ R1 => wpAny_pure ?_)
    refine wpAny_bind (itemsTO R1 ?_)
    refine wpAny_bind (updTO R1 (by simp) fun _ S2 => ?_)
    refine wpAny_bind (wpAny_letGo (wpAny_pure ?_))
    refine wpAny_bind (wpAny_bind (wpAny_onRaise ?_))
    show wpAny _ _ (Builtin.SmallTypes.nextOf (.ref i2) >>= _) _ _ _
    refine wpAny_bind (si_next (pre := [_, _, _]) hh S2 h2 fun u2 _ _ R2 => wpAny_pure ?_)
    refine wpAny_bind (itemsTO R2 ?_)
    refine wpAny_bind (updTO R2 (by simp) fun _ S3 => ?_)
    refine wpAny_bind (wpAny_letGo (wpAny_pure ?_))
    refine wpAny_bind (wpAny_bind (wpAny_onRaise ?_))
    show wpAny _ _ (Builtin.SmallTypes.nextOf (.ref i3) >>= _) _ _ _
    refine wpAny_bind (si_end (pre := [_, _, _, _]) hh S3 he fun e h' S' x => ?_)
    refine setZ S' (.inl rfl) fun h₂ S₂ sb => h e h₂ _ S₂.drop1.drop1.drop1.drop1 ?_
    exact stopKept S' x sb
  · refine wpAny_bind (free_held S hf fun h₁ f1' S1 => ?_)
    simp only [Bool.false_eq_true, if_false]
    simp only [List.forIn_toArray, List.forIn_cons, List.forIn_nil]
    refine wpAny_bind ?_
    refine wpAny_bind (wpAny_bind (wpAny_holding ?_))
    show wpAny _ _ (Builtin.SmallTypes.nextOf (.ref i1) >>= _) _ _ _
    refine wpAny_bind (si_next (pre := [_, _]) hh S1 h1 fun u1 _ _ S2 => wpAny_pure ?_)
    refine wpAny_pure ?_
    refine wpAny_bind (wpAny_bind (wpAny_holding ?_))
    show wpAny _ _ (Builtin.SmallTypes.nextOf (.ref i2) >>= _) _ _ _
    refine wpAny_bind (si_next (pre := [_, _, _]) hh S2 h2 fun u2 _ _ S3 => wpAny_pure ?_)
    refine wpAny_pure ?_
    refine wpAny_bind (wpAny_bind (wpAny_holding ?_))
    show wpAny _ _ (Builtin.SmallTypes.nextOf (.ref i3) >>= _) _ _ _
    exact wpAny_bind (si_end (pre := [_, _, _, _]) hh S3 he fun e h' S' x => h e h' _ S'.drop1.drop1.drop1.drop1 x)

end
end
section
theorem zip_no_len : typeLookup (.type "zip") "__len__" = pure none := by rw [typeLookup_type, builtinLookup_eq_fast]; kernel_rfl
theorem zip_no_hint : typeLookup (.type "zip") "__length_hint__" = pure none := by rw [typeLookup_type, builtinLookup_eq_fast]; kernel_rfl
/-- an iterator over the ledger -/
structure ZW (prog : Program) (w : World) (L : Addr) (m : Str → Option Value) (z : Addr) (N : Nat) (P : Nat → Heap → Value → Prop) (ZS : Nat → Heap → Heap → Led → Prop) : Prop where
  item : ∀ (A : Around) i g news (s : Shared) (Q : Option Value → Shared → Prop) (E : Value → Shared → Prop), A.handled = none → i < N → ZS i g s.heap news →
    (∀ g' v h' tk, Sub g g' → P i g' v → ZS (i + 1) g' h' news → Q (some v) { s with heap := h', toks := tk }) → wpAny (model prog w) A (pyNext (.ref z)) Q E s
  done : ∀ (A : Around) g news (s : Shared) (Q : Option Value → Shared → Prop) (E : Value → Shared → Prop), A.handled = none → ZS N g s.heap news →
    (∀ h' tk, St g L h' m news → Q none { s with heap := h', toks := tk }) → wpAny (model prog w) A (pyNext (.ref z)) Q E s
  st : ∀ i g h news, ZS i g h news → ∃ zl : Led, zl ≠ [] ∧ St g L h m (zl ++ news)
  upd : ∀ i g h h' a (p p' : Obj → Prop) news, ZS i g h ((a, p) :: news) → Heap.SameBut a h h' → At h' (a, p') → ZS i g h' ((a, p') :: news)
  push : ∀ i g h (o : Obj) (p : Obj → Prop) news, ZS i g h news → p o → o.isFreed = false → ZS i g (h.push o) ((h.objs.size, p) :: news)
  ty : ∀ i g (s : Shared) news, ZS i g s.heap news → s.TypeIs (.ref z) "zip"
  ne : ∀ i g h a (p : Obj → Prop) news, ZS i g h ((a, p) :: news) → a ≠ z
  mono : ∀ i g g' v, P i g v → Sub g g' → P i g' v
section
variable {prog : Program} {w : World} {A : Around} {s : Shared} {g : Heap} {L z : Addr} {m : Str → Option Value} {news : Led} {E : Value → Shared → Prop} {N : Nat} {P : Nat → Heap → Value → Prop} {ZS : Nat → Heap → Heap → Led → Prop}
theorem updL {i : Nat} {l : Addr} {acc : List Value} {f : Array Value → Array Value} {Q : Unit → Shared → Prop} (W : ZW prog w L m z N P ZS) (S : ZS i g s.heap ((l, isL acc) :: news)) (hks : acc.length ≤ 20) (hf : (f acc.toArray).size ≤ 21)
    (h : ∀ h', ZS i g h' ((l, isL (f acc.toArray).toList) :: news) → Q () { s with heap := h' }) : wpAny (model prog w) A (updateSeq l f) Q E s := by
  obtain ⟨zl, _, S'⟩ := W.st _ _ _ _ S
  obtain ⟨_, ho, n, rfl⟩ := S'.get (a := l) (P := isL acc) (by simp)
  refine wpAny_updateSeq ho rfl (h _ (W.upd _ _ _ _ _ _ _ _ S (Heap.SameBut.update ..) ⟨_, Heap.get?_update_self _ ho rfl, ?_⟩)) (by rw [List.size_toArray, sizeLine_eq]; omega) (by rw [sizeLine_eq]; omega)
  exact ⟨_, by simp [Obj.mapSeq]; rfl⟩
theorem ext_loop (W : ZW prog w L m z N P ZS) (hh : A.in1.handled = none) (hN : N ≤ 10) (l : Addr) (res : Value) {R : Result → Shared → Prop} : ∀ (k i : Nat) (s : Shared) (g : Heap) (acc : List Value), N - i = k → i ≤ N → ZS i g s.heap ((l, isL acc) :: news) → acc.length = i → (∀ j v, acc[j]? = some v → P j g v) →
    (∀ g' h' tk acc', Sub g g' → St g' L h' m ((l, isL acc') :: news) → acc'.length = N → (∀ j v, acc'[j]? = some v → P j g' v) → R (.ok (.ret res)) { s with heap := h', toks := tk }) →
    codeAny (model prog w) A (.builtin "list.extend.loop" ⟨[.ref l, .ref z, res], []⟩) R s := by
  intro k
  induction k with
  | zero =>
    intro i s g acc hk hi hst hl hp hR
    have hin : i = N := by omega
    subst hin
    refine codeAny_builtin F.entry_extend_loop ?_
    rw [Around.under_plainId F.plain_extend_loop _]
    show wpAny _ A.in1 (pyNext (.ref z) >>= _) _ _ s
    refine wpAny_bind (W.done _ _ _ s _ _ hh hst fun h' tk S => ?_)
    exact wpAny_pure (hR g h' tk acc (fun _ _ e => e) S hl hp)
  | succ k ih =>
    intro i s g acc hk hi hst hl hp hR
    refine codeAny_builtin F.entry_extend_loop ?_
    rw [Around.under_plainId F.plain_extend_loop _]
    show wpAny _ A.in1 (pyNext (.ref z) >>= _) _ _ s
    refine wpAny_bind (W.item _ i _ _ s _ _ hh (by omega) hst fun g' v h' tk sub hv S => ?_)
    show wpAny _ A.in1 (updateSeq l (·.push v) >>= _) _ _ _
    refine wpAny_bind (updL W S (by omega) (by simp; omega) fun h₂ S₂ => wpAny_pure ⟨plainId_quiet F.plain_extend_loop _, ih (i + 1) _ g' (acc ++ [v]) (by omega) (by omega) (by simpa using S₂) (by simp [hl]) ?_ ?_⟩)
    · intro j x hx
      rw [List.getElem?_append] at hx
      split at hx
      · exact W.mono _ _ _ _ (hp _ _ hx) sub
      · have : j = i := by
          have := (List.getElem?_eq_some_iff.mp hx).1
          simp at this; omega
        subst this
        rw [hl] at hx; simp at hx; subst hx; exact hv
    · intro g'' h'' tk'' acc' sub' S' hl' hp'
      exact hR g'' h'' tk'' acc' (fun b o e => sub' b o (sub b o e)) S' hl' hp'
theorem iterZ {i : Nat} {Q : Value → Shared → Prop} (W : ZW prog w L m z N P ZS) (S : ZS i g s.heap news) (h : Q (.ref z) s) : wpAny (model prog w) A (pyIter (.ref z)) Q E s := by
  have hT := W.ty _ _ _ _ S
  refine wpAny_pyIter_slot hT F.slot_zip_iter (wpAny_call_entry F.slot_zip_iter hT F.entry_zip_iter ?_ (F.args_zip_iter_1 _))
  show wpAny _ _ (ret (.ref z)) _ _ s
  exact wpAny_pure ⟨_, rfl, "zip", _, hT, F.slot_zip_next.lookup, h⟩
theorem listZip {Q : Value → Shared → Prop} (W : ZW prog w L m z N P ZS) (hh : A.handled = none) (hN : N ≤ 10) (S : ZS 0 g s.heap news)
    (h : ∀ l acc g' h' tk, Sub g g' → St g' L h' m ((l, isL acc) :: news) → acc.length = N → (∀ j v, acc[j]? = some v → P j g' v) → Q (.ref l) { s with heap := h', toks := tk }) : wpAny (model prog w) A (call (.type "list") [.ref z]) Q E s := by
  refine callType_codes (Q₁ := fun obj s₁ => obj = .ref s.heap.objs.size ∧ s₁ = { s with heap := s.heap.push { cls := .type "list", data := .seq #[] } }) F.called_list (F.typeCall_list_1 _) F.entry_list_init
    (code_list_new _ ⟨rfl, rfl⟩) fun obj s₁ h₁ => ?_
  obtain ⟨rfl, rfl⟩ := h₁
  have S₁ := W.push 0 g s.heap { cls := .type "list", data := .seq #[] } (isL []) news S ⟨0, rfl⟩ rfl
  have hS : (s.heap.push { cls := .type "list", data := .seq #[] }).get? s.heap.objs.size = some { cls := .type "list", data := .seq #[] } := Heap.get?_push_size _ rfl
  have hne := W.ne _ _ _ _ _ _ S₁
  generalize s.heap.objs.size = l at *
  refine ⟨⟨_, hS, rfl⟩, F.args_list_init_2 _ _, ?_⟩
  show wpAny _ _ (do let old ← Builtin.List.listItems (.ref l); Builtin.List.listUpdate (.ref l) (fun _ => #[]); letGo old.toList.reverse; Builtin.List.listExtendWith (.ref l) (.ref z) .none) _ _ _
  refine wpAny_bind ?_
  unfold Builtin.List.listItems
  refine wpAny_bind (wpAny_seqItems hS rfl (wpAny_pure ?_))
  show wpAny _ _ (updateSeq l (fun _ => #[]) >>= fun _ => letGo (#[] : Array Value).toList.reverse >>= fun _ => Builtin.List.listExtendWith (.ref l) (.ref z) .none) _ _ _
  refine wpAny_bind (updL W (s := { s with heap := s.heap.push { cls := .type "list", data := .seq #[] } }) S₁ (by simp) (by simp) fun h₂ S₂ => ?_)
  refine wpAny_bind (wpAny_letGo ?_)
  unfold Builtin.List.listExtendWith
  refine wpAny_bind (wpAny_typeOf (T := "zip") (W.ty _ _ _ _ S₂) ?_)
  have h1 : Builtin.List.listSameRef (.ref l) (.ref z) = false := by simp [Builtin.List.listSameRef, hne]
  have h2 : (Value.type "zip" == Value.type "list") = false := by decide
  have h3 : (Value.type "zip" == Value.type "tuple") = false := by decide
  simp only [h1, h2, h3, Bool.or_false, Bool.false_eq_true, if_false]
  refine wpAny_bind (iterZ W S₂ ?_)
  refine wpAny_bind (wpAny_holding ?_)
  unfold Builtin.List.listLengthHint
  refine wpAny_bind (wpAny_specialOf (W.ty _ _ _ _ S₂) zip_no_len ?_)
  refine wpAny_bind (wpAny_specialOf (W.ty _ _ _ _ S₂) zip_no_hint ?_)
  refine wpAny_pure ?_
  show wpAny _ _ (rule "list.extend.makes-room" >>= fun _ => Builtin.List.listTouch (.ref l) >>= fun _ => again (.builtin "list.extend.loop" ⟨[.ref l, .ref z, .none], []⟩)) _ _ _
  refine wpAny_bind (wpAny_rule ?_)
  refine wpAny_bind ?_
  show wpAny _ _ (updateSeq l (·.push .none) >>= fun _ => updateSeq l (·.pop)) _ _ _
  refine wpAny_bind (updL W S₂ (by simp) (by simp) fun h₃ S₃ => ?_)
  refine updL W S₃ (by simp) (by simp) fun h₄ S₄ => ?_
  refine wpAny_pure ⟨plainId_quiet F.plain_extend_loop _, ext_loop (A := A.in1) W hh hN l .none N 0 _ g [] rfl (Nat.zero_le _) (show ZS 0 g h₄ _ by simpa using S₄) rfl (by simp) fun g' h' tk acc' sub S' hl hp => ?_⟩
  exact ⟨rfl, h l acc' g' h' tk sub S' hl hp⟩
end
end
section
/-- an object of its own, not of g -/
def Fresh (g : Heap) (v : Value) : Prop := ∃ a, v = .ref a ∧ g.get? a = none
theorem noneSub {g g' : Heap} {a : Addr} (s : Sub g g') (h : g'.get? a = none) : g.get? a = none := by
  cases q : g.get? a with
  | none => rfl
  | some o => rw [s _ _ q] at h; cases h
theorem newClass_zip {M : Model} {A : Around} {s : Shared} {E : Value → Shared → Prop} {Q : Value × List Value → Shared → Prop} {xs : List Value} (h : Q (.type "zip", xs) s) : wpAny M A (Builtin.SmallTypes.newClass "zip" ⟨.type "zip" :: xs, []⟩) Q E s := by
  unfold Builtin.SmallTypes.newClass
  refine wpAny_bind (m := isType _) (wpAny_pure ?_)
  refine wpAny_bind ?_
  rw [sub_zip]
  exact wpAny_pure (wpAny_pure h)
def ZS2 (g0 : Heap) (L : Addr) (m : Str → Option Value) (z TI TO i1 i2 : Addr) (a : List Nat) (t1 t2 : Tok) (i : Nat) (g h : Heap) (news : Led) : Prop :=
  Sub g0 g ∧ ∃ f0 f1 a1 a2, (f0 = Value.none ∨ Held g f0) ∧ At g (TI, isT [.ref i1, .ref i2]) ∧ St g L h m ((z, isZ f0 f1 TI TO) :: (TO, isTO [a1, a2]) :: (i1, isSIt (a) t1 i) :: (i2, isSIt (a.drop 1) t2 i) :: news)
theorem zw2 {prog : Program} {w : World} (g0 : Heap) (L : Addr) (m : Str → Option Value) (z TI TO i1 i2 : Addr) (a : List Nat) (t1 t2 : Tok) :
    ZW prog w L m z (a.length - 1) (fun i g v => isKey prog w false g ((a.drop i).take 2) v ∧ Fresh g0 v) (ZS2 g0 L m z TI TO i1 i2 a t1 t2) where
  item := fun A i g news s Q E hh hi hst hQ => by
    have hT : s.TypeIs (.ref z) "zip" := by
      obtain ⟨sub0, f0, f1, a1, a2, hf, hTI, S⟩ := hst
      obtain ⟨_, ho, rfl⟩ := S.get (a := z) (P := isZ f0 f1 TI TO) (.head _)
      exact ⟨_, ho, rfl⟩
    obtain ⟨sub0, f0, f1, a1, a2, hf, hTI, S⟩ := hst
    unfold pyNext
    have e1 : a[i + 0]? = some a[i + 0] := List.getElem?_eq_getElem (by omega)
    have e2 : a[i + 1]? = some a[i + 1] := List.getElem?_eq_getElem (by omega)
    have f1 : (a)[i]? = some a[i + 0] := by simpa [Nat.add_comm] using e1
    have f2 : (a.drop 1)[i]? = some a[i + 1] := by simpa [Nat.add_comm] using e2
    have key : (a.drop i).take 2 = [a[i + 0], a[i + 1]] := by
      apply List.ext_getElem?
      intro j
      rw [List.getElem?_take]
      match j with
      | 0 => simpa using e1
      | 1 => simpa using e2
      | j + 2 => rw [if_neg (by omega)]; rfl
    refine wpAny_bind (wpAny_attempt (wpAny_callSpecial?_slot (name := Str.ofString "__next__") hT F.slot_zip_next
      (wpAny_call_entry F.slot_zip_next hT F.entry_zip_next (znext2 hh S hTI hf f1 f2 fun u1 u2 T g' f0' f1' a1' a2' h' tk sub fr hd ht S' => ?_) (F.args_zip_next_1 _))))
    refine ⟨_, rfl, wpAny_pure (hQ g' _ h' tk sub ?_ ⟨fun b o e => sub b o (sub0 b o e), f0', f1', a1', a2', .inr hd, hTI.keeps sub, S'⟩)⟩
    show isKey prog w false g' ((a.drop i).take 2) _ ∧ _
    rw [key]
    refine ⟨isKey.tup ht (.cons _ _ (.cons _ _ (.nil))), _, rfl, ?_⟩
    exact noneSub sub0 fr
  done := fun A g news s Q E hh hst hQ => by
    have hT : s.TypeIs (.ref z) "zip" := by
      obtain ⟨sub0, f0, f1, a1, a2, hf, hTI, S⟩ := hst
      obtain ⟨_, ho, rfl⟩ := S.get (a := z) (P := isZ f0 f1 TI TO) (.head _)
      exact ⟨_, ho, rfl⟩
    obtain ⟨sub0, f0, f1, a1, a2, hf, hTI, S⟩ := hst
    unfold pyNext
    refine wpAny_bind (wpAny_attempt (wpAny_callSpecial?_slot (name := Str.ofString "__next__") hT F.slot_zip_next
      (wpAny_call_entry F.slot_zip_next hT F.entry_zip_next ?_ (F.args_zip_next_1 _))))
    have fin : ∀ e h' tk, St g L h' m news → (∃ o, h'.get? e = some o ∧ o.cls = .type "StopIteration") → wpAny (model prog w) A (do
        if ← isInstance (.ref e) (.type "StopIteration") then return none else throw (.ref e)) Q E { s with heap := h', toks := tk } := by
      intro e h' tk S' x
      exact wpAny_bind (wpAny_isInstance (T := "StopIteration") (b := true) x isSubtype_stop (wpAny_pure (hQ h' tk S')))
    by_cases q0 : a.length = 0
    · have z0 : a.length - 1 = 0 := by omega
      rw [z0] at S
      exact zend21 hh S hTI hf  (by first | omega | (simp; omega)) fin
    have e1 : a[a.length - 1 + 0]? = some (a[a.length - 1 + 0]'(by omega)) := List.getElem?_eq_getElem (by omega)
    have f1 : (a)[a.length - 1]? = some (a[a.length - 1 + 0]'(by omega)) := by
      rw [← e1]; simp [Nat.add_comm]
    exact zend22 hh S hTI hf f1 (by simp) fin
  st := fun i g h news ⟨sub0, f0, f1, a1, a2, hf, hTI, S⟩ => ⟨[(z, isZ f0 f1 TI TO), (TO, isTO [a1, a2]), (i1, isSIt (a) t1 i), (i2, isSIt (a.drop 1) t2 i)], by simp, S⟩
  upd := fun i g h h' x p p' news ⟨sub0, f0, f1, a1, a2, hf, hTI, S⟩ sb ha => ⟨sub0, f0, f1, a1, a2, hf, hTI, St.upd (pre := [(z, isZ f0 f1 TI TO), (TO, isTO [a1, a2]), (i1, isSIt (a) t1 i), (i2, isSIt (a.drop 1) t2 i)]) S sb ha⟩
  push := fun i g h o p news ⟨sub0, f0, f1, a1, a2, hf, hTI, S⟩ hp hf' => ⟨sub0, f0, f1, a1, a2, hf, hTI, by
    have S₁ := S.push (P := p) o hp hf'
    exact S₁.sub (fun x hx => by
      simp only [List.mem_cons] at hx ⊢
      grind) (by
      have nd := S₁.o.nd
      simp only [List.map_cons, List.nodup_cons, List.mem_cons, not_or] at nd ⊢
      grind)⟩
  ty := fun i g s news ⟨sub0, f0, f1, a1, a2, hf, hTI, S⟩ => by
    obtain ⟨_, ho, rfl⟩ := S.get (a := z) (P := isZ f0 f1 TI TO) (.head _)
    exact ⟨_, ho, rfl⟩
  ne := fun i g h x p news ⟨sub0, f0, f1, a1, a2, hf, hTI, S⟩ => headNe S (x, p) (by simp)
  mono := fun i g g' v k s => ⟨k.1.keeps s, k.2⟩
theorem meets_zipS2 (x1 x2 : Str) (t1 t2 : Tok) :
    Meets (Builtin.«zip.__new__» ⟨[.type "zip", .str x1 t1, .str x2 t2], []⟩) (fun _ R s => R (.ok (.ret (.ref ((((s.heap.push { cls := .type (strIterType x1), data := .fields #[.str x1 t1, .int 0 0] }).push { cls := .type (strIterType x2), data := .fields #[.str x2 t2, .int 0 0] }).push { cls := .type "tuple", data := .seq #[.ref s.heap.objs.size, .ref (s.heap.push { cls := .type (strIterType x1), data := .fields #[.str x1 t1, .int 0 0] }).objs.size] }).push { cls := .type "tuple", data := .seq #[.none, .none] }).objs.size))) { s with heap := (((((s.heap.push { cls := .type (strIterType x1), data := .fields #[.str x1 t1, .int 0 0] }).push { cls := .type (strIterType x2), data := .fields #[.str x2 t2, .int 0 0] }).push { cls := .type "tuple", data := .seq #[.ref s.heap.objs.size, .ref (s.heap.push { cls := .type (strIterType x1), data := .fields #[.str x1 t1, .int 0 0] }).objs.size] }).push { cls := .type "tuple", data := .seq #[.none, .none] }).push { cls := .type "zip", data := .fields #[.none, .bool false, .bool false, .ref ((s.heap.push { cls := .type (strIterType x1), data := .fields #[.str x1 t1, .int 0 0] }).push { cls := .type (strIterType x2), data := .fields #[.str x2 t2, .int 0 0] }).objs.size, .ref (((s.heap.push { cls := .type (strIterType x1), data := .fields #[.str x1 t1, .int 0 0] }).push { cls := .type (strIterType x2), data := .fields #[.str x2 t2, .int 0 0] }).push { cls := .type "tuple", data := .seq #[.ref s.heap.objs.size, .ref (s.heap.push { cls := .type (strIterType x1), data := .fields #[.str x1 t1, .int 0 0] }).objs.size] }).objs.size] }) }) :=
  .of_wp fun prog w A R s h => by
    obtain ⟨hp, g, d, tk, os⟩ := s
    refine wpAny_bind (newClass_zip ?_)
    refine wpAny_bind (m := Builtin.SmallTypes.iterAll _) ?_
    unfold Builtin.SmallTypes.iterAll
    simp only [List.forIn_cons, List.forIn_nil]
    refine wpAny_bind ?_
    refine wpAny_bind (wpAny_bind (wpAny_holding (wpAny_pyIter_strU (wpAny_pure ?_))))
    refine wpAny_bind (wpAny_bind (wpAny_holding (wpAny_pyIter_strU (wpAny_pure ?_))))
    refine wpAny_pure (wpAny_pure ?_)
    refine wpAny_bind (wpAny_newTuple (hsz := by simp [sizeLine_eq]) ?_)
    refine wpAny_bind (wpAny_newTuple (hsz := by simp [sizeLine_eq]) ?_)
    refine wpAny_bind ?_
    unfold Builtin.SmallTypes.newRecord
    refine wpAny_newObj_type (hd := (show (5 : Nat) ≤ sizeLine + 2 by rw [sizeLine_eq]; omega)) ?_
    exact wpAny_pure ⟨_, rfl, h⟩
theorem zipS2 {prog : Program} {w : World} {A : Around} {s : Shared} {g : Heap} {L : Addr} {m : Str → Option Value} {news : Led} {E : Value → Shared → Prop} {a : List Nat} {t1 t2 : Tok} {Q : Value → Shared → Prop} (S : St g L s.heap m news)
    (h : ∀ z N P ZS g' h', ZW prog w L m z N P ZS → N = a.length - 1 → P = (fun i g'' v => isKey prog w false g'' ((a.drop i).take 2) v ∧ Fresh g v) → Sub g g' → ZS 0 g' h' news → Q (.ref z) { s with heap := h' }) :
    wpAny (model prog w) A (call (.type "zip") [.str (sw (a)) t1, .str (sw (a.drop 1)) t2]) Q E s := by
  refine callType_new F.called_zip (by decide) (F.typeCall_zip_2 _ _) (F.newCall_zip_2 _ _) (fun obj => F.args_object_init_3 obj _ _) F.entry_zip_new (meets_zipS2 (sw (a)) (sw (a.drop 1)) t1 t2) ?_
  have T1 := St.push (P := (isSIt (a) t1 0)) S { cls := .type (strIterType (sw (a))), data := .fields #[.str (sw (a)) t1, .int 0 0] } ⟨rfl, rfl⟩
  have T2 := St.push (P := (isSIt (a.drop 1) t2 0)) T1 { cls := .type (strIterType (sw (a.drop 1))), data := .fields #[.str (sw (a.drop 1)) t2, .int 0 0] } ⟨rfl, rfl⟩
  have T3 := St.push (P := (isT [.ref s.heap.objs.size, .ref (s.heap.push { cls := .type (strIterType (sw (a))), data := .fields #[.str (sw (a)) t1, .int 0 0] }).objs.size])) T2 { cls := .type "tuple", data := .seq #[.ref s.heap.objs.size, .ref (s.heap.push { cls := .type (strIterType (sw (a))), data := .fields #[.str (sw (a)) t1, .int 0 0] }).objs.size] } ⟨rfl, _, rfl⟩
  have T4 := St.push (P := (isTO [.none, .none])) T3 { cls := .type "tuple", data := .seq #[.none, .none] } rfl
  have T5 := St.push (P := (isZ .none (.bool false) ((s.heap.push { cls := .type (strIterType (sw (a))), data := .fields #[.str (sw (a)) t1, .int 0 0] }).push { cls := .type (strIterType (sw (a.drop 1))), data := .fields #[.str (sw (a.drop 1)) t2, .int 0 0] }).objs.size (((s.heap.push { cls := .type (strIterType (sw (a))), data := .fields #[.str (sw (a)) t1, .int 0 0] }).push { cls := .type (strIterType (sw (a.drop 1))), data := .fields #[.str (sw (a.drop 1)) t2, .int 0 0] }).push { cls := .type "tuple", data := .seq #[.ref s.heap.objs.size, .ref (s.heap.push { cls := .type (strIterType (sw (a))), data := .fields #[.str (sw (a)) t1, .int 0 0] }).objs.size] }).objs.size)) T4 { cls := .type "zip", data := .fields #[.none, .bool false, .bool false, .ref ((s.heap.push { cls := .type (strIterType (sw (a))), data := .fields #[.str (sw (a)) t1, .int 0 0] }).push { cls := .type (strIterType (sw (a.drop 1))), data := .fields #[.str (sw (a.drop 1)) t2, .int 0 0] }).objs.size, .ref (((s.heap.push { cls := .type (strIterType (sw (a))), data := .fields #[.str (sw (a)) t1, .int 0 0] }).push { cls := .type (strIterType (sw (a.drop 1))), data := .fields #[.str (sw (a.drop 1)) t2, .int 0 0] }).push { cls := .type "tuple", data := .seq #[.ref s.heap.objs.size, .ref (s.heap.push { cls := .type (strIterType (sw (a))), data := .fields #[.str (sw (a)) t1, .int 0 0] }).objs.size] }).objs.size] } rfl
  have e := Heap.get?_push_size ((((s.heap.push { cls := .type (strIterType (sw (a))), data := .fields #[.str (sw (a)) t1, .int 0 0] }).push { cls := .type (strIterType (sw (a.drop 1))), data := .fields #[.str (sw (a.drop 1)) t2, .int 0 0] }).push { cls := .type "tuple", data := .seq #[.ref s.heap.objs.size, .ref (s.heap.push { cls := .type (strIterType (sw (a))), data := .fields #[.str (sw (a)) t1, .int 0 0] }).objs.size] }).push { cls := .type "tuple", data := .seq #[.none, .none] }) (o := { cls := .type "zip", data := .fields #[.none, .bool false, .bool false, .ref ((s.heap.push { cls := .type (strIterType (sw (a))), data := .fields #[.str (sw (a)) t1, .int 0 0] }).push { cls := .type (strIterType (sw (a.drop 1))), data := .fields #[.str (sw (a.drop 1)) t2, .int 0 0] }).objs.size, .ref (((s.heap.push { cls := .type (strIterType (sw (a))), data := .fields #[.str (sw (a)) t1, .int 0 0] }).push { cls := .type (strIterType (sw (a.drop 1))), data := .fields #[.str (sw (a.drop 1)) t2, .int 0 0] }).push { cls := .type "tuple", data := .seq #[.ref s.heap.objs.size, .ref (s.heap.push { cls := .type (strIterType (sw (a))), data := .fields #[.str (sw (a)) t1, .int 0 0] }).objs.size] }).objs.size] }) rfl
  refine ⟨⟨_, e, rfl⟩, ?_⟩
  generalize ez : ((((s.heap.push { cls := .type (strIterType (sw (a))), data := .fields #[.str (sw (a)) t1, .int 0 0] }).push { cls := .type (strIterType (sw (a.drop 1))), data := .fields #[.str (sw (a.drop 1)) t2, .int 0 0] }).push { cls := .type "tuple", data := .seq #[.ref s.heap.objs.size, .ref (s.heap.push { cls := .type (strIterType (sw (a))), data := .fields #[.str (sw (a)) t1, .int 0 0] }).objs.size] }).push { cls := .type "tuple", data := .seq #[.none, .none] }).objs.size = z at *
  generalize eO : (((s.heap.push { cls := .type (strIterType (sw (a))), data := .fields #[.str (sw (a)) t1, .int 0 0] }).push { cls := .type (strIterType (sw (a.drop 1))), data := .fields #[.str (sw (a.drop 1)) t2, .int 0 0] }).push { cls := .type "tuple", data := .seq #[.ref s.heap.objs.size, .ref (s.heap.push { cls := .type (strIterType (sw (a))), data := .fields #[.str (sw (a)) t1, .int 0 0] }).objs.size] }).objs.size = TO at *
  generalize eI : ((s.heap.push { cls := .type (strIterType (sw (a))), data := .fields #[.str (sw (a)) t1, .int 0 0] }).push { cls := .type (strIterType (sw (a.drop 1))), data := .fields #[.str (sw (a.drop 1)) t2, .int 0 0] }).objs.size = TI at *
  generalize ei2 : (s.heap.push { cls := .type (strIterType (sw (a))), data := .fields #[.str (sw (a)) t1, .int 0 0] }).objs.size = i2 at *
  generalize ei1 : s.heap.objs.size = i1 at *
  have U : St g L _ m ((TI, isT [.ref i1, .ref i2]) :: ([(z, isZ .none (.bool false) TI TO), (TO, isTO [.none, .none]), (i1, isSIt (a) t1 0), (i2, isSIt (a.drop 1) t2 0)] ++ news)) := T5.sub (fun x hx => by
      simp only [List.mem_cons, List.cons_append, List.nil_append] at hx ⊢
      grind) (by
      have nd := T5.o.nd
      simp only [List.map_cons, List.cons_append, List.nil_append, List.nodup_cons, List.mem_cons, not_or] at nd ⊢
      grind)
  obtain ⟨g', sub, U', q⟩ := U.absorb [_]
  exact h _ _ _ _ g' _ (zw2 g L m z TI TO i1 i2 a t1 t2) rfl rfl sub ⟨sub, _, _, _, _, .inl rfl, q _ (.head _), U'⟩
def ZS3 (g0 : Heap) (L : Addr) (m : Str → Option Value) (z TI TO i1 i2 i3 : Addr) (a : List Nat) (t1 t2 t3 : Tok) (i : Nat) (g h : Heap) (news : Led) : Prop :=
  Sub g0 g ∧ ∃ f0 f1 a1 a2 a3, (f0 = Value.none ∨ Held g f0) ∧ At g (TI, isT [.ref i1, .ref i2, .ref i3]) ∧ St g L h m ((z, isZ f0 f1 TI TO) :: (TO, isTO [a1, a2, a3]) :: (i1, isSIt (a) t1 i) :: (i2, isSIt (a.drop 1) t2 i) :: (i3, isSIt (a.drop 2) t3 i) :: news)
theorem zw3 {prog : Program} {w : World} (g0 : Heap) (L : Addr) (m : Str → Option Value) (z TI TO i1 i2 i3 : Addr) (a : List Nat) (t1 t2 t3 : Tok) :
    ZW prog w L m z (a.length - 2) (fun i g v => isKey prog w false g ((a.drop i).take 3) v ∧ Fresh g0 v) (ZS3 g0 L m z TI TO i1 i2 i3 a t1 t2 t3) where
  item := fun A i g news s Q E hh hi hst hQ => by
    have hT : s.TypeIs (.ref z) "zip" := by
      obtain ⟨sub0, f0, f1, a1, a2, a3, hf, hTI, S⟩ := hst
      obtain ⟨_, ho, rfl⟩ := S.get (a := z) (P := isZ f0 f1 TI TO) (.head _)
      exact ⟨_, ho, rfl⟩
    obtain ⟨sub0, f0, f1, a1, a2, a3, hf, hTI, S⟩ := hst
    unfold pyNext
    have e1 : a[i + 0]? = some a[i + 0] := List.getElem?_eq_getElem (by omega)
    have e2 : a[i + 1]? = some a[i + 1] := List.getElem?_eq_getElem (by omega)
    have e3 : a[i + 2]? = some a[i + 2] := List.getElem?_eq_getElem (by omega)
    have f1 : (a)[i]? = some a[i + 0] := by simpa [Nat.add_comm] using e1
    have f2 : (a.drop 1)[i]? = some a[i + 1] := by simpa [Nat.add_comm] using e2
    have f3 : (a.drop 2)[i]? = some a[i + 2] := by simpa [Nat.add_comm] using e3
    have key : (a.drop i).take 3 = [a[i + 0], a[i + 1], a[i + 2]] := by
      apply List.ext_getElem?
      intro j
      rw [List.getElem?_take]
      match j with
      | 0 => simpa using e1
      | 1 => simpa using e2
      | 2 => simpa using e3
      | j + 3 => rw [if_neg (by omega)]; rfl
    refine wpAny_bind (wpAny_attempt (wpAny_callSpecial?_slot (name := Str.ofString "__next__") hT F.slot_zip_next
      (wpAny_call_entry F.slot_zip_next hT F.entry_zip_next (znext3 hh S hTI hf f1 f2 f3 fun u1 u2 u3 T g' f0' f1' a1' a2' a3' h' tk sub fr hd ht S' => ?_) (F.args_zip_next_1 _))))
    refine ⟨_, rfl, wpAny_pure (hQ g' _ h' tk sub ?_ ⟨fun b o e => sub b o (sub0 b o e), f0', f1', a1', a2', a3', .inr hd, hTI.keeps sub, S'⟩)⟩
    show isKey prog w false g' ((a.drop i).take 3) _ ∧ _
    rw [key]
    refine ⟨isKey.tup ht (.cons _ _ (.cons _ _ (.cons _ _ (.nil)))), _, rfl, ?_⟩
    exact noneSub sub0 fr
  done := fun A g news s Q E hh hst hQ => by
    have hT : s.TypeIs (.ref z) "zip" := by
      obtain ⟨sub0, f0, f1, a1, a2, a3, hf, hTI, S⟩ := hst
      obtain ⟨_, ho, rfl⟩ := S.get (a := z) (P := isZ f0 f1 TI TO) (.head _)
      exact ⟨_, ho, rfl⟩
    obtain ⟨sub0, f0, f1, a1, a2, a3, hf, hTI, S⟩ := hst
    unfold pyNext
    refine wpAny_bind (wpAny_attempt (wpAny_callSpecial?_slot (name := Str.ofString "__next__") hT F.slot_zip_next
      (wpAny_call_entry F.slot_zip_next hT F.entry_zip_next ?_ (F.args_zip_next_1 _))))
    have fin : ∀ e h' tk, St g L h' m news → (∃ o, h'.get? e = some o ∧ o.cls = .type "StopIteration") → wpAny (model prog w) A (do
        if ← isInstance (.ref e) (.type "StopIteration") then return none else throw (.ref e)) Q E { s with heap := h', toks := tk } := by
      intro e h' tk S' x
      exact wpAny_bind (wpAny_isInstance (T := "StopIteration") (b := true) x isSubtype_stop (wpAny_pure (hQ h' tk S')))
    by_cases q0 : a.length = 0
    · have z0 : a.length - 2 = 0 := by omega
      rw [z0] at S
      exact zend31 hh S hTI hf  (by first | omega | (simp; omega)) fin
    by_cases q1 : a.length = 1
    · have z0 : a.length - 2 = 0 := by omega
      rw [z0] at S
      have f1 : (a)[0]? = some a[0] := by simp
      exact zend32 hh S hTI hf f1 (by first | omega | (simp; omega)) fin
    have e1 : a[a.length - 2 + 0]? = some (a[a.length - 2 + 0]'(by omega)) := List.getElem?_eq_getElem (by omega)
    have f1 : (a)[a.length - 2]? = some (a[a.length - 2 + 0]'(by omega)) := by
      rw [← e1]; simp [Nat.add_comm]
    have e2 : a[a.length - 2 + 1]? = some (a[a.length - 2 + 1]'(by omega)) := List.getElem?_eq_getElem (by omega)
    have f2 : (a.drop 1)[a.length - 2]? = some (a[a.length - 2 + 1]'(by omega)) := by
      rw [← e2]; simp [Nat.add_comm]
    exact zend33 hh S hTI hf f1 f2 (by simp) fin
  st := fun i g h news ⟨sub0, f0, f1, a1, a2, a3, hf, hTI, S⟩ => ⟨[(z, isZ f0 f1 TI TO), (TO, isTO [a1, a2, a3]), (i1, isSIt (a) t1 i), (i2, isSIt (a.drop 1) t2 i), (i3, isSIt (a.drop 2) t3 i)], by simp, S⟩
  upd := fun i g h h' x p p' news ⟨sub0, f0, f1, a1, a2, a3, hf, hTI, S⟩ sb ha => ⟨sub0, f0, f1, a1, a2, a3, hf, hTI, St.upd (pre := [(z, isZ f0 f1 TI TO), (TO, isTO [a1, a2, a3]), (i1, isSIt (a) t1 i), (i2, isSIt (a.drop 1) t2 i), (i3, isSIt (a.drop 2) t3 i)]) S sb ha⟩
  push := fun i g h o p news ⟨sub0, f0, f1, a1, a2, a3, hf, hTI, S⟩ hp hf' => ⟨sub0, f0, f1, a1, a2, a3, hf, hTI, by
    have S₁ := S.push (P := p) o hp hf'
    exact S₁.sub (fun x hx => by
      simp only [List.mem_cons] at hx ⊢
      grind) (by
      have nd := S₁.o.nd
      simp only [List.map_cons, List.nodup_cons, List.mem_cons, not_or] at nd ⊢
      grind)⟩
  ty := fun i g s news ⟨sub0, f0, f1, a1, a2, a3, hf, hTI, S⟩ => by
    obtain ⟨_, ho, rfl⟩ := S.get (a := z) (P := isZ f0 f1 TI TO) (.head _)
    exact ⟨_, ho, rfl⟩
  ne := fun i g h x p news ⟨sub0, f0, f1, a1, a2, a3, hf, hTI, S⟩ => headNe S (x, p) (by simp)
  mono := fun i g g' v k s => ⟨k.1.keeps s, k.2⟩
theorem typeCall_zip_3 (a b c : Value) : checkTypeCall "zip" ⟨[a, b, c], []⟩ = pure () := by kernel_rfl
theorem newCall_zip_3 (a b c : Value) : checkBuiltinCall "zip.__new__" ⟨[.type "zip", a, b, c], []⟩ = pure () := by kernel_rfl
theorem args_object_init_4 (a b c d : Value) : argsOk "object.__init__" ⟨[a, b, c, d], []⟩ := by
  unfold argsOk; rw [signature?_of (id := "object.__init__") (n := ['_', '_', 't', 'i', 'n', 'i', '_', '_']) (o := ['t', 'c', 'e', 'j', 'b', 'o']) (by kernel_rfl) F.owner_object]; kernel_rfl
theorem meets_zipS3 (x1 x2 x3 : Str) (t1 t2 t3 : Tok) :
    Meets (Builtin.«zip.__new__» ⟨[.type "zip", .str x1 t1, .str x2 t2, .str x3 t3], []⟩) (fun _ R s => R (.ok (.ret (.ref (((((s.heap.push { cls := .type (strIterType x1), data := .fields #[.str x1 t1, .int 0 0] }).push { cls := .type (strIterType x2), data := .fields #[.str x2 t2, .int 0 0] }).push { cls := .type (strIterType x3), data := .fields #[.str x3 t3, .int 0 0] }).push { cls := .type "tuple", data := .seq #[.ref s.heap.objs.size, .ref (s.heap.push { cls := .type (strIterType x1), data := .fields #[.str x1 t1, .int 0 0] }).objs.size, .ref ((s.heap.push { cls := .type (strIterType x1), data := .fields #[.str x1 t1, .int 0 0] }).push { cls := .type (strIterType x2), data := .fields #[.str x2 t2, .int 0 0] }).objs.size] }).push { cls := .type "tuple", data := .seq #[.none, .none, .none] }).objs.size))) { s with heap := ((((((s.heap.push { cls := .type (strIterType x1), data := .fields #[.str x1 t1, .int 0 0] }).push { cls := .type (strIterType x2), data := .fields #[.str x2 t2, .int 0 0] }).push { cls := .type (strIterType x3), data := .fields #[.str x3 t3, .int 0 0] }).push { cls := .type "tuple", data := .seq #[.ref s.heap.objs.size, .ref (s.heap.push { cls := .type (strIterType x1), data := .fields #[.str x1 t1, .int 0 0] }).objs.size, .ref ((s.heap.push { cls := .type (strIterType x1), data := .fields #[.str x1 t1, .int 0 0] }).push { cls := .type (strIterType x2), data := .fields #[.str x2 t2, .int 0 0] }).objs.size] }).push { cls := .type "tuple", data := .seq #[.none, .none, .none] }).push { cls := .type "zip", data := .fields #[.none, .bool false, .bool false, .ref (((s.heap.push { cls := .type (strIterType x1), data := .fields #[.str x1 t1, .int 0 0] }).push { cls := .type (strIterType x2), data := .fields #[.str x2 t2, .int 0 0] }).push { cls := .type (strIterType x3), data := .fields #[.str x3 t3, .int 0 0] }).objs.size, .ref ((((s.heap.push { cls := .type (strIterType x1), data := .fields #[.str x1 t1, .int 0 0] }).push { cls := .type (strIterType x2), data := .fields #[.str x2 t2, .int 0 0] }).push { cls := .type (strIterType x3), data := .fields #[.str x3 t3, .int 0 0] }).push { cls := .type "tuple", data := .seq #[.ref s.heap.objs.size, .ref (s.heap.push { cls := .type (strIterType x1), data := .fields #[.str x1 t1, .int 0 0] }).objs.size, .ref ((s.heap.push { cls := .type (strIterType x1), data := .fields #[.str x1 t1, .int 0 0] }).push { cls := .type (strIterType x2), data := .fields #[.str x2 t2, .int 0 0] }).objs.size] }).objs.size] }) }) :=
  .of_wp fun prog w A R s h => by
    obtain ⟨hp, g, d, tk, os⟩ := s
    refine wpAny_bind (newClass_zip ?_)
    refine wpAny_bind (m := Builtin.SmallTypes.iterAll _) ?_
    unfold Builtin.SmallTypes.iterAll
    simp only [List.forIn_cons, List.forIn_nil]
    refine wpAny_bind ?_
    refine wpAny_bind (wpAny_bind (wpAny_holding (wpAny_pyIter_strU (wpAny_pure ?_))))
    refine wpAny_bind (wpAny_bind (wpAny_holding (wpAny_pyIter_strU (wpAny_pure ?_))))
    refine wpAny_bind (wpAny_bind (wpAny_holding (wpAny_pyIter_strU (wpAny_pure ?_))))
    refine wpAny_pure (wpAny_pure ?_)
    refine wpAny_bind (wpAny_newTuple (hsz := by simp [sizeLine_eq]) ?_)
    refine wpAny_bind (wpAny_newTuple (hsz := by simp [sizeLine_eq]) ?_)
    refine wpAny_bind ?_
    unfold Builtin.SmallTypes.newRecord
    refine wpAny_newObj_type (hd := (show (5 : Nat) ≤ sizeLine + 2 by rw [sizeLine_eq]; omega)) ?_
    exact wpAny_pure ⟨_, rfl, h⟩
theorem zipS3 {prog : Program} {w : World} {A : Around} {s : Shared} {g : Heap} {L : Addr} {m : Str → Option Value} {news : Led} {E : Value → Shared → Prop} {a : List Nat} {t1 t2 t3 : Tok} {Q : Value → Shared → Prop} (S : St g L s.heap m news)
    (h : ∀ z N P ZS g' h', ZW prog w L m z N P ZS → N = a.length - 2 → P = (fun i g'' v => isKey prog w false g'' ((a.drop i).take 3) v ∧ Fresh g v) → Sub g g' → ZS 0 g' h' news → Q (.ref z) { s with heap := h' }) :
    wpAny (model prog w) A (call (.type "zip") [.str (sw (a)) t1, .str (sw (a.drop 1)) t2, .str (sw (a.drop 2)) t3]) Q E s := by
  refine callType_new F.called_zip (by decide) (typeCall_zip_3 _ _ _) (newCall_zip_3 _ _ _) (fun obj => args_object_init_4 obj _ _ _) F.entry_zip_new (meets_zipS3 (sw (a)) (sw (a.drop 1)) (sw (a.drop 2)) t1 t2 t3) ?_
  have T1 := St.push (P := (isSIt (a) t1 0)) S { cls := .type (strIterType (sw (a))), data := .fields #[.str (sw (a)) t1, .int 0 0] } ⟨rfl, rfl⟩
  have T2 := St.push (P := (isSIt (a.drop 1) t2 0)) T1 { cls := .type (strIterType (sw (a.drop 1))), data := .fields #[.str (sw (a.drop 1)) t2, .int 0 0] } ⟨rfl, rfl⟩
  have T3 := St.push (P := (isSIt (a.drop 2) t3 0)) T2 { cls := .type (strIterType (sw (a.drop 2))), data := .fields #[.str (sw (a.drop 2)) t3, .int 0 0] } ⟨rfl, rfl⟩
  have T4 := St.push (P := (isT [.ref s.heap.objs.size, .ref (s.heap.push { cls := .type (strIterType (sw (a))), data := .fields #[.str (sw (a)) t1, .int 0 0] }).objs.size, .ref ((s.heap.push { cls := .type (strIterType (sw (a))), data := .fields #[.str (sw (a)) t1, .int 0 0] }).push { cls := .type (strIterType (sw (a.drop 1))), data := .fields #[.str (sw (a.drop 1)) t2, .int 0 0] }).objs.size])) T3 { cls := .type "tuple", data := .seq #[.ref s.heap.objs.size, .ref (s.heap.push { cls := .type (strIterType (sw (a))), data := .fields #[.str (sw (a)) t1, .int 0 0] }).objs.size, .ref ((s.heap.push { cls := .type (strIterType (sw (a))), data := .fields #[.str (sw (a)) t1, .int 0 0] }).push { cls := .type (strIterType (sw (a.drop 1))), data := .fields #[.str (sw (a.drop 1)) t2, .int 0 0] }).objs.size] } ⟨rfl, _, rfl⟩
  have T5 := St.push (P := (isTO [.none, .none, .none])) T4 { cls := .type "tuple", data := .seq #[.none, .none, .none] } rfl
  have T6 := St.push (P := (isZ .none (.bool false) (((s.heap.push { cls := .type (strIterType (sw (a))), data := .fields #[.str (sw (a)) t1, .int 0 0] }).push { cls := .type (strIterType (sw (a.drop 1))), data := .fields #[.str (sw (a.drop 1)) t2, .int 0 0] }).push { cls := .type (strIterType (sw (a.drop 2))), data := .fields #[.str (sw (a.drop 2)) t3, .int 0 0] }).objs.size ((((s.heap.push { cls := .type (strIterType (sw (a))), data := .fields #[.str (sw (a)) t1, .int 0 0] }).push { cls := .type (strIterType (sw (a.drop 1))), data := .fields #[.str (sw (a.drop 1)) t2, .int 0 0] }).push { cls := .type (strIterType (sw (a.drop 2))), data := .fields #[.str (sw (a.drop 2)) t3, .int 0 0] }).push { cls := .type "tuple", data := .seq #[.ref s.heap.objs.size, .ref (s.heap.push { cls := .type (strIterType (sw (a))), data := .fields #[.str (sw (a)) t1, .int 0 0] }).objs.size, .ref ((s.heap.push { cls := .type (strIterType (sw (a))), data := .fields #[.str (sw (a)) t1, .int 0 0] }).push { cls := .type (strIterType (sw (a.drop 1))), data := .fields #[.str (sw (a.drop 1)) t2, .int 0 0] }).objs.size] }).objs.size)) T5 { cls := .type "zip", data := .fields #[.none, .bool false, .bool false, .ref (((s.heap.push { cls := .type (strIterType (sw (a))), data := .fields #[.str (sw (a)) t1, .int 0 0] }).push { cls := .type (strIterType (sw (a.drop 1))), data := .fields #[.str (sw (a.drop 1)) t2, .int 0 0] }).push { cls := .type (strIterType (sw (a.drop 2))), data := .fields #[.str (sw (a.drop 2)) t3, .int 0 0] }).objs.size, .ref ((((s.heap.push { cls := .type (strIterType (sw (a))), data := .fields #[.str (sw (a)) t1, .int 0 0] }).push { cls := .type (strIterType (sw (a.drop 1))), data := .fields #[.str (sw (a.drop 1)) t2, .int 0 0] }).push { cls := .type (strIterType (sw (a.drop 2))), data := .fields #[.str (sw (a.drop 2)) t3, .int 0 0] }).push { cls := .type "tuple", data := .seq #[.ref s.heap.objs.size, .ref (s.heap.push { cls := .type (strIterType (sw (a))), data := .fields #[.str (sw (a)) t1, .int 0 0] }).objs.size, .ref ((s.heap.push { cls := .type (strIterType (sw (a))), data := .fields #[.str (sw (a)) t1, .int 0 0] }).push { cls := .type (strIterType (sw (a.drop 1))), data := .fields #[.str (sw (a.drop 1)) t2, .int 0 0] }).objs.size] }).objs.size] } rfl
  have e := Heap.get?_push_size (((((s.heap.push { cls := .type (strIterType (sw (a))), data := .fields #[.str (sw (a)) t1, .int 0 0] }).push { cls := .type (strIterType (sw (a.drop 1))), data := .fields #[.str (sw (a.drop 1)) t2, .int 0 0] }).push { cls := .type (strIterType (sw (a.drop 2))), data := .fields #[.str (sw (a.drop 2)) t3, .int 0 0] }).push { cls := .type "tuple", data := .seq #[.ref s.heap.objs.size, .ref (s.heap.push { cls := .type (strIterType (sw (a))), data := .fields #[.str (sw (a)) t1, .int 0 0] }).objs.size, .ref ((s.heap.push { cls := .type (strIterType (sw (a))), data := .fields #[.str (sw (a)) t1, .int 0 0] }).push { cls := .type (strIterType (sw (a.drop 1))), data := .fields #[.str (sw (a.drop 1)) t2, .int 0 0] }).objs.size] }).push { cls := .type "tuple", data := .seq #[.none, .none, .none] }) (o := { cls := .type "zip", data := .fields #[.none, .bool false, .bool false, .ref (((s.heap.push { cls := .type (strIterType (sw (a))), data := .fields #[.str (sw (a)) t1, .int 0 0] }).push { cls := .type (strIterType (sw (a.drop 1))), data := .fields #[.str (sw (a.drop 1)) t2, .int 0 0] }).push { cls := .type (strIterType (sw (a.drop 2))), data := .fields #[.str (sw (a.drop 2)) t3, .int 0 0] }).objs.size, .ref ((((s.heap.push { cls := .type (strIterType (sw (a))), data := .fields #[.str (sw (a)) t1, .int 0 0] }).push { cls := .type (strIterType (sw (a.drop 1))), data := .fields #[.str (sw (a.drop 1)) t2, .int 0 0] }).push { cls := .type (strIterType (sw (a.drop 2))), data := .fields #[.str (sw (a.drop 2)) t3, .int 0 0] }).push { cls := .type "tuple", data := .seq #[.ref s.heap.objs.size, .ref (s.heap.push { cls := .type (strIterType (sw (a))), data := .fields #[.str (sw (a)) t1, .int 0 0] }).objs.size, .ref ((s.heap.push { cls := .type (strIterType (sw (a))), data := .fields #[.str (sw (a)) t1, .int 0 0] }).push { cls := .type (strIterType (sw (a.drop 1))), data := .fields #[.str (sw (a.drop 1)) t2, .int 0 0] }).objs.size] }).objs.size] }) rfl
  refine ⟨⟨_, e, rfl⟩, ?_⟩
  generalize ez : (((((s.heap.push { cls := .type (strIterType (sw (a))), data := .fields #[.str (sw (a)) t1, .int 0 0] }).push { cls := .type (strIterType (sw (a.drop 1))), data := .fields #[.str (sw (a.drop 1)) t2, .int 0 0] }).push { cls := .type (strIterType (sw (a.drop 2))), data := .fields #[.str (sw (a.drop 2)) t3, .int 0 0] }).push { cls := .type "tuple", data := .seq #[.ref s.heap.objs.size, .ref (s.heap.push { cls := .type (strIterType (sw (a))), data := .fields #[.str (sw (a)) t1, .int 0 0] }).objs.size, .ref ((s.heap.push { cls := .type (strIterType (sw (a))), data := .fields #[.str (sw (a)) t1, .int 0 0] }).push { cls := .type (strIterType (sw (a.drop 1))), data := .fields #[.str (sw (a.drop 1)) t2, .int 0 0] }).objs.size] }).push { cls := .type "tuple", data := .seq #[.none, .none, .none] }).objs.size = z at *
  generalize eO : ((((s.heap.push { cls := .type (strIterType (sw (a))), data := .fields #[.str (sw (a)) t1, .int 0 0] }).push { cls := .type (strIterType (sw (a.drop 1))), data := .fields #[.str (sw (a.drop 1)) t2, .int 0 0] }).push { cls := .type (strIterType (sw (a.drop 2))), data := .fields #[.str (sw (a.drop 2)) t3, .int 0 0] }).push { cls := .type "tuple", data := .seq #[.ref s.heap.objs.size, .ref (s.heap.push { cls := .type (strIterType (sw (a))), data := .fields #[.str (sw (a)) t1, .int 0 0] }).objs.size, .ref ((s.heap.push { cls := .type (strIterType (sw (a))), data := .fields #[.str (sw (a)) t1, .int 0 0] }).push { cls := .type (strIterType (sw (a.drop 1))), data := .fields #[.str (sw (a.drop 1)) t2, .int 0 0] }).objs.size] }).objs.size = TO at *
  generalize eI : (((s.heap.push { cls := .type (strIterType (sw (a))), data := .fields #[.str (sw (a)) t1, .int 0 0] }).push { cls := .type (strIterType (sw (a.drop 1))), data := .fields #[.str (sw (a.drop 1)) t2, .int 0 0] }).push { cls := .type (strIterType (sw (a.drop 2))), data := .fields #[.str (sw (a.drop 2)) t3, .int 0 0] }).objs.size = TI at *
  generalize ei3 : ((s.heap.push { cls := .type (strIterType (sw (a))), data := .fields #[.str (sw (a)) t1, .int 0 0] }).push { cls := .type (strIterType (sw (a.drop 1))), data := .fields #[.str (sw (a.drop 1)) t2, .int 0 0] }).objs.size = i3 at *
  generalize ei2 : (s.heap.push { cls := .type (strIterType (sw (a))), data := .fields #[.str (sw (a)) t1, .int 0 0] }).objs.size = i2 at *
  generalize ei1 : s.heap.objs.size = i1 at *
  have U : St g L _ m ((TI, isT [.ref i1, .ref i2, .ref i3]) :: ([(z, isZ .none (.bool false) TI TO), (TO, isTO [.none, .none, .none]), (i1, isSIt (a) t1 0), (i2, isSIt (a.drop 1) t2 0), (i3, isSIt (a.drop 2) t3 0)] ++ news)) := T6.sub (fun x hx => by
      simp only [List.mem_cons, List.cons_append, List.nil_append] at hx ⊢
      grind) (by
      have nd := T6.o.nd
      simp only [List.map_cons, List.cons_append, List.nil_append, List.nodup_cons, List.mem_cons, not_or] at nd ⊢
      grind)
  obtain ⟨g', sub, U', q⟩ := U.absorb [_]
  exact h _ _ _ _ g' _ (zw3 g L m z TI TO i1 i2 i3 a t1 t2 t3) rfl rfl sub ⟨sub, _, _, _, _, _, .inl rfl, q _ (.head _), U'⟩
end
section
/-- the table of a code object: the codes made of its genexprs -/
def isTab : Obj → Prop := fun o => ∃ ps, o = { cls := .none, data := .fields ps } ∧ TriplesOk ps.toList
/-- a code object and its table -/
def CodeK (g : Heap) (c P : Addr) : Prop :=
  ∃ o vs file tf flags tg inF text tt, g.get? c = some o ∧ o.cls = .type "code" ∧ o.data = .fields vs ∧ vs[11]? = some (.ref P) ∧ vs.getD 18 .none = .str file tf ∧
    vs.getD 7 .none = .int flags tg ∧ vs.getD 9 .none = .bool inF ∧ vs.getD 10 .none = .int text tt ∧ c ≠ P
theorem CodeK.keeps {g h : Heap} {c P : Addr} (x : CodeK g c P) (k : Sub g h) : CodeK h c P := by
  obtain ⟨o, vs, file, tf, flags, tg, inF, text, tt, e, r⟩ := x
  exact ⟨o, vs, file, tf, flags, tg, inF, text, tt, k _ _ e, r⟩
theorem CodeK.isCode {g : Heap} {c P : Addr} {ps : Array Value} (x : CodeK g c P) (hP : g.get? P = some { cls := .none, data := .fields ps }) (ht : TriplesOk ps.toList) : g.IsCode c P ps ∧ g.TableAt c P ps := by
  obtain ⟨o, vs, file, tf, flags, tg, inF, text, tt, e, hc, hd, h11, h18, h7, h9, h10, hne⟩ := x
  have h11' : vs.getD 11 .none = .ref P := by rw [Array.getD_eq_getD_getElem?, h11]; rfl
  exact ⟨⟨o, vs, file, tf, flags, tg, inF, text, tt, _, e, hd, h11', h18, h7, h9, h10, hP, rfl, ht, hne⟩, ⟨⟨o, vs, e, hc, hd, h11⟩, hP⟩⟩
section
variable {g h h' : Heap} {L a : Addr} {m : Str → Option Value} {pre post rest : Led} {P0 P1 : Obj → Prop}
theorem St.extUpd (S : St g L h m (pre ++ (a, P0) :: post)) (x : Heap.ExtBut a h h') (ha : At h' (a, P1)) : St g L h' m (pre ++ (a, P1) :: post) := by
  have D := S.extDrop x
  have hn : g.get? a = none := (S.o.own (a, P0) (by simp)).2
  have hL : a ≠ L := S.neL (P := P0) (by simp)
  refine ⟨D.ns, D.offg, fun q => ?_, D.o.keep, fun p hp => ?_, by rw [List.map_append, List.map_cons]; have := S.o.nd; rwa [List.map_append, List.map_cons] at this⟩
  · rw [List.map_append, List.map_cons] at q
    rcases List.mem_append.mp q with q | q
    · exact D.offn (by rw [List.map_append]; exact List.mem_append_left _ q)
    · rcases List.mem_cons.mp q with q | q
      · exact hL q.symm
      · exact D.offn (by rw [List.map_append]; exact List.mem_append_right _ q)
  · rcases List.mem_append.mp hp with hp | hp
    · exact D.o.own p (List.mem_append_left _ hp)
    · rcases List.mem_cons.mp hp with rfl | hp
      · exact ⟨ha, hn⟩
      · exact D.o.own p (List.mem_append_right _ hp)
/-- a frame over all else of the heap -/
theorem St.ofNs {C : Addr} (hn : h.Ns C m) : ∃ g₁, St g₁ C h m [] ∧ ∀ b o, h.get? b = some o → b ≠ C → g₁.get? b = some o :=
  ⟨hideAll h [C], ⟨hn, hideAll_none _ (.head _), by simp, fun b o e => of_hideAll _ e, fun p hp => by simp at hp, List.nodup_nil⟩, fun b o e q => hideAll_get _ e (by simpa using q)⟩
end
section
variable {prog : Program} {w : World} {A : Around} {E : Value → Shared → Prop} {s : Shared} {g : Heap} {L c P : Addr} {m : Str → Option Value} {rest : Led}
theorem genCode {M : Model} {env : Env} {p0 : Addr × (Obj → Prop)} {pos : Pos} {qn : Str} {scope : Scope} {Q : Value → Shared → Prop} (S : St g L s.heap m (p0 :: (P, isTab) :: rest)) (hC : CodeK g c P) (hc : env.code = .ref c)
    (h : ∀ code h' tk, St g L h' m (p0 :: (P, isTab) :: rest) → Heap.ExtBut P s.heap h' → s.heap.objs.size ≤ h'.objs.size → Q code { s with heap := h', toks := tk }) :
    wpAny M A (genexprCode env pos qn scope) Q E s := by
  obtain ⟨_, ho, ps, rfl, ht⟩ := S.get (a := P) (P := isTab) (.tail _ (.head _))
  obtain ⟨ic, ta⟩ := (hC.keeps S.keep).isCode ho ht
  cases hf : codeAmong pos ps.toList with
  | some c' => exact wpAny_genexprCode_hit hc ic hf (h c' s.heap s.toks S (fun _ _ _ e => e) (Nat.le_refl _))
  | none =>
    refine wpAny_genexprCodeX hc ic ta hf fun c' h' tk hx hge hlt ic' _ ta' _ => ?_
    refine h _ h' tk (St.extUpd (pre := [p0]) S hx ⟨_, ta'.2, _, rfl, ?_⟩) hx (Nat.le_trans hge (Nat.le_of_lt hlt))
    obtain ⟨_, _, _, _, _, _, _, _, _, op, _, _, _, _, _, _, _, h1, h2, h3, _⟩ := ic'
    exact h3
/-- a generator at hand: n values, told by F; what stands when it has moved -/
def GenUp (prog : Program) (w : World) (A : Around) (a : Addr) (n : Nat) (F : Nat → Value → Prop) (g : Heap) (L : Addr) (m : Str → Option Value) (news : Led) (s : Shared) : Prop :=
  ∃ (fp wr : List Addr) (gi : Nat) (Sg : Nat → Shared → Prop), WalksS prog w A.in4 a fp wr (GenOnlyQ gi) (passing (fun _ => true) n 0).length (fun j y => ∃ i, (passing (fun _ => true) n 0)[j]? = some i ∧ F i y) Sg ∧ Sg 0 s ∧ (∀ b ∈ fp, b < s.heap.objs.size) ∧
    ∀ s', Moved wr (GenOnlyQ gi) s s' → St g L s'.heap m news
theorem GenUp.st {a : Addr} {n : Nat} {F : Nat → Value → Prop} {news : Led} (U : GenUp prog w A a n F g L m news s) : St g L s.heap m news := let ⟨_, _, _, _, W, _, _, k⟩ := U; k s (Moved.refl W.grefl)
theorem passing_all (n : Nat) : passing (fun _ => true) n 0 = List.range n := by unfold passing; simp
theorem GenUp.one {n : Nat} {F : Nat → Value → Prop} {j : Nat} {y : Value} (x : ∃ i, (passing (fun _ => true) n 0)[j]? = some i ∧ F i y) : j < n ∧ F j y := by
  obtain ⟨i, hi, hF⟩ := x
  rw [passing_all] at hi
  obtain ⟨hlt, e⟩ := List.getElem?_eq_some_iff.mp hi
  rw [List.getElem_range] at e
  rw [List.length_range] at hlt
  exact ⟨hlt, e ▸ hF⟩
/-- what a generator expression's source must tell -/
def GenSrc (prog : Program) (w : World) (A : Around) (env : Env) (scope : Scope) (cl : List (Str × Addr)) (elt : Expr) (x : Str) (c P : Addr) (Q : Value → Shared → Prop) (it : Value) (s : Shared) : Prop :=
  ∃ (g : Heap) (m : Str → Option Value) (I : Addr) (fp : List Addr) (n : Nat) (Pv : Nat → Value → Prop) (Si : Nat → Heap → Prop) (rest : Led) (F : Nat → Value → Prop), it = .ref I ∧
    (∀ A' : Around, A'.handled = none → Walks prog w A' I fp [I] n Pv Si) ∧ Si 0 s.heap ∧ (∀ b ∈ fp, b < s.heap.objs.size) ∧ P ∉ fp ∧ Gd w g ∧ CodeK g c P ∧ St g env.locals s.heap m ((I, any) :: (P, isTab) :: rest) ∧ AllBare s.gens ∧
    (∀ (code : Value) (C : Addr) (A' : Around) (i : Nat) (v : Value) (t : Shared) (m₂ : Str → Option Value) (g₁ : Heap), A'.handled = none → A'.depth ≤ A.depth + 1 → A'.units ≤ A.units + 8 → i < n → Pv i v → Sub g g₁ → (∀ p ∈ rest, At g₁ p) →
      (∀ b o, s.heap.get? b = some o → b ≠ I → b ≠ P → g₁.get? b = some o) → m₂ x = some v → St g₁ C t.heap m₂ [] →
      wpAny (model prog w) A' (eval elt (genEnv scope cl C code builtinsNs env)) (fun y s₃ => F i y ∧ Keeps t s₃) FalseE t) ∧
    (∀ a h' tk gs, AllBare gs → GenUp prog w A a n F g env.locals m ((P, isTab) :: rest) { s with heap := h', toks := tk, gens := gs } → Q (.ref a) { s with heap := h', toks := tk, gens := gs })
theorem genS {env : Env} {elt iter : Expr} {x : Str} {px : Pos} {scope : Scope} {cl : List (Str × Addr)} {pos : Pos} {Q : Value → Shared → Prop}
    (hh : A.handled = none) (hco : scope.isCoroutine = false) (hclos : closureFor scope env = pure cl) (hcell : ∀ y ∈ scope.names, y.2 ≠ .cell) (h0 : scope.names.lookup (".0" : Str) = some NameKind.local)
    (hx : scope.names.lookup x = some .local) (hkind : scope.kind = .function) (hroom : A.depth < recursionLimit) (hcode : env.code = .ref c) (hglob : env.globals = mainGlobals)
    (h : wpAny (model prog w) A (eval iter env) (fun xv s₁ => wpAny (model prog w) A (pyIter xv) (GenSrc prog w A env scope cl elt x c P Q) E s₁) E s)
    (hs : ∀ x, genFold iter env x = pure x) :
    wpAny (model prog w) A (eval (.GeneratorExp elt [⟨.Name x px, iter, [], 0⟩] scope pos) env) Q E s := by
  refine wpAny_GeneratorExp_walksQD hh hco hclos hcell h0 hx hkind hroom (wpAny_mono h (fun xv s₁ h₁ => wpAny_mono h₁ (fun it s₂ h₂ => ?_) fun _ _ e => e) fun _ _ e => e) hs
  obtain ⟨g, m, I, fp, n, Pv, Si, rest, F, rfl, W₀, hst, hfp, hPf, G, hC, S, hb, elt0, fin⟩ := h₂
  refine ⟨G.nolimit.keeps S.keep, genCode S hC hcode fun code h₃ tk₃ S₃ x₃ hsz => ?_⟩
  obtain ⟨mg, bm, ob, B⟩ := G.B
  have B₃ := B.keeps S₃.keep
  have hgI : g.get? I = none := (S.o.own (I, any) (.head _)).2
  have hrest : ∀ p ∈ rest, p.1 ≠ I := fun p hp => headNe S p (.tail _ hp)
  rw [hglob]
  refine wpAny_builtinsFor B₃.ns B₃.name B₃.ne B₃.obj B₃.cls B₃.dict B₃.data ?_
  refine ⟨I, fp, [I], n, fun i v => i < n ∧ Pv i v, Si, fun _ => true, F, rfl, fun A' hA => (W₀ A' hA).bound, (W₀ A hh).frame _ _ _ hst (fun b hb o e => x₃ b o (fun q => hPf (q ▸ hb)) e), (fun b hb => Nat.lt_of_lt_of_le (hfp b hb) hsz), G.nolimit.keeps S₃.keep, ?_, fun href hhref => ⟨?_, ?_⟩, ?_⟩
  · intro q
    obtain ⟨_, hns, _⟩ := G.nolimit
    obtain ⟨o, es, ep, ho, _⟩ := hns
    rw [List.mem_singleton.mp q, hgI] at ho; cases ho
  · intro A' E' i v t m₂ _ _ _ _ _ _ _
    exact wpAny_pure ⟨rfl, _, _, rfl, fun _ _ e => e⟩
  · intro A' E' i v t m₂ hA hD hU hP _ hn hm hkp
    obtain ⟨g₁, S₁, all₁⟩ := St.ofNs hn
    have up : ∀ b o, h₃.get? b = some o → b ≠ I → g₁.get? b = some o := fun b o e q =>
      all₁ b o (hkp b (List.mem_range.mpr (Heap.lt_size e)) (by simpa using q) o (hhref b o e)) (fun r => absurd (Heap.lt_size e) (by rw [r]; exact Nat.lt_irrefl _))
    refine wpAny_mono (elt0 code _ A' i v t m₂ g₁ hA hD hU hP.1 hP.2 (fun b o e => up b o (S₃.keep b o e) fun q => by rw [q, hgI] at e; cases e) (fun p hp => ?_) (fun b o e q1 q2 => up b o (x₃ b o q2 e) q1) hm S₁) (fun _ _ e => e) fun _ _ e => e.elim
    obtain ⟨o, e, hp'⟩ := (S₃.o.own p (.tail _ (.tail _ hp))).1
    exact ⟨o, up _ _ e (hrest p hp), hp'⟩
  · intro a h₅ tk gs hgb hag hsz₅ hk₅ W hat
    refine fin a h₅ tk _ (hb.push hgb) ⟨_, _, _, _, W, hat, fun b hb => ?_, fun s' hm => ?_⟩
    · show b < h₅.objs.size
      rw [hsz₅]
      rcases List.mem_cons.mp hb with rfl | hb
      · exact Nat.lt_succ_self _
      · rcases List.mem_cons.mp hb with rfl | hb
        · exact Nat.lt_succ_of_lt hag
        · exact Nat.lt_succ_of_lt (Nat.lt_trans (List.mem_range.mp hb) hag)
    · refine St.extDrop (pre := []) S₃ (it := I) fun b o q e => hm.heap b o (fun r => ?_) (hk₅ b o e)
      rcases List.mem_cons.mp r with r | r
      · exact absurd (Heap.lt_size e) (by rw [r]; exact Nat.lt_irrefl _)
      · exact q (List.mem_singleton.mp r)
theorem iterTupW {l : Addr} {vs : List Value} {news : Led} {Q : Value → Shared → Prop} (hl : At s.heap (l, isT vs)) (S : St g L s.heap m news)
    (h : ∀ I h' Si, (∀ A' : Around, A'.handled = none → Walks prog w A' I [I, l] [I] vs.length (fun i v => vs[i]? = some v) Si) → Si 0 h' → St g L h' m ((I, any) :: news) → (∀ b ∈ [I, l], b < h'.objs.size) → l < I → (∀ c o, s.heap.get? c = some o → h'.get? c = some o ∧ c ≠ I) → Q (.ref I) { s with heap := h' }) :
    wpAny (model prog w) A (pyIter (.ref l)) Q E s := by
  have hlt : l < s.heap.objs.size := hl.lt
  have hll : s.heap.IsTuple l vs.toArray := isTup_of hl
  refine wpAny_pyIter_tuple hll (h _ _ (fun i h => h.IsTupleIter s.heap.objs.size l i ∧ h.IsTuple l vs.toArray) (fun A' hA => ?_) ?_ (S.push _ trivial) ?_ hlt (fun c o e => ⟨Heap.get?_push_of_some _ e, Nat.ne_of_lt (Heap.lt_size e)⟩))
  · simpa using Walks.tuple (prog := prog) (w := w) (A := A') hA s.heap.objs.size l (Nat.ne_of_lt hlt) vs.toArray
  · exact ⟨⟨_, Heap.get?_push_size _ rfl, rfl, rfl⟩, hll.at fun o e => Heap.get?_push_of_some _ e⟩
  · intro b hb
    rw [Heap.size_push]
    rcases List.mem_cons.mp hb with rfl | hb
    · exact Nat.lt_succ_self _
    · rw [List.mem_singleton.mp hb]; exact Nat.lt_succ_of_lt hlt
theorem iterListW {l : Addr} {vs : List Value} {news : Led} {Q : Value → Shared → Prop} (hl : At s.heap (l, isL vs)) (S : St g L s.heap m news)
    (h : ∀ I h' Si, (∀ A' : Around, A'.handled = none → Walks prog w A' I [I, l] [I] vs.length (fun i v => vs[i]? = some v) Si) → Si 0 h' → St g L h' m ((I, any) :: news) → (∀ b ∈ [I, l], b < h'.objs.size) → l < I → (∀ c o, s.heap.get? c = some o → h'.get? c = some o ∧ c ≠ I) → Q (.ref I) { s with heap := h' }) :
    wpAny (model prog w) A (pyIter (.ref l)) Q E s := by
  have hlt : l < s.heap.objs.size := hl.lt
  have hll := isList_of hl
  refine wpAny_pyIter_list hll (h _ _ (fun i h => h.IsListIter s.heap.objs.size l i ∧ h.IsList l vs.toArray) (fun A' hA => ?_) ?_ (S.push _ trivial) ?_ hlt (fun c o e => ⟨Heap.get?_push_of_some _ e, Nat.ne_of_lt (Heap.lt_size e)⟩))
  · simpa using Walks.list (prog := prog) (w := w) (A := A') hA s.heap.objs.size l (Nat.ne_of_lt hlt) vs.toArray
  · exact ⟨⟨_, Heap.get?_push_size _ rfl, rfl, rfl⟩, hll.at fun o e => Heap.get?_push_of_some _ e⟩
  · intro b hb
    rw [Heap.size_push]
    rcases List.mem_cons.mp hb with rfl | hb
    · exact Nat.lt_succ_self _
    · rw [List.mem_singleton.mp hb]; exact Nat.lt_succ_of_lt hlt
theorem Moved.form {wr : List Addr} {gi : Nat} {s s' : Shared} (hm : Moved wr (GenOnlyQ gi) s s') : s' = { s with heap := s'.heap, toks := s'.toks, gens := s'.gens } := by
  obtain ⟨h', g', d', tk', os'⟩ := s'
  have e2 : d' = s.drawn := hm.drawn
  have e3 : os' = s.os := hm.os
  subst e2 e3
  rfl
theorem allGen {a : Addr} {n : Nat} {F : Nat → Value → Prop} {news : Led} {Q : Value → Shared → Prop} (U : GenUp prog w A a n F g L m news s) (hb : AllBare s.gens) (hF : ∀ i y, F i y → y = .bool false) (hn : 0 < n)
    (h : ∀ h' tk gs, St g L h' m news → AllBare gs → Q (.bool false) { s with heap := h', toks := tk, gens := gs }) : wpAny (model prog w) A (call (.builtin "all") [.ref a]) Q E s := by
  obtain ⟨fp, wr, gi, Sg, W, hst, hfp, k⟩ := U
  have W := W.in4_1
  refine call_all_walkS (W.self 0 _ _ _ hst ⟨a, _, _, _, _, _, _, fun _ => false, rfl, W, hst, fun i v s₁ Q₁ E₁ hP hq => ?_, fun s' hm => ?_⟩)
  · obtain rfl := hF _ _ (GenUp.one hP).2
    exact wpAny_truthy_bool hq
  · rw [passing_all, List.length_range]
    have e : (List.range n).all (fun _ => false) = false := by
      cases n with
      | zero => omega
      | succ n => rw [List.range_succ_eq_map]; rfl
    rw [e, Moved.form hm]
    exact h _ _ _ (k s' hm) (hb.moved hm.gens)
theorem maxGen {a : Addr} {n : Nat} {F : Nat → Value → Prop} {news : Led} {Q : Value → Shared → Prop} (val : Nat → Int) (U : GenUp prog w A a n F g L m news s) (hb : AllBare s.gens) (hF : ∀ i y, F i y → ∃ t, y = .int (val i) t) (hn : 0 < n)
    (h : ∀ j t h' tk gs, j < n → (∀ i, i < n → val i ≤ val j) → St g L h' m news → AllBare gs → Q (.int (val j) t) { s with heap := h', toks := tk, gens := gs }) : wpAny (model prog w) A (call (.builtin "max") [.ref a]) Q E s := by
  obtain ⟨fp, wr, gi, Sg, W, hst, hfp, k⟩ := U
  have W := W.in4_1
  have hl : (passing (fun _ => true) n 0).length = n := by rw [passing_all, List.length_range]
  refine call_max_walkS (W.self 0 _ _ _ hst ⟨a, _, _, _, _, _, _, _, rfl, W, hst, hfp, by rw [hl]; exact hn, CmpOf.ints_gt val (fun j v hv => hF j v (GenUp.one hv).2), fun v s' hv hm => ?_⟩)
  obtain ⟨hj, hv'⟩ := GenUp.one hv
  obtain ⟨t, rfl⟩ := hF _ v hv'
  have hbst := argBest_gt val (n - 1)
  rw [hl] at hj ⊢
  rw [Moved.form hm]
  exact h _ t _ _ _ hj (fun i hi => hbst.2 i (by omega)) (k s' hm) (hb.moved hm.gens)
end
end
section
section
variable {prog : Program} {w : World} {A : Around} {s : Shared} {g : Heap} {L x dx C : Addr} {m : Str → Option Value} {news : Led} {E : Value → Shared → Prop} {name : Str} {at_ : List (Str × Value)}
/-- a method read as a value -/
theorem bmA {f : Addr} {expr : Bool} {Q : Value → Shared → Prop} (S : St g L s.heap m news) (G : Gd w g) (hx : At s.heap (x, isO (instObj C dx))) (hd : At s.heap (dx, isA at_)) (hg : plainGet (K1 w.params) C name = true) (hh : hasDictIn (K1 w.params) C = true)
    (ha : findIn (K1 w.params) (.ref C) name = some (some (.ref f))) (hgf : specialIn (K1 w.params) (.ref f) "__get__" = some (some (.builtin "function.__get__")))
    (hts : takesIn (K1 w.params) (.ref f) = some false) (hc : copiedNames.contains name = false) (hl : at_.lookup name = none) (ht : typeIn (K1 w.params) (.ref f) = some (.type "function"))
    (h : ∀ q h', St g L h' m ((q, isO (methodObj (.ref f) (.ref x))) :: news) → Q (.ref q) { s with heap := h', toks := s.toks + 1 }) : wpAny (model prog w) A (getAttr (.ref x) name expr) Q E s := by
  obtain ⟨es, n, En, I⟩ := inst_of hx hd
  have X := G.X.keeps S.keep
  exact get_bind X I (plainGet_of hg).1 (findObj_fn hh ha hgf hts hc (by show lookIn name (dictOf es n) = _; rw [lookIn_dict, En.look, hl])) (plainGet_of hg).2
      (wpAny_call (fn_get (s := { s with toks := s.toks + 1 }) X ht (handed_on rfl (h _ _ (S.push _ rfl)))))
theorem starM_call {q f : Addr} {self : Value} {pos : Pos} {Q : Value → Shared → Prop} {args : List (Bool × Sem Value)} (hst : args.any (·.1) = true) (hf : fnIn (K1 w.params) f = true)
    (h : wpAny (model prog w) A (evalArgs (.ref q) true args []) (fun a s₁ => MethP (K1 w.params) q f self s₁.heap ∧ wpAny (model prog w) A (call (.ref q) ([] ++ a.pos) a.kw) Q E s₁) E s) : wpAny (model prog w) A (callWith pos (.ref q) [] args []) Q E s := by
  unfold callWith
  refine wpAny_bind (wpAny_holding (wpAny_mono h (fun a s₁ h₁ => wpAny_bind (wpAny_standAt ?_)) fun _ _ x => x))
  obtain ⟨X, h₁⟩ := h₁
  obtain ⟨k, hk, Lk⟩ := keeps_M (M := model prog w) hf _ X
  simp only [hst, Bool.true_or]
  refine wpAny_bind (Lk.here ?_)
  have tail : ∀ {t : Sem Value}, wpAny (model prog w) A t Q E s₁ → wpAny (model prog w) A (t >>= fun r => holding [r] point >>= fun _ => pure r) Q E s₁ :=
    fun ht => wpAny_bind (wpAny_mono ht (fun r s₂ hr => wpAny_bind (wpAny_holding (wpAny_point (wpAny_pure hr)))) fun _ _ x => x)
  have marked (mk : Value) : wpAny (model prog w) A (callMarked mk (.ref q) ([] ++ a.pos) a.kw) Q E s₁ := by unfold callMarked; exact Calls.wpAny_keep h₁
  rcases hk with rfl | rfl | rfl <;> dsimp only <;> first
    | exact tail (marked _)
    | exact tail (wpAny_operateT h₁)
    | exact tail (wpAny_operating h₁)
    | exact tail h₁
/-- a method object is called with stars -/
theorem starM {q f : Addr} {self : Value} {env : Env} {e : Expr} {p pos : Pos} {Q : Value → Shared → Prop} (hf : fnIn (K1 w.params) f = true) (_G : Gd w g) (_S : St g L s.heap m news) (_q : (q, isO (methodObj (.ref f) self)) ∈ news)
    (h : wpAny (model prog w) A (eval e env) (fun v s₁ => StarOf (model prog w) A E v (fun vs s₂ => (K1 w.params).In s₂.heap ∧ At s₂.heap (q, isO (methodObj (.ref f) self)) ∧
      codeAny (model prog w) A (.call (.ref f) ⟨self :: vs, []⟩) (fun r s' => match r with | .ok (.ret v) => Q v s' | .ok _ => False | .error e => E e s') s₂) s₁) E s)
    (he : starEach [.Starred e p] env = [(true, eval e env)] := by rfl) :
    wpAny (model prog w) A (callWith pos (.ref q) [] (backTo pos (starEach [.Starred e p] env)) []) Q E s := by
  rw [he]
  refine starM_call (f := f) (self := self) rfl hf (ks_lone (wpAny_mono h (fun v s₁ h₁ => ?_) fun _ _ x => x))
  refine wpAny_mono (show wpAny _ _ _ _ _ _ from h₁) (fun b s₂ h₂ => ⟨h₂.1, wpAny_mono h₂.2 (fun vs s₂ h₂ => ?_) fun _ _ x => x⟩) fun _ _ x => x
  obtain ⟨X, ⟨o, ho, rfl⟩, hc⟩ := h₂
  exact ⟨⟨ho, X⟩, wpAny_call (method_call ho hc)⟩
end
end
section
/-- h with only the objects at as -/
def onlyOf (h : Heap) (as : List Addr) : Heap := hideAll h ((List.range h.objs.size).filter fun b => decide (b ∉ as))
theorem onlyOf_get {h : Heap} {as : List Addr} {b : Addr} {o : Obj} (e : h.get? b = some o) (hb : b ∈ as) : (onlyOf h as).get? b = some o := by
  refine hideAll_get _ e fun q => ?_
  have := (List.mem_filter.mp q).2
  simp [hb] at this
theorem onlyOf_of {h : Heap} {as : List Addr} {b : Addr} {o : Obj} (e : (onlyOf h as).get? b = some o) : h.get? b = some o ∧ b ∈ as := by
  have e' := of_hideAll _ e
  refine ⟨e', Classical.byContradiction fun q => ?_⟩
  have : (onlyOf h as).get? b = none := hideAll_none _ (List.mem_filter.mpr ⟨List.mem_range.mpr (Heap.lt_size e'), by simp [q]⟩)
  rw [this] at e; cases e
open Classical in
/-- h with only the objects that tl tells exactly -/
noncomputable def partOf (h : Heap) (tl : Led) : Heap := hideAll h ((List.range h.objs.size).filter fun b => decide (¬ ∃ o, h.get? b = some o ∧ (b, isO o) ∈ tl))
open Classical in
theorem partOf_get {h : Heap} {tl : Led} {b : Addr} {o : Obj} (e : h.get? b = some o) (hb : (b, isO o) ∈ tl) : (partOf h tl).get? b = some o := by
  refine hideAll_get _ e fun q => ?_
  have := (List.mem_filter.mp q).2
  rw [decide_eq_true_iff] at this
  exact this ⟨o, e, hb⟩
open Classical in
theorem partOf_of {h : Heap} {tl : Led} {b : Addr} {o : Obj} (e : (partOf h tl).get? b = some o) : h.get? b = some o ∧ (b, isO o) ∈ tl := by
  have e' := of_hideAll _ e
  refine ⟨e', Classical.byContradiction fun q => ?_⟩
  have : (partOf h tl).get? b = none := hideAll_none _ (List.mem_filter.mpr ⟨List.mem_range.mpr (Heap.lt_size e'), by
    rw [decide_eq_true_iff]
    rintro ⟨o', e2, hm⟩
    rw [e'] at e2; cases e2
    exact q hm⟩)
  rw [this] at e; cases e
/-- what the ledger tells, told exactly -/
theorem Own.exact {g h : Heap} {mid post : Led} (O : Own g h (mid ++ post)) : ∃ mid' : Led, Own g h (mid' ++ post) ∧ ∀ p ∈ mid, ∃ o, h.get? p.1 = some o ∧ p.2 o ∧ (p.1, isO o) ∈ mid' := by
  refine ⟨mid.map fun p => (p.1, fun o => h.get? p.1 = some o), ⟨O.keep, fun p hp => ?_, ?_⟩, fun p hp => ?_⟩
  · rcases List.mem_append.mp hp with hp | hp
    · obtain ⟨p', hp', rfl⟩ := List.mem_map.mp hp
      obtain ⟨⟨o, e, _⟩, hn⟩ := O.own p' (List.mem_append_left _ hp')
      exact ⟨⟨o, e, e⟩, hn⟩
    · exact O.own p (List.mem_append_right _ hp)
  · have := O.nd
    rw [List.map_append] at this ⊢
    rw [List.map_map]
    exact this
  · obtain ⟨⟨o, e, hP⟩, _⟩ := O.own p (List.mem_append_left _ hp)
    refine ⟨o, e, hP, List.mem_map.mpr ⟨p, hp, ?_⟩⟩
    have : (fun o' => h.get? p.1 = some o') = isO o := by
      funext o'
      apply propext
      rw [e]
      exact ⟨fun q => (Option.some.inj q).symm, fun q => congrArg some q.symm⟩
    rw [this]
end
section
section
variable {prog : Program} {w : World} {A : Around} {s : Shared} {env : Env} {g : Heap} {Q : Flow → Shared → Prop} {I : Addr} {fp wr : List Addr} {n : Nat} {Si : Nat → Heap → Prop}
/-- a turn's end where generators may have come -/
def TurnEndG (s : Shared) (g : Heap) (L : Addr) (J : (Str → Option Value) → Led → Prop) (Q : Flow → Shared → Prop) (f : Flow) (s' : Shared) : Prop := match f with
  | .ret v => Q (.ret v) s'
  | .brk => Q .next s'
  | _ => ∃ h tk gs m mu, s' = { s with heap := h, toks := tk, gens := gs } ∧ AllBare gs ∧ St g L h m mu ∧ J m mu
theorem TurnEndG.next {s₀ : Shared} {L : Addr} {J : (Str → Option Value) → Led → Prop} {h : Heap} {tk : Nat} {gs : Array GenState} {m : Str → Option Value} {mu : Led} (hb : AllBare gs) (S : St g L h m mu) (j : J m mu) :
    TurnEndG s₀ g L J Q .next { s₀ with heap := h, toks := tk, gens := gs } := ⟨h, tk, gs, m, mu, rfl, hb, S, j⟩
/-- a for over an iterator at hand whatever the target; its items as V i v hold where all but the frame and mu is held -/
theorem loopG_G {tgt : Expr} {V : Nat → Value → Heap → Prop} {body : List Stmt} {m : Str → Option Value} {mu rest : Led} (J : Nat → (Str → Option Value) → Led → Prop)
    (item : ∀ i (s : Shared) (Q : Value → Shared → Prop) (E : Value → Shared → Prop), i < n → Si i s.heap →
      (∀ v h' tk, (∀ g₁ : Heap, ∀ off : List Addr, (∀ b ∈ off, ∃ o, s.heap.get? b = some o) → (∀ b o, h'.get? b = some o → b ∉ off → g₁.get? b = some o) → V i v g₁) → Si (i + 1) h' → (∀ b o, b ∉ wr → s.heap.get? b = some o → h'.get? b = some o) → Q v { s with heap := h', toks := tk }) →
      wpAny (model prog w) A (pyNext (.ref I)) (fun r s₁ => match r with | none => False | some v => wpAny (model prog w) A (letOwnedTupleGo tgt (.ref I) v) (fun _ s₂ => Q v s₂) E s₁) E s)
    (done' : ∀ (s : Shared) (Q : Option Value → Shared → Prop) (E : Value → Shared → Prop), Si n s.heap →
      (∀ h' tk, (∀ b o, b ∉ wr → s.heap.get? b = some o → h'.get? b = some o) → Q none { s with heap := h', toks := tk }) → wpAny (model prog w) A (pyNext (.ref I)) Q E s)
    (frame : ∀ i h h', Si i h → (∀ b ∈ fp, ∀ o, h.get? b = some o → h'.get? b = some o) → Si i h')
    (alive : ∀ i h, Si i h → ∀ b ∈ fp, ∃ o, h.get? b = some o) (hs : ∀ b ∈ wr, b ∈ fp)
    (hg : ∀ b ∈ wr, g.get? b = none) (hL : env.locals ∉ fp) (hmu : ∀ p ∈ mu, p.1 ∉ fp) (hr : ∀ p ∈ rest, p.1 ∉ wr)
    (hb : AllBare s.gens) (S : St g env.locals s.heap m (mu ++ rest)) (hst : Si 0 s.heap) (j0 : J 0 m mu)
    (turn : ∀ i v m₁ mu₁ g₁ h tk gs, AllBare gs → i < n → V i v g₁ → J i m₁ mu₁ → Sub g g₁ → (∀ p ∈ rest, At g₁ p) → (∀ b o, s.heap.get? b = some o → b ≠ env.locals → b ∉ wr → b ∉ mu.map (·.1) → g₁.get? b = some o) →
      St g₁ env.locals h m₁ mu₁ →
      wpAny (model prog w) A (assign tgt env v) (fun _ s₁ => wpAny (model prog w) A (execs body env) (TurnEndG s g₁ env.locals (J (i + 1)) Q) FalseE s₁) FalseE { s with heap := h, toks := tk, gens := gs })
    (done : ∀ m₁ mu₁ h tk gs, AllBare gs → J n m₁ mu₁ → St g env.locals h m₁ (mu₁ ++ rest) → Q .next { s with heap := h, toks := tk, gens := gs }) :
    codeAny (model prog w) A (.forLoop tgt (.ref I) body [] env) (fun r s' => match r with | .ok f => Q f s' | .error _ => False) s := by
  refine codeAny_forLoop_any (fun k s' => ∃ i h tk gs m₁ mu₁, s' = { s with heap := h, toks := tk, gens := gs } ∧ AllBare gs ∧ Si i h ∧ St g env.locals h m₁ (mu₁ ++ rest) ∧ (∀ p ∈ mu₁, p.1 ∉ fp) ∧ J i m₁ mu₁ ∧
    (∀ b o, s.heap.get? b = some o → b ≠ env.locals → b ∉ wr → b ∉ mu.map (·.1) → h.get? b = some o ∧ b ∉ mu₁.map (·.1)) ∧ i ≤ n ∧ k = n + 1 - i) ?_ (n + 1)
    ⟨0, s.heap, s.toks, s.gens, m, mu, rfl, hb, hst, S, hmu, j0, fun b o e _ _ q => ⟨e, q⟩, Nat.zero_le _, rfl⟩
  rintro k s' ⟨i, h, tk, gs, m₁, mu₁, rfl, hbg, hsi, S₁, off₁, j₁, kept, hi, rfl⟩
  by_cases hlt : i < n
  · refine wpAny_mono (item i { s with heap := h, toks := tk, gens := gs } (fun v s₂ => wpAny (model prog w) A (assign tgt env v) (fun _ s₂ => wpAny (model prog w) A (execs body env) (fun f s₃ => match f with
            | .next | .cont => ∃ m, m < n + 1 - i ∧ ∃ i h tk gs m₁ mu₁, s₃ = { s with heap := h, toks := tk, gens := gs } ∧ AllBare gs ∧ Si i h ∧ St g env.locals h m₁ (mu₁ ++ rest) ∧ (∀ p ∈ mu₁, p.1 ∉ fp) ∧ J i m₁ mu₁ ∧
                (∀ b o, s.heap.get? b = some o → b ≠ env.locals → b ∉ wr → b ∉ mu.map (·.1) → h.get? b = some o ∧ b ∉ mu₁.map (·.1)) ∧ i ≤ n ∧ m = n + 1 - i
            | .brk => Q .next s₃
            | .ret v => Q (.ret v) s₃) FalseE s₂) FalseE s₂) FalseE hlt hsi fun v h₁ tk₁ hV hst₁ hk₁ => ?_) (fun r s₂ z => ?_) fun _ _ z => z.elim
    · have S₂ := S₁.step hg hs hL off₁ hr hk₁
      obtain ⟨g₁, sub₁, S₄, at₁, all₁⟩ := S₂.rebase
      have V₁ : V i v g₁ := hV g₁ (env.locals :: mu₁.map (·.1)) (fun b hb => by
        rcases List.mem_cons.mp hb with rfl | hb
        · obtain ⟨o, _, _, e, _⟩ := S₁.ns; exact ⟨o, e⟩
        · obtain ⟨p, hp, rfl⟩ := List.mem_map.mp hb
          obtain ⟨o, e, _⟩ := (S₁.o.own p (List.mem_append_left _ hp)).1
          exact ⟨o, e⟩) fun b o e q => all₁ b o e (fun q' => q (by rw [q']; exact .head _)) fun q' => q (.tail _ q')
      have fpg : ∀ b ∈ fp, ∀ o, h₁.get? b = some o → g₁.get? b = some o := fun b hb o e => all₁ b o e (fun q => hL (q ▸ hb)) fun q => by
        obtain ⟨p, hp, e⟩ := List.mem_map.mp q
        exact off₁ p hp (by rw [e]; exact hb)
      have up : ∀ b o, s.heap.get? b = some o → b ≠ env.locals → b ∉ wr → b ∉ mu.map (·.1) → g₁.get? b = some o := fun b o e q1 q2 q3 => by
        obtain ⟨e1, e2⟩ := kept b o e q1 q2 q3
        exact all₁ b o (hk₁ b o q2 e1) q1 e2
      refine wpAny_mono (turn i v m₁ mu₁ g₁ h₁ tk₁ gs hbg hlt V₁ j₁ sub₁ at₁ up S₄) (fun _ s₃ h₃ => wpAny_mono h₃ (fun f s₃ h₃ => ?_) fun _ _ e => e) fun _ _ e => e
      have fin : (∃ h tk gs m mu, s₃ = { s with heap := h, toks := tk, gens := gs } ∧ AllBare gs ∧ St g₁ env.locals h m mu ∧ J (i + 1) m mu) → ∃ m, m < n + 1 - i ∧ ∃ i h tk gs m₁ mu₁, s₃ = { s with heap := h, toks := tk, gens := gs } ∧ AllBare gs ∧ Si i h ∧ St g env.locals h m₁ (mu₁ ++ rest) ∧ (∀ p ∈ mu₁, p.1 ∉ fp) ∧ J i m₁ mu₁ ∧
          (∀ b o, s.heap.get? b = some o → b ≠ env.locals → b ∉ wr → b ∉ mu.map (·.1) → h.get? b = some o ∧ b ∉ mu₁.map (·.1)) ∧ i ≤ n ∧ m = n + 1 - i := by
        rintro ⟨h₄, tk₃, gs₃, m₂, mu₂, rfl, hb₃, S₅, j₂⟩
        have apart : ∀ b o, g₁.get? b = some o → b ∉ mu₂.map (·.1) := fun b o e q => by
          obtain ⟨p, hp, rfl⟩ := List.mem_map.mp q
          rw [(S₅.o.own p hp).2] at e; cases e
        refine ⟨n + 1 - (i + 1), by omega, i + 1, h₄, tk₃, gs₃, m₂, mu₂, rfl, hb₃, ?_, ?_, ?_, j₂, fun b o e q1 q2 q3 => ⟨S₅.keep _ _ (up b o e q1 q2 q3), apart b o (up b o e q1 q2 q3)⟩, hlt, rfl⟩
        · exact frame _ _ _ hst₁ fun b hb o e => S₅.keep b o (fpg b hb o e)
        · exact S₅.unbase sub₁ at₁ (fun p hp => ⟨(S.o.own p (List.mem_append_right _ hp)).2, fun q => S.offn (q ▸ List.mem_map_of_mem (List.mem_append_right _ hp))⟩) (by
            have nd := S.o.nd
            rw [List.map_append, List.nodup_append] at nd
            exact nd.2.1)
        · intro p hp q
          obtain ⟨o, eo⟩ := alive _ _ hst₁ p.1 q
          exact apart _ _ (fpg _ q _ eo) (List.mem_map_of_mem hp)
      cases f with
      | ret v => exact h₃
      | brk => exact h₃
      | next => exact fin h₃
      | cont => exact fin h₃
    · cases r with
      | none => exact z.elim
      | some v =>
        refine wpAny_mono z (fun _ s₃ h₃ => wpAny_mono h₃ (fun _ s₄ h₄ => wpAny_mono h₄ (fun f s₅ h₅ => ?_) fun _ _ e => e.elim) fun _ _ e => e.elim) fun _ _ e => e.elim
        cases f with
        | next => exact h₅
        | cont => exact h₅
        | brk => exact h₅
        | ret v => exact h₅
  · have hin : i = n := by omega
    subst hin
    refine done' _ _ _ hsi fun h₁ tk₁ hk₁ => wpAny_execs_nil ?_
    exact done m₁ mu₁ h₁ tk₁ gs hbg j₁ (S₁.step hg hs hL off₁ hr hk₁)

end
section
variable {prog : Program} {w : World} {A : Around} {s : Shared} {env : Env} {g : Heap} {Q : Flow → Shared → Prop} {m : Str → Option Value} {mu rest : Led}
/-- for .. in a tuple, whatever the target -/
theorem tupLoopG {l : Addr} {vs : List Value} {tgt : Expr} {body : List Stmt} (J : Nat → (Str → Option Value) → Led → Prop)
    (hh : A.handled = none) (hl : At s.heap (l, isT vs)) (hlL : l ≠ env.locals) (hmu : ∀ p ∈ mu, p.1 ≠ l)
    (hbg : AllBare s.gens) (S : St g env.locals s.heap m (mu ++ rest)) (j0 : J 0 m mu)
    (turn : ∀ i v m₁ mu₁ g₁ h tk gs, AllBare gs → vs[i]? = some v → J i m₁ mu₁ → Sub g g₁ → (∀ p ∈ rest, At g₁ p) → (∀ c o, s.heap.get? c = some o → c ≠ env.locals → c ∉ mu.map (·.1) → g₁.get? c = some o) →
      St g₁ env.locals h m₁ mu₁ →
      wpAny (model prog w) A (assign tgt env v) (fun _ s₁ => wpAny (model prog w) A (execs body env) (TurnEndG s g₁ env.locals (J (i + 1)) Q) FalseE s₁) FalseE { s with heap := h, toks := tk, gens := gs })
    (done : ∀ m₁ mu₁ h tk gs, AllBare gs → J vs.length m₁ mu₁ → St g env.locals h m₁ (mu₁ ++ rest) → Q .next { s with heap := h, toks := tk, gens := gs }) :
    wpAny (model prog w) A (pyIter (.ref l)) (fun it s₂ => ∃ I, it = .ref I ∧ codeAny (model prog w) A (.forLoop tgt (.ref I) body [] env) (fun r s' => match r with | .ok f => Q f s' | .error _ => False) s₂) FalseE s := by
  have hlt : l < s.heap.objs.size := hl.lt
  have hll : s.heap.IsTuple l vs.toArray := isTup_of hl
  have W := Walks.tuple (prog := prog) (w := w) hh s.heap.objs.size l (Nat.ne_of_lt hlt) vs.toArray
  refine wpAny_pyIter_tuple hll ⟨_, rfl, ?_⟩
  have kf : ∀ c o, s.heap.get? c = some o → (s.heap.push { cls := .type "tuple_iterator", data := .fields #[.ref l, .int 0 0] }).get? c = some o ∧ c ≠ s.heap.objs.size := fun c o e => ⟨Heap.get?_push_of_some _ e, Nat.ne_of_lt (Heap.lt_size e)⟩
  have S' : St g env.locals (s.heap.push { cls := .type "tuple_iterator", data := .fields #[.ref l, .int 0 0] }) m ((s.heap.objs.size, any) :: (mu ++ rest)) := S.push _ trivial
  refine loopG_G (s := { s with heap := s.heap.push { cls := .type "tuple_iterator", data := .fields #[.ref l, .int 0 0] } }) (mu := mu) (rest := rest) (fp := [s.heap.objs.size, l]) (wr := [s.heap.objs.size]) (n := vs.length) (V := fun i v _ => vs[i]? = some v)
    (Si := fun i h => h.IsTupleIter s.heap.objs.size l i ∧ h.IsTuple l vs.toArray) J ?_ ?_ W.frame ?_ ?_ ?_ ?_ ?_ ?_ hbg S'.drop1 ⟨⟨_, Heap.get?_push_size _ rfl, rfl, rfl⟩, hll.push _⟩ j0
    (fun i v m₁ mu₁ g₁ h tk gs hb hi hV j sub at₁ all S₁ => turn i v m₁ mu₁ g₁ h tk gs hb hV j sub at₁ (fun c o e q1 q2 => all c o (kf c o e).1 q1 (by simpa using (kf c o e).2) q2) S₁) done
  · intro i s₁ Q E hi st hQ
    refine W.item i s₁ _ _ (by simpa using hi) st fun v h' tk hP st' k => ?_
    exact letGoT st'.1 (hQ v h' tk (fun _ _ _ _ => by simpa using hP) st' k)
  · intro s₁ Q E st hQ
    exact W.done s₁ Q E (by simpa using st) hQ
  · intro i h st b hb
    rcases List.mem_cons.mp hb with rfl | hb
    · obtain ⟨o, e, _⟩ := st.1; exact ⟨o, e⟩
    · rw [List.mem_singleton.mp hb]; obtain ⟨o, e, _⟩ := st.2; exact ⟨o, e⟩
  · intro b hb; rw [List.mem_singleton.mp hb]; exact .head _
  · intro b hb; rw [List.mem_singleton.mp hb]; exact S.o.noSize
  · intro q
    rcases List.mem_cons.mp q with q | q
    · exact S'.neL (P := any) (.head _) q.symm
    · exact hlL (List.mem_singleton.mp q).symm
  · intro p hp q
    rcases List.mem_cons.mp q with q | q
    · exact headNe S' p (List.mem_append_left _ hp) q
    · exact hmu p hp (List.mem_singleton.mp q)
  · intro p hp q
    exact headNe S' p (List.mem_append_right _ hp) (List.mem_singleton.mp q)
end
end
end Mine
namespace Mine
local macro_rules | `(tactic| walk_at "S_at") => `(tactic| first | assumption | exact St.get (by assumption) (by k_mem) | exact St.at (by assumption) (by assumption))
local macro_rules | `(tactic| walk_at "S_len") => `(tactic| first | omega | (simp only [List.length_cons, List.length_nil, List.length_set, List.length_append, List.length_map, List.length_range]; omega) | assumption)
local macro_rules | `(tactic| walk_at "eval Name") => `(tactic| first
  | (k_dflt (first
  | ((with_reducible refine' nL ?S ?v ?_ ?a ?b); (case b => rfl); (case a => rfl); (case S => assumption); (case v => first | rfl | assumption))
  | ((with_reducible refine' nK ?S ?G ?e ?_ ?a ?b); (case b => rfl); (case a => rfl); (case S => assumption); (case G => assumption); (case e => k_is))
  | ((with_reducible refine' nB ?S ?G ?e ?v ?n ?_ ?a ?b); (case b => rfl); (case a => rfl); (case S => assumption); (case G => assumption); (case e => k_is); (case v => boot_fast); (case n => decide))
  | ((with_reducible refine' nC ?c ?m ?_ ?a ?b); (case b => rfl); (case a => rfl); (case c => rfl); (case m => walk_at "S_at"))
  | ((with_reducible refine' nF ?c ?m ?_ ?a ?b); (case b => rfl); (case a => rfl); (case c => rfl); (case m => walk_at "S_at"))))
  | (k_dflt (first
  | (refine' nL ?S ?v ?_ ?a ?b; (case b => rfl); (case a => rfl); (case S => assumption); (case v => first | rfl | assumption))
  | (refine' nK ?S ?G ?e ?_ ?a ?b; (case b => rfl); (case a => rfl); (case S => assumption); (case G => assumption); (case e => k_is))
  | (refine' nB ?S ?G ?e ?v ?n ?_ ?a ?b; (case b => rfl); (case a => rfl); (case S => assumption); (case G => assumption); (case e => k_is); (case v => boot_fast); (case n => decide))
  | (refine' nC ?c ?m ?_ ?a ?b; (case b => rfl); (case a => rfl); (case c => rfl); (case m => walk_at "S_at"))
  | (refine' nF ?c ?m ?_ ?a ?b; (case b => rfl); (case a => rfl); (case c => rfl); (case m => walk_at "S_at")))))
local macro_rules | `(tactic| walk_at "loadName") => `(tactic| first
  | (k_dflt ((with_reducible refine' nlL ?S ?v ?_ ?a ?b); (case b => rfl); (case S => assumption); (case a => rfl); (case v => first | rfl | assumption)))
  | (k_dflt (refine' nlL ?S ?v ?_ ?a ?b; (case b => rfl); (case S => assumption); (case a => rfl); (case v => first | rfl | assumption))))
local macro_rules | `(tactic| walk_at "storeName") => `(tactic| first
  | (((with_reducible rename St _ _ _ _ _ => lS); k_dflt (first
  | ((with_reducible refine' stL lS ?_ ?a ?b); (case b => rfl); (case a => rfl))
  | ((with_reducible refine' stC_0 lS ?c ?_ ?a ?b); (case b => rfl); (case a => rfl); (case c => rfl))
  | ((with_reducible refine' stC_1 lS ?c ?_ ?a ?b); (case b => rfl); (case a => rfl); (case c => rfl))
  | ((with_reducible refine' stC_2 lS ?c ?_ ?a ?b); (case b => rfl); (case a => rfl); (case c => rfl))
  | ((with_reducible refine' stC_3 lS ?c ?_ ?a ?b); (case b => rfl); (case a => rfl); (case c => rfl))
  | ((with_reducible refine' stC_4 lS ?c ?_ ?a ?b); (case b => rfl); (case a => rfl); (case c => rfl))); clear lS; intro h' tk' S'))
  | (((with_reducible rename St _ _ _ _ _ => lS); k_dflt (first
  | (refine' stL lS ?_ ?a ?b; (case b => rfl); (case a => rfl))
  | (refine' stC_0 lS ?c ?_ ?a ?b; (case b => rfl); (case a => rfl); (case c => rfl))
  | (refine' stC_1 lS ?c ?_ ?a ?b; (case b => rfl); (case a => rfl); (case c => rfl))
  | (refine' stC_2 lS ?c ?_ ?a ?b; (case b => rfl); (case a => rfl); (case c => rfl))
  | (refine' stC_3 lS ?c ?_ ?a ?b; (case b => rfl); (case a => rfl); (case c => rfl))
  | (refine' stC_4 lS ?c ?_ ?a ?b; (case b => rfl); (case a => rfl); (case c => rfl))); clear lS; intro h' tk' S')))
local macro_rules | `(tactic| walk_at "newList") => `(tactic| ((with_reducible rename St _ _ _ _ _ => lS); k_dflt ((with_reducible refine' newList_S lS ?_ ?z); (case z => first | (rw [PySem.sizeLine_eq]; exact Nat.le_of_ble_eq_true rfl) | decide | size_fits); clear lS; intro l' h' S')))
local macro_rules | `(tactic| walk_at "newTuple") => `(tactic| ((with_reducible rename St _ _ _ _ _ => lS); k_dflt ((with_reducible refine' newTuple_S lS ?_ ?z); (case z => first | (rw [PySem.sizeLine_eq]; exact Nat.le_of_ble_eq_true rfl) | decide | size_fits); clear lS; intro l' h' S')))
local macro_rules | `(tactic| walk_at "call builtin:len") => `(tactic| ((with_reducible show wpAny _ _ (call (Value.builtin "len") [Value.ref _]) _ _ _); k_dflt ((with_reducible refine' lenL ?m ?f ?_); (case m => first | exact isList_of (by walk_at "S_at") | exact isList_lo (by walk_at "S_at")); (case f => walk_at "S_len"); intro _ _)))
local macro_rules | `(tactic| walk_at "subscriptTail") => `(tactic| ((with_reducible show wpAny _ _ (subscriptTail _ _ (Value.ref _) (Value.int _ _)) _ _ _); k_dflt ((with_reducible refine' subL ?m ?a ?b ?c ?_ ?d); (case d => with_unfolding_all rfl); (case m => first | exact isList_of (by walk_at "S_at") | exact isList_lo (by walk_at "S_at")); (case a => first | decide | omega); (case b => first | decide | omega); (case c => first | rfl | assumption))))
local macro_rules | `(tactic| walk_at "setItem ref int") => `(tactic| ((with_reducible rename St _ _ _ _ _ => lS); k_dflt (first
  | ((with_reducible refine' setL_0 lS ?a ?b ?c ?_); (case a => omega); (case b => omega); (case c => walk_at "S_len"))
  | ((with_reducible refine' setL_1 lS ?a ?b ?c ?_); (case a => omega); (case b => omega); (case c => walk_at "S_len"))
  | ((with_reducible refine' setL_2 lS ?a ?b ?c ?_); (case a => omega); (case b => omega); (case c => walk_at "S_len"))
  | ((with_reducible refine' setL_3 lS ?a ?b ?c ?_); (case a => omega); (case b => omega); (case c => walk_at "S_len"))); clear lS; intro h' S'))
local macro_rules | `(tactic| walk_at "S_stop") => `(tactic| ((fail_if_success (with_reducible show wpAny _ _ (exec (Stmt.For _ _ _ _ _) _) _ _ _)); (fail_if_success (with_reducible show wpAny _ _ (pyIter _) _ _ _))))
local macro_rules | `(tactic| walk_at "S_go") => `(tactic| repeat' (walk_at "S_stop"; (first | walk1 | (dsimp only; walk1)); (try dsimp only)))
local macro_rules | `(tactic| walk_at "callWith ref") => `(tactic| ((with_reducible show wpAny _ _ (callWith _ (Value.ref _) _ (backTo _ (starEach [] _)) []) _ _ _); k_dflt ((with_reducible refine' callWith_K0 ?X ?k ?_); (case X => exact (Gd.X (by assumption)).keeps (St.keep (by assumption))); (case k => k_is))))
local macro_rules | `(tactic| walk_at "callWith ref") => `(tactic| ((with_reducible show wpAny _ _ (callWith _ (Value.ref _) _ (backTo _ (starEach (_ :: _) _)) []) _ _ _); k_dflt ((with_reducible refine' callWith_K (h₀ := ?g) ?X ?k ?_ ?a ?b); (case b => rfl); (case a => rfl); (case X => exact Gd.X (by assumption)); (case k => k_is))))
local macro_rules | `(tactic| walk_at "And") => `(tactic| (refine And.intro ((Gd.X (by assumption)).keeps (St.keep (by assumption))) (wpAny_call ?_)))
local macro_rules | `(tactic| walk_at "call builtin:len") => `(tactic| ((with_reducible show wpAny _ _ (call (Value.builtin "len") [Value.str _ _]) _ _ _); k_dflt ((with_reducible refine' lenSw ?f ?_); (case f => first | omega | assumption | (simp only [List.length_cons, List.length_nil, List.length_append, List.length_take, List.length_drop, List.length_range, List.length_map]; omega) | decide))))
local macro_rules | `(tactic| walk_at "S_num") => `(tactic| first | assumption | (simp only [List.length_cons, List.length_nil, List.length_append, List.length_take, List.length_drop, List.length_range, List.length_map]; omega) | omega | decide)
local macro_rules | `(tactic| walk_at "binaryOp Add str str") => `(tactic| (k_dflt ((with_reducible refine' addSw ?z ?_); (case z => walk_at "S_num")); intro _ _))
local macro_rules | `(tactic| walk_at "subscriptTail") => `(tactic| ((with_reducible show wpAny _ _ (subscriptTail _ _ (Value.str (Str.ofString "abc") _) (Value.int _ _)) _ _ _); k_dflt ((with_reducible refine' subABC ?a ?b ?_ ?d ?e); (case d => intro _; with_unfolding_all rfl); (case e => intro _ _; with_unfolding_all rfl); (case a => walk_at "S_num"); (case b => walk_at "S_num"))))
local macro_rules | `(tactic| walk_at "subscriptTail") => `(tactic| ((with_reducible show wpAny _ _ (subscriptTail _ _ (Value.str (sw _) _) (Value.int _ _)) _ _ _); k_dflt ((with_reducible refine' subS ?a ?b ?c ?_ ?d ?e); (case d => with_unfolding_all rfl); (case e => intro _; with_unfolding_all rfl); (case a => omega); (case b => omega); (case c => assumption))))
local macro_rules | `(tactic| walk_at "subscriptTail Name BinOp str int") => `(tactic| ((with_reducible show wpAny _ _ (subscriptTail _ _ (Value.str (sw _) _) (Value.int _ _)) _ _ _); k_dflt ((with_reducible refine' subS ?a ?b ?c ?_ ?d ?e); (case d => with_unfolding_all rfl); (case e => intro _; with_unfolding_all rfl); (case a => omega); (case b => omega); (case c => assumption))))
local macro_rules | `(tactic| walk_at "subscriptTail Name Name str int") => `(tactic| ((with_reducible show wpAny _ _ (subscriptTail _ _ (Value.str (sw _) _) (Value.int _ _)) _ _ _); k_dflt ((with_reducible refine' subS ?a ?b ?c ?_ ?d ?e); (case d => with_unfolding_all rfl); (case e => intro _; with_unfolding_all rfl); (case a => omega); (case b => omega); (case c => assumption))))
local macro_rules | `(tactic| walk_at "subscriptTail") => `(tactic| ((with_reducible show wpAny _ _ (subscriptTail _ (Expr.Slice (some _) (some _) none _) (Value.str _ _) (Value.ref _)) _ _ _); (with_reducible rename St _ _ _ _ _ => lS); k_dflt ((with_reducible refine' sliceSs (s := ⟨_, _, _, _, _⟩) lS ?i ?j ?z ?_ ?a ?b); (case b => intro _; with_unfolding_all rfl); (case a => with_unfolding_all rfl); (case i => walk_at "S_num"); (case j => walk_at "S_num"); (case z => walk_at "S_num")); clear lS; intro h' t' k' S'))
local macro_rules | `(tactic| walk_at "subscriptTail") => `(tactic| ((with_reducible show wpAny _ _ (subscriptTail _ (Expr.Slice (some _) none none _) (Value.str _ _) (Value.ref _)) _ _ _); (with_reducible rename St _ _ _ _ _ => lS); k_dflt ((with_reducible refine' sliceSn (s := ⟨_, _, _, _, _⟩) lS ?i ?z ?_ ?a ?b); (case b => intro _; with_unfolding_all rfl); (case a => with_unfolding_all rfl); (case i => walk_at "S_num"); (case z => walk_at "S_num")); clear lS; intro h' t' k' S'))
local macro_rules | `(tactic| walk_at "subscriptTail") => `(tactic| ((with_reducible show wpAny _ _ (subscriptTail _ (Expr.Slice none (some _) none _) (Value.str _ _) (Value.ref _)) _ _ _); (with_reducible rename St _ _ _ _ _ => lS); k_dflt ((with_reducible refine' sliceNs (s := ⟨_, _, _, _, _⟩) lS ?j ?z ?_ ?a ?b); (case b => intro _; with_unfolding_all rfl); (case a => with_unfolding_all rfl); (case j => walk_at "S_num"); (case z => walk_at "S_num")); clear lS; intro h' t' k' S'))
local macro_rules | `(tactic| walk_at "unpackItems ref") => `(tactic| ((with_reducible rename St _ _ _ _ _ => lS); k_dflt (first
  | ((with_reducible refine' unpackT ?hh ?l lS ?n ?e ?_); (case hh => assumption); (case l => walk_at "S_at"); (case n => first | exact St.neL lS (by k_mem) | assumption); (case e => rfl))
  | ((with_reducible refine' unpackL ?hh ?l lS ?n ?e ?_); (case hh => assumption); (case l => walk_at "S_at"); (case n => first | exact St.neL lS (by k_mem) | assumption); (case e => rfl))); clear lS; intro h' tk' S'))
local macro_rules | `(tactic| walk_at "call type:range") => `(tactic| ((with_reducible rename St _ _ _ _ _ => lS); k_dflt (first | (with_reducible refine' range1S lS ?_) | (with_reducible refine' range2S lS ?_)); clear lS; intro r' h' tk' S'))
local macro_rules | `(tactic| walk_at "call builtin:str.join") => `(tactic| (k_dflt ((with_reducible refine' joinS ?a ?b ?c ?_); (case a => walk_at "S_at"); (case b => assumption); (case c => walk_at "S_num")); intro _ _))
local macro_rules | `(tactic| walk_at "getMethod ref") => `(tactic| (k_dflt (first
  | ((with_reducible refine' getListS PySem.F.slot_list_append PySem.F.type_list_append ?m ?_); (case m => walk_at "S_at"))
  | ((with_reducible refine' getListS PySem.F.slot_list_remove PySem.F.type_list_remove ?m ?_); (case m => walk_at "S_at")))))
local macro_rules | `(tactic| walk_at "call builtin:list.append") => `(tactic| ((with_reducible rename St _ _ _ _ _ => lS); k_dflt (first | ((with_reducible refine' appendS [] lS ?z ?_); (case z => walk_at "S_len")) | ((with_reducible refine' appendS [_] lS ?z ?_); (case z => walk_at "S_len")) | ((with_reducible refine' appendS [_, _] lS ?z ?_); (case z => walk_at "S_len")) | ((with_reducible refine' appendS [_, _, _] lS ?z ?_); (case z => walk_at "S_len")) | ((with_reducible refine' appendS [_, _, _, _] lS ?z ?_); (case z => walk_at "S_len")) | ((with_reducible refine' appendS [_, _, _, _, _] lS ?z ?_); (case z => walk_at "S_len"))); clear lS; intro h' S'))
local macro_rules | `(tactic| walk_at "compareOp In str ref") => `(tactic| (k_dflt ((with_reducible refine' inS ?i ?m ?_); (case i => assumption); (case m => walk_at "S_at"))))
local macro_rules | `(tactic| walk_at "assign Tuple") => `(tactic| ((with_reducible rename St _ _ _ _ _ => lS); (k_dflt ((with_reducible refine' assignTupS ?h lS ?t ?_ ?a ?b); (case t => walk_at "S_at"); (case b => rfl); (case a => rfl); (case h => assumption); clear lS; intro h' S'))))
local macro_rules | `(tactic| walk_at "S_nd") => `(tactic| ((with_reducible rename St _ _ _ _ _ => lS); (have nd := lS.o.nd); (clear lS); first | (simp; done) | ((simp only [List.map_cons, List.map_nil, List.cons_append, List.nil_append, List.append_nil, List.nodup_cons, List.mem_cons, List.not_mem_nil, or_false, not_or, List.nodup_nil, and_true, not_false_eq_true] at nd ⊢); grind)))
local macro_rules | `(tactic| walk_at "call builtin:max") => `(tactic| ((with_reducible show wpAny _ _ (call (Value.builtin "max") [Value.ref _]) _ _ _); (with_reducible rename St _ _ _ _ _ => lS); (k_dflt ((with_reducible refine' max2S ?h ?m lS ?_); (case m => walk_at "S_at"); (case h => assumption); clear lS; intro h' tk' t' S'))))
local macro_rules | `(tactic| walk_at "exec Assign") => `(tactic| (with_reducible refine plainObj_wpAny_Assign_Attribute ?_ ?_; rotate_left; with_unfolding_all rfl))
local macro_rules | `(tactic| walk_at "setAttr ref") => `(tactic| ((with_reducible rename St _ _ _ _ _ => lS); k_dflt (first | ((with_reducible refine' setA [] lS ?G ?x ?s ?p ?t ?h ?l ?z ?_); (case x => walk_at "S_at"); (case l => first | rfl | assumption); (case G => assumption); (case s => k_is); (case p => k_is); (case t => k_is); (case h => k_is); (case z => simp)) | ((with_reducible refine' setA [_] lS ?G ?x ?s ?p ?t ?h ?l ?z ?_); (case x => walk_at "S_at"); (case l => first | rfl | assumption); (case G => assumption); (case s => k_is); (case p => k_is); (case t => k_is); (case h => k_is); (case z => simp)) | ((with_reducible refine' setA [_, _] lS ?G ?x ?s ?p ?t ?h ?l ?z ?_); (case x => walk_at "S_at"); (case l => first | rfl | assumption); (case G => assumption); (case s => k_is); (case p => k_is); (case t => k_is); (case h => k_is); (case z => simp)) | ((with_reducible refine' setA [_, _, _] lS ?G ?x ?s ?p ?t ?h ?l ?z ?_); (case x => walk_at "S_at"); (case l => first | rfl | assumption); (case G => assumption); (case s => k_is); (case p => k_is); (case t => k_is); (case h => k_is); (case z => simp)) | ((with_reducible refine' setA [_, _, _, _] lS ?G ?x ?s ?p ?t ?h ?l ?z ?_); (case x => walk_at "S_at"); (case l => first | rfl | assumption); (case G => assumption); (case s => k_is); (case p => k_is); (case t => k_is); (case h => k_is); (case z => simp))); clear lS; intro h' tk' S'))
local macro_rules | `(tactic| walk_at "getAttr ref") => `(tactic| ((with_reducible rename St _ _ _ _ _ => lS); k_dflt (first | ((with_reducible refine' getA lS ?G ?x ?d ?g ?h ?a ?l ?v ?_); (case x => walk_at "S_at"); (case d => walk_at "S_at"); (case l => first | rfl | assumption); (case G => assumption); (case g => k_is); (case h => k_is); (case a => k_is); (case v => k_handed)) | ((with_reducible refine' smGetA lS ?G ?x ?d ?g ?h ?a ?gf ?ts ?c ?l ?p ?v ?_); (case x => walk_at "S_at"); (case d => walk_at "S_at"); (case l => first | rfl | assumption); (case G => assumption); (case g => k_is); (case h => k_is); (case a => k_is); (case gf => k_is); (case ts => k_is); (case c => decide +kernel); (case p => k_is); (case v => k_handed)))))
local macro_rules | `(tactic| walk_at "getMethod ref") => `(tactic| ((with_reducible rename St _ _ _ _ _ => lS); k_dflt (first | ((with_reducible refine' methA lS ?G ?x ?d ?g ?a ?t ?l ?_); (case x => walk_at "S_at"); (case d => walk_at "S_at"); (case l => first | rfl | assumption); (case G => assumption); (case g => k_is); (case a => k_is); (case t => k_is)) | ((with_reducible refine' ownA lS ?G ?x ?d ?g ?h ?a ?l ?v ?_); (case x => walk_at "S_at"); (case d => walk_at "S_at"); (case l => first | rfl | assumption); (case G => assumption); (case g => k_is); (case h => k_is); (case a => k_is); (case v => k_handed)) | ((with_reducible refine' smA lS ?G ?x ?d ?g ?h ?a ?t ?gf ?ts ?c ?l ?p ?v ?_); (case x => walk_at "S_at"); (case d => walk_at "S_at"); (case l => first | rfl | assumption); (case G => assumption); (case g => k_is); (case h => k_is); (case a => k_is); (case t => k_is); (case gf => k_is); (case ts => k_is); (case c => decide +kernel); (case p => k_is); (case v => k_handed)))))
local macro_rules | `(tactic| walk_at "call type:list") => `(tactic| ((with_reducible rename St _ _ _ _ _ => lS); k_dflt (first | ((with_reducible refine' listTupS ?t lS ?z ?_); (case t => walk_at "S_at"); (case z => simp); clear lS; intro l' h' S') | ((with_reducible refine' listRgS ?h ?t ?a ?b lS ?_); (case t => walk_at "S_at"); (case h => assumption); (case a => omega); (case b => omega); clear lS; intro l' ys' h' tk' hi' S'))))
local macro_rules | `(tactic| walk_at "call builtin:all") => `(tactic| ((with_reducible rename St _ _ _ _ _ => lS); k_dflt ((with_reducible refine' allTupS ?h ?t lS ?a ?b ?_); (case t => walk_at "S_at"); (case h => assumption); (case a => omega); (case b => omega); clear lS; intro h' tk' S')))
local macro_rules | `(tactic| walk_at "call type:map") => `(tactic| ((with_reducible rename St _ _ _ _ _ => lS); k_dflt ((with_reducible refine' mapS ?t lS ?_); (case t => walk_at "S_at"); clear lS; intro M' TI' I' h' S')))
local macro_rules | `(tactic| walk_at "call builtin:max") => `(tactic| ((with_reducible rename St _ _ _ _ _ => lS); k_dflt ((with_reducible refine' maxMapS ?h ?t lS ?a ?b ?_); (case t => walk_at "S_at"); (case h => assumption); (case a => omega); (case b => omega); clear lS; intro h' tk' t' S')))
local macro_rules | `(tactic| walk_at "StarOf ref") => `(tactic| ((with_reducible rename St _ _ _ _ _ => lS); k_dflt (first | ((with_reducible refine' starT lS ?t ?z ?_); (case t => walk_at "S_at"); (case z => simp)) | ((with_reducible refine' starL lS ?t ?z ?_); (case t => walk_at "S_at"); (case z => simp))); clear lS; intro h' S'))
local macro_rules | `(tactic| walk_at "callWith ref") => `(tactic| ((with_reducible show wpAny _ _ (callWith _ (Value.ref _) _ (backTo _ (starEach [Expr.Starred _ _] _)) []) _ _ _); k_dflt ((with_reducible refine' callWith_S (h₀ := ?g) ?X ?k ?_ ?a); (case a => rfl); (case X => exact Gd.X (by assumption)); (case k => k_is))))
local macro_rules | `(tactic| walk_at "callWith ref") => `(tactic| ((with_reducible show wpAny _ _ (callWith _ (Value.ref _) _ (backTo _ (starEach [Expr.Starred _ _] _)) []) _ _ _); k_dflt ((with_reducible refine' kcoS ?x (by assumption) (by assumption) ?_ ?a); (case x => walk_at "S_at"); (case a => rfl))))
local macro_rules | `(tactic| walk_at "And") => `(tactic| ((refine And.intro ?x (wpAny_call ?_)); (case x => walk_at "S_at")))
local macro_rules | `(tactic| walk_at "truthy ref") => `(tactic| (k_dflt ((with_reducible refine' truthyT ?t ?z ?_); (case t => walk_at "S_at"); (case z => simp); intro _)))
local macro_rules | `(tactic| walk_at "call builtin:len") => `(tactic| ((with_reducible show wpAny _ _ (call (Value.builtin "len") [Value.ref _]) _ _ _); k_dflt ((with_reducible refine' lenT ?m (n := ?n) ?f ?z ?_); (case m => walk_at "S_at"); (case f => rfl); (case z => simp); intro _ _; dsimp only [List.length_cons, List.length_nil])))
local macro_rules | `(tactic| walk_at "eval Call Attribute") => `(tactic| ((with_reducible show wpAny _ _ (eval (Expr.Call (Expr.Attribute _ _ _) [Expr.Starred _ _] [] _) _) _ _ _); refine starCall ?_))
local macro_rules | `(tactic| walk_at "binaryOp Mult ref int") => `(tactic| ((with_reducible rename St _ _ _ _ _ => lS); k_dflt ((with_reducible refine' mulL lS ?m ?a ?b ?_); (case m => walk_at "S_at"); (case a => omega); (case b => omega)); clear lS; intro r' h' S'))
local macro_rules | `(tactic| walk_at "binaryOp Add ref ref") => `(tactic| ((with_reducible rename St _ _ _ _ _ => lS); k_dflt ((with_reducible refine' addL lS ?m ?a ?b ?_); (case m => walk_at "S_at"); (case a => walk_at "S_at"); (case b => (simp; omega))); clear lS; intro r' h' S'))
local macro_rules | `(tactic| walk_at "call builtin:min") => `(tactic| ((with_reducible rename St _ _ _ _ _ => lS); k_dflt ((with_reducible refine' min3S ?h lS ?_); (case h => assumption)); clear lS; intro h' tk' t' S'))
local macro_rules | `(tactic| walk_at "assign Tuple") => `(tactic| ((with_reducible rename St _ _ _ _ _ => lS); (k_dflt ((with_reducible refine' assignTupL ?h lS ?t ?l ?_ ?a ?b); (case t => walk_at "S_at"); (case l => exact St.neL lS (by k_mem)); (case b => rfl); (case a => rfl); (case h => assumption); clear lS; intro h' tk' S'))))
local macro_rules | `(tactic| walk_at "eval Dict") => `(tactic| ((with_reducible rename St _ _ _ _ _ => lS); k_dflt ((with_reducible refine' dictS lS ?G ?_); (case G => assumption)); clear lS; intro d' h' hd' S'))
local macro_rules | `(tactic| walk_at "eval Dict nil nil") => `(tactic| ((with_reducible rename St _ _ _ _ _ => lS); k_dflt ((with_reducible refine' dictS lS ?G ?_); (case G => assumption)); clear lS; intro d' h' hd' S'))
local macro_rules | `(tactic| walk_at "setItem ref ref") => `(tactic| ((with_reducible rename St _ _ _ _ _ => lS); k_dflt (first | ((with_reducible refine' dsetS ?u lS ?D ?n ?_); (case D => assumption); (case u => exact Rm.u1 (by assumption) _); (case n => omega)) | ((with_reducible refine' dsetS0 ?u lS ?D ?n ?_); (case D => assumption); (case u => exact Rm.u1 (by assumption) _); (case n => omega))); clear lS; intro h' tk' mu' D' S'))
local macro_rules | `(tactic| walk_at "subscriptTail") => `(tactic| ((with_reducible show wpAny _ _ (subscriptTail _ _ (Value.ref _) (Value.ref _)) _ _ _); (with_reducible rename St _ _ _ _ _ => lS); k_dflt (first | ((with_reducible refine' dgetS ?u lS ?D ?f ?_ ?s); (case s => with_unfolding_all rfl); (case D => assumption); (case u => exact Rm.u1 (by assumption) _); (case f => assumption)) | ((with_reducible refine' dgetS0 ?u lS ?D ?f ?_ ?s); (case s => with_unfolding_all rfl); (case D => assumption); (case u => exact Rm.u1 (by assumption) _); (case f => assumption))); intro t' tk' S'; clear lS))
local macro_rules | `(tactic| walk_at "call builtin:min") => `(tactic| ((with_reducible show wpAny _ _ (call (Value.builtin "min") [_, _, _, _]) _ _ _); (with_reducible rename St _ _ _ _ _ => lS); k_dflt ((with_reducible refine' min4S ?h lS ?_); (case h => assumption)); clear lS; intro h' tk' t' S'))
local macro_rules | `(tactic| walk_at "call type:enumerate") => `(tactic| first
  | (((with_reducible rename St _ _ _ _ _ => lS); k_dflt (first | (with_reducible refine' enum0S lS ?_) | (with_reducible refine' enum1S lS ?_)); clear lS; intro e' it' h' S'))
  | (((with_reducible rename St _ _ _ _ _ => lS); k_dflt (first | refine' enum0S lS ?_ | refine' enum1S lS ?_); clear lS; intro e' it' h' S')))
local macro_rules | `(tactic| walk_at "getMethod ref") => `(tactic| ((with_reducible show wpAny _ _ (getMethod (Value.ref _) (Str.ofString "get") _) _ _ _); k_dflt ((with_reducible refine' daMeth ?m ?_); (case m => walk_at "S_at"))))
local macro_rules | `(tactic| walk_at "call builtin:dict.get") => `(tactic| (k_dflt ((with_reducible refine' daGet ?m ?d ?_); (case m => walk_at "S_at"); (case d => assumption)); intro _ _))
local macro_rules | `(tactic| walk_at "callWith type:enumerate") => `(tactic| ((with_reducible show wpAny _ _ (callWith _ (Value.type _) _ _ (backToKw _ _)) _ _ _); ((with_reducible refine' cwTypeKW ?a ?_ ?b ?c); (case a => rfl); (case b => rfl); (case c => rfl))))
local macro_rules | `(tactic| walk_at "callWith") => `(tactic| ((with_reducible show wpAny _ _ (callWith _ (Value.type _) _ _ (backToKw _ _)) _ _ _); ((with_reducible refine' cwTypeKW ?a ?_ ?b ?c); (case a => rfl); (case b => rfl); (case c => rfl))))
local macro_rules | `(tactic| walk_at "callWith ref") => `(tactic| ((with_reducible show wpAny _ _ (callWith _ (Value.ref _) _ _ (backToKw _ (keywordEach (_ :: _) _))) _ _ _); k_dflt ((with_reducible refine' callWith_KW0 (h₀ := ?g) ?X ?k ?a ?_ ?b); (case a => rfl); (case b => rfl); (case X => exact Gd.X (by assumption)); (case k => k_is))))
local macro_rules | `(tactic| walk_at "call builtin:min") => `(tactic| ((with_reducible show wpAny _ _ (call (Value.builtin "min") [_, _]) _ _ _); (with_reducible rename St _ _ _ _ _ => lS); k_dflt ((with_reducible refine' min2S ?h lS ?_); (case h => assumption)); clear lS; intro h' tk' t' S'))
section
variable {prog : Program} {w : World}
theorem pow7_ne (n : Nat) : ((7 : Int) ^ n) ≠ 0 := by
  have : (0 : Int) < 7 ^ n := Int.pow_pos (by decide)
  omega
theorem noPy {a : Int} {n : Nat} (hn : n ≤ 60) : Builtin.divisionGoesByPylong a ((7 : Int) ^ n) = false := by
  unfold Builtin.divisionGoesByPylong
  have h1 : (7 : Int) ^ n = ((7 ^ n : Nat) : Int) := by simp
  have h2 : (7 : Nat) ^ n < 2 ^ 240 := Nat.lt_of_le_of_lt (Nat.pow_le_pow_right (by decide) hn) (by decide)
  have h3 : ((7 : Int) ^ n).natAbs = 7 ^ n := by rw [h1]; exact Int.natAbs_natCast _
  have h0 : (7 : Nat) ^ n ≠ 0 := Nat.pos_iff_ne_zero.mp (Nat.pow_pos (by decide))
  have h4 : Nat.log2 (7 ^ n) < 240 := (Nat.log2_lt h0).mpr h2
  have h5 : ((7 : Int) ^ n == 0) = false := beq_eq_false_iff_ne.mpr (pow7_ne n)
  simp only [h5, h3, Bool.false_eq_true, if_false]
  rw [Bool.and_eq_false_iff]
  left
  exact decide_eq_false (by omega)
theorem fdiv_lo {k l : Int} (hk : 0 ≤ k) (hl : 0 < l) : 0 ≤ k.fdiv l := by
  rw [Int.fdiv_eq_ediv_of_nonneg _ (by omega)]; exact Int.ediv_nonneg hk (by omega)
theorem fdiv_hi {k l : Int} (hk : 0 ≤ k) (hl : 0 < l) : k.fdiv l ≤ k := by
  rw [Int.fdiv_eq_ediv_of_nonneg _ (by omega)]; exact Int.ediv_le_self _ hk
theorem fmod_bd {k l : Int} (hl : 0 < l) : 0 ≤ k.fmod l ∧ k.fmod l < l := by
  rw [Int.fmod_eq_emod_of_nonneg _ (by omega)]; exact ⟨Int.emod_nonneg _ (by omega), Int.emod_lt_of_pos _ hl⟩
set_option maxHeartbeats 4000000 in
theorem drawn_ct {A : Around} {s : Shared} {g : Heap} {R : Result → Shared → Prop} {told at_ : Addr} {vs : List Value} {ns : List Int} {k b : Int} {tk tb : Tok}
  (G : Gd w g) (O : Own g s.heap [(at_, isL [.int k tk])])
  (hl : At g (told, isLo vs)) (hi : IntsAre vs ns) (hn : 0 < ns.length) (hlen : ns.length ≤ 63) (hk : 0 ≤ k) (hk2 : k ≤ 60) (hb : 0 < b) (rm : Rm 2 A)
  (ret : ∀ r tr tk' h' t', 0 ≤ r → r < b → Own g h' [(at_, isL [.int (k+1) tk'])] → R (.ok (.ret (.int r tr))) { s with heap := h', toks := t' }) :
  codeAny (model prog w) A (.call (.ref 313) ⟨[.ref told, .ref at_, .int b tb], []⟩) R s := by
  refine enter G O (by k_is) (by conv => lhs; whnf) (by conv => lhs; whnf) (by conv => lhs; whnf) (by k_is) rm (.of_eq (binds := [("told", .ref told), ("at", .ref at_), ("below", .int b tb)]) rfl) (locs rfl) (fun L h₁ tk S => ?_) rfl rfl rfl (by decide)
  have hlen' : vs.length = ns.length := hi.length
  have hvp : 0 < vs.length := by omega
  walk_at "S_go"
  obtain ⟨hm1, hm2⟩ := fmod_bd (k := k) (l := vs.length) (by omega)
  have hq1 := fdiv_lo (k := k) (l := vs.length) hk (by omega)
  have hq2 := fdiv_hi (k := k) (l := vs.length) hk (by omega)
  obtain ⟨t0, ht0⟩ := hi.get (k.fmod ↑vs.length).toNat (ns[(k.fmod ↑vs.length).toNat]'(by omega)) (by simp)
  walk_at "S_go"
  refine floordiv_int (pow7_ne _) ?_ (.inl (noPy (by omega)))
  walk_at "S_go"
  exact ret _ _ _ _ _ (fmod_bd hb).1 (fmod_bd hb).2 (St.o (by assumption))
end
section
variable {prog : Program} {w : World}
set_option maxHeartbeats 4000000 in
theorem word_ct {A : Around} {s : Shared} {g : Heap} {R : Result → Shared → Prop} {told at_ : Addr} {vs : List Value} {ns : List Int} {k : Int} {tk : Tok}
  (G : Gd w g) (O : Own g s.heap [(at_, isL [.int k tk])])
  (hl : At g (told, isLo vs)) (hi : IntsAre vs ns) (hn : 0 < ns.length) (hlen : ns.length ≤ 63) (hk : 0 ≤ k) (hk2 : k ≤ 40) (rm : Rm 3 A)
  (ret : ∀ (y : List Nat) ty tk' h' t', y.length ≤ 6 → Own g h' [(at_, isL [.int (k+1+y.length) tk'])] → R (.ok (.ret (.str (sw y) ty))) { s with heap := h', toks := t' }) :
  codeAny (model prog w) A (.call (.ref 318) ⟨[.ref told, .ref at_], []⟩) R s := by
  have hh := rm.hh
  refine enterC (fun L => [("at", L + 2), ("told", L + 1)]) (fun L => [(L + 2, isCell (some (.ref at_))), (L + 1, isCell (some (.ref told)))]) G O (by k_is) (by conv => lhs; whnf) (by conv => lhs; whnf) (by conv => lhs; whnf) (by k_is) rm (.of_eq (binds := [("told", .ref told), ("at", .ref at_)]) rfl) rfl (fun L => by rfl) (fun L => rfl) (by decide) (fun L h₁ tk S => ?_) rfl rfl rfl
  walk_at "S_go"
  refine lcS (cl := [("told", L + 1), ("at", L + 2)]) rfl (by decide) rfl (by decide) rfl ?_
  walk_at "S_go"
  obtain ⟨g₁, b₁, O₁, _, c₁, k₁⟩ := S.lendM [_, _]
  refine drawn_ct (G.keeps b₁) O₁ (hl.keeps b₁) hi hn hlen hk (by omega) (by omega) (rm.deeper _) fun r₁ tr₁ tk₁ h₂ t₂ lo₁ hi₁ O₂ => ?_
  have S₂ := k₁ _ _ O₂
  clear S k₁ O₂ O₁ c₁ b₁
  dsimp only
  walk_at "S_go"
  have S₃ := ‹St g L _ _ _›
  refine iterRg (rm.deeper _).hh (S₃.get (.head _)) (by omega) (by omega) S₃ fun I h₅ Si X st S₄ bd _ => ?_
  clear S₃
  have S₅ := S₄.drop2
  clear S₄
  have ek : ∀ i : Nat, k + 1 + (i : Int) + 1 = k + 1 + ((i + 1 : Nat) : Int) := fun i => by omega
  refine ⟨_, _, I, [I], _, _, Si, [(at_, isL [.int (k + 1) tk₁])], [(L + 2, isCell (some (.ref at_))), (L + 1, isCell (some (.ref told)))], any,
    fun i ys mu => ∃ tk' cs, mu = [(at_, isL [.int (k + 1 + (i : Int)) tk'])] ∧ StrsAre ys (cs.map fun c => sw [c]) ∧ cs.length = i, rfl, X, by rw [sizeLine_eq]; omega, st, S₅, ?_, bd, ⟨tk₁, [], by simp, .nil, rfl⟩, ?_, ?_⟩
  · intro p hp q
    exact headNe S₅ p (List.mem_append_left _ hp) (List.mem_singleton.mp q)
  · rintro i v ys m₁ mu₁ g₂ C h₆ tk₆ hi₆ hP ⟨tk', cs, rfl, hs, hc⟩ sub hrest _ S₆
    have G₂ := G.keeps sub
    have hc1 : At g₂ (L + 2, isCell (some (.ref at_))) := hrest _ (by simp)
    have hc2 : At g₂ (L + 1, isCell (some (.ref told))) := hrest _ (by simp)
    clear S₅
    walk_at "S_go"
    obtain ⟨g₃, b₃, O₃, _, c₃, k₃⟩ := S₆.lend1
    refine drawn_ct (G₂.keeps b₃) O₃ ((hl.keeps sub).keeps b₃) hi hn hlen (by omega) (by omega) (by omega) (rm.deeper _) fun r₂ tr₂ tk₂ h₇ t₇ lo₂ hi₂ O₄ => ?_
    have S₇ := k₃ _ _ O₄
    clear S₆ k₃ O₄ O₃ c₃ b₃
    dsimp only
    walk_at "S_go"
    exact LcEnd.mk S₇ ⟨tk₂, cs ++ [97 + r₂.toNat], by rw [ek], by rw [List.map_append]; exact strs_snoc hs _ _, by simp [hc]⟩
  · rintro ys mu₁ D h₆ tk₆ ⟨tk', cs, rfl, hs, hc⟩ S₆
    walk_at "S_go"
    exact ret cs _ _ _ _ (by omega) (by
      have e : (cs.length : Int) = (((r₁ - 0).toNat : Nat) : Int) := by omega
      rw [e]
      exact St.own1 S₆ (.tail _ (.head _)))
end
section
variable {prog : Program} {w : World}
/-- one change of a word -/
def Turned (x y : List Nat) : Prop := ∃ p c, p ≤ x.length ∧ (y = x.take p ++ [c] ++ x.drop p ∨ y = x.take p ++ x.drop (p+1) ∨ y = x.take p ++ [c] ++ x.drop (p+1) ∨ y = x.take p ++ (x.take (p+2)).drop (p+1) ++ (x.take (p+1)).drop p ++ x.drop (p+2))
set_option maxHeartbeats 4000000 in
theorem turned_ct {A : Around} {s : Shared} {g : Heap} {R : Result → Shared → Prop} {told at_ : Addr} {vs : List Value} {ns : List Int} {k : Int} {tk tw : Tok} {x : List Nat}
  (G : Gd w g) (O : Own g s.heap [(at_, isL [.int k tk])])
  (hl : At g (told, isLo vs)) (hi : IntsAre vs ns) (hn : 0 < ns.length) (hlen : ns.length ≤ 63) (hk : 0 ≤ k) (hk2 : k ≤ 50) (hx : x.length ≤ 10) (rm : Rm 3 A)
  (ret : ∀ y ty tk' h' t', Turned x y → Own g h' [(at_, isL [.int (k+1+1+1) tk'])] → R (.ok (.ret (.str (sw y) ty))) { s with heap := h', toks := t' }) :
  codeAny (model prog w) A (.call (.ref 325) ⟨[.ref told, .ref at_, .str (sw x) tw], []⟩) R s := by
  have hh := rm.hh
  refine enter G O (by k_is) (by conv => lhs; whnf) (by conv => lhs; whnf) (by conv => lhs; whnf) (by k_is) rm (.of_eq (binds := [("told", .ref told), ("at", .ref at_), ("word", .str (sw x) tw)]) rfl) (locs rfl) (fun L h₁ tk S => ?_) rfl rfl rfl (by decide)
  walk_at "S_go"
  obtain ⟨g₁, b₁, O₁, _, c₁, k₁⟩ := S.lend1
  refine drawn_ct (G.keeps b₁) O₁ (hl.keeps b₁) hi hn hlen hk (by omega) (by omega) (rm.deeper _) fun r₁ tr₁ tk₁ h₂ t₂ lo₁ hi₁ O₂ => ?_
  have S₂ := k₁ _ _ O₂
  clear S k₁ O₂ O₁ c₁ b₁
  dsimp only
  walk_at "S_go"
  obtain ⟨g₂, b₂, O₂, _, c₂, k₂⟩ := S₂.lend1
  refine drawn_ct (G.keeps b₂) O₂ (hl.keeps b₂) hi hn hlen (by omega) (by omega) (by omega) (rm.deeper _) fun r₂ tr₂ tk₂ h₃ t₃ lo₂ hi₂ O₃ => ?_
  have S₃ := k₂ _ _ O₃
  clear S₂ k₂ O₃ O₂ c₂ b₂
  dsimp only
  walk_at "S_go"
  obtain ⟨g₃, b₃, O₃, _, c₃, k₃⟩ := S₃.lend1
  refine drawn_ct (G.keeps b₃) O₃ (hl.keeps b₃) hi hn hlen (by omega) (by omega) (by omega) (rm.deeper _) fun r₃ tr₃ tk₃ h₄ t₄ lo₃ hi₃ O₄ => ?_
  have S₄ := k₃ _ _ O₄
  clear S₃ k₃ O₄ O₃ c₃ b₃
  dsimp only
  have e1 : (r₁ + 1).toNat = r₁.toNat + 1 := by omega
  have e2 : (r₁ + 2).toNat = r₁.toNat + 2 := by omega
  walk_at "S_go"
  all_goals (refine ret _ _ _ _ _ ⟨r₁.toNat, 97 + r₃.toNat, by omega, ?_⟩ (St.own1 (by assumption) (by k_mem)); simp only [e1, e2, true_or, or_true])
end
section
variable {prog : Program} {w : World}
set_option maxHeartbeats 4000000 in
theorem ident_ct {A : Around} {s : Shared} {g : Heap} {R : Result → Shared → Prop} {a b : Str} {t u : Tok}
  (G : Gd w g) (O : Own g s.heap []) (rm : Rm 2 A)
  (ret : ∀ h' t', Own g h' [] → R (.ok (.ret (.bool (decide (a = b))))) { s with heap := h', toks := t' }) :
  codeAny (model prog w) A (.call (.ref 157) ⟨[.str a t, .str b u], []⟩) R s := by
  refine enterV (vs := [.str a t, .str b u]) (bindsV := fun T => [("elements", T)]) G O (by k_is) (by conv => lhs; whnf) (by conv => lhs; whnf) (by conv => lhs; whnf) (by k_is) rm rfl (by simp) (fun v => locs rfl) (fun T L h₁ tk S => ?_) rfl rfl rfl (by decide)
  walk_at "S_go"
  refine wpAny_Try_except ?_
  walk_at "S_go"
  refine setTup_S (rm.deeper _).hh (S.get (.head _)) S fun h₂ tk₂ S₂ hS => ?_
  clear S
  walk_at "S_go"
  refine lenSet_S hS (by split <;> omega) ?_
  walk_at "S_go"
  have e : decide (a = b) = (((if a = b then 1 else 2 : Nat) : Int) == 1) := by by_cases q : a = b <;> simp [q]
  exact e ▸ ret _ _ S₂.drop1.o
end
section
variable {prog : Program} {w : World}
set_option maxHeartbeats 4000000 in
theorem levnew_ct {A : Around} {s : Shared} {g : Heap} {R : Result → Shared → Prop}
  (G : Gd w g) (O : Own g s.heap []) (rm : Rm 3 A)
  (ret : ∀ x dx tq h' t', Own g h' [(x, isO (instObj 244 dx)), (dx, isA [("qval", .int 1 tq), ("test_func", .ref 157), ("external", .bool true)])] → R (.ok (.ret (.ref x))) { s with heap := h', toks := t' }) :
  codeAny (model prog w) A (.call (.ref 244) ⟨[], []⟩) R s := by
  have hh := rm.hh
  refine makeS G O (by k_is) (by k_is) (by k_is) fun x dx h₀ O₀ => ?_
  refine enter G O₀ (by k_is) (by conv => lhs; whnf) (by conv => lhs; whnf) (by conv => lhs; whnf) (by k_is) (rm.make _ _ _) (binds_K (binds := [("self", .ref x), ("qval", .int 1 _), ("test_func", .none), ("external", .bool true)]) (G.X.keeps O₀.keep) rfl (by k_is) rfl rfl rfl) (locs rfl) (fun L h₁ tk S => ?_) rfl rfl rfl (by decide)
  walk_at "S_go"
  exact ⟨rfl, ret _ _ _ _ _ (St.o ‹St g L _ _ _›)⟩
set_option maxHeartbeats 4000000 in
/-- Base._get_sequences where qval is 1 -/
theorem seq1_ct {A : Around} {s : Shared} {g : Heap} {R : Result → Shared → Prop} {x dx C : Addr} {at_ : List (Str × Value)} {a b : List Nat} {ta tb tq : Tok}
  (G : Gd w g) (O : Own g s.heap []) (rm : Rm 3 A) (hx : At g (x, isO (instObj C dx))) (hd : At g (dx, isA (("qval", .int 1 tq) :: at_))) (hC : C = 244 ∨ C = 285 ∨ C = 304)
  (ret : ∀ l h' t', Own g h' [(l, isL [.str (sw a) ta, .str (sw b) tb])] → R (.ok (.ret (.ref l))) { s with heap := h', toks := t' }) :
  codeAny (model prog w) A (.call (.ref 165) ⟨[.ref x, .str (sw a) ta, .str (sw b) tb], []⟩) R s := by
  have hh := rm.hh
  refine enterCV (vs := [.str (sw a) ta, .str (sw b) tb]) (bindsV := fun T => [("self", .ref x), ("sequences", T)]) (fun L => [("self", L + 1)]) (fun T L => [(L + 1, isCell (some (.ref x)))]) G O (by k_is) (by conv => lhs; whnf) (by conv => lhs; whnf) (by conv => lhs; whnf) (by k_is) rm rfl (by simp) (fun v => rfl) (fun L => by rfl) (fun T L => rfl) (by decide) (fun T L h₁ tk S => ?_) rfl rfl rfl
  rcases hC with rfl | rfl | rfl
  all_goals walk_at "S_go"
  all_goals exact ret _ _ _ (St.own1 ‹St g L _ _ _› (by k_mem))
set_option maxHeartbeats 4000000 in
/-- Base.maximum of two words -/
theorem maximum_ct {A : Around} {s : Shared} {g : Heap} {R : Result → Shared → Prop} {a b : List Nat} {ta tb : Tok}
  (G : Gd w g) (O : Own g s.heap []) (rm : Rm 2 A) (ha : a.length ≤ 20) (hb : b.length ≤ 20)
  (ret : ∀ t h' t', Own g h' [] → R (.ok (.ret (.int (max (a.length : Int) (b.length : Int)) t))) { s with heap := h', toks := t' }) :
  codeAny (model prog w) A (.call (.ref 112) ⟨[.str (sw a) ta, .str (sw b) tb], []⟩) R s := by
  have hh := rm.hh
  refine enterV (vs := [.str (sw a) ta, .str (sw b) tb]) (bindsV := fun T => [("sequences", T)]) G O (by k_is) (by conv => lhs; whnf) (by conv => lhs; whnf) (by conv => lhs; whnf) (by k_is) rm rfl (by simp) (fun v => locs rfl) (fun T L h₁ tk S => ?_) rfl rfl rfl (by decide)
  walk_at "S_go"
  exact ret _ _ _ (St.own0 ‹St g L _ _ _›)
set_option maxHeartbeats 4000000 in
/-- Base.quick_answer of two words -/
theorem quick_ct {A : Around} {s : Shared} {g : Heap} {R : Result → Shared → Prop} {x dx C : Addr} {at_ : List (Str × Value)} {a b : List Nat} {ta tb : Tok}
  (G : Gd w g) (O : Own g s.heap []) (rm : Rm 4 A) (hx : At g (x, isO (instObj C dx))) (hd : At g (dx, isA at_)) (hC : C = 244 ∨ C = 285) (hat1 : at_.lookup ("_ident" : Str) = none) (hat2 : at_.lookup ("maximum" : Str) = none) (ha : a.length ≤ 20) (hb : b.length ≤ 20)
  (ret : ∀ v h' t', Own g h' [] → (∃ t, v = if a = b then .int 0 t else if a = [] ∨ b = [] then .int (max (a.length : Int) (b.length : Int)) t else .none) → R (.ok (.ret v)) { s with heap := h', toks := t' }) :
  codeAny (model prog w) A (.call (.ref 150) ⟨[.ref x, .str (sw a) ta, .str (sw b) tb], []⟩) R s := by
  have hh := rm.hh
  refine enterV (vs := [.str (sw a) ta, .str (sw b) tb]) (bindsV := fun T => [("self", .ref x), ("sequences", T)]) G O (by k_is) (by conv => lhs; whnf) (by conv => lhs; whnf) (by conv => lhs; whnf) (by k_is) rm rfl (by simp) (fun v => locs rfl) (fun T L h₁ tk S => ?_) rfl rfl rfl (by decide)
  rcases hC with rfl | rfl
  all_goals walk_at "S_go"
  all_goals (
    have S₁ := ‹St g L _ _ _›
    refine ident_ct (G.keeps S₁.keep) (Own.refl _) ((rm.deeper _).mono (by omega)) fun h₂ t₂ O₂ => ?_
    have S₂ := S₁.call0 O₂
    clear S₁
    dsimp only
    have e1 : decide (sw a = sw b) = decide (a = b) := by simp only [sw_inj]
    rw [e1]
    by_cases hab : a = b
    · rw [decide_eq_true hab]
      walk_at "S_go"
      exact ret _ _ _ S₂.own0 ⟨_, by rw [if_pos hab]⟩
    · rw [decide_eq_false hab]
      walk_at "S_go"
      · exact ret _ _ _ (St.own0 ‹St g L _ _ _›) ⟨ta, by rw [if_neg hab, if_neg (by simp_all)]⟩
      · have S₃ := ‹St g L _ _ _›
        refine maximum_ct (G.keeps S₃.keep) (Own.refl _) ((rm.deeper _).mono (by omega)) ha hb fun t₃ h₃ tk₃ O₃ => ?_
        exact ret _ _ _ (S₃.call0 O₃).own0 ⟨t₃, by rw [if_neg hab, if_pos (by simp_all; first | assumption | (by_cases hz : a = [] <;> simp_all))]⟩)
end
section
variable {prog : Program} {w : World}
def lev (a b : List Nat) : Nat → Nat → Int
  | 0, j => j
  | i + 1, 0 => i + 1
  | i + 1, j + 1 => min (min (lev a b i j + if a[i]? = b[j]? then 0 else 1) (lev a b i (j + 1) + 1)) (lev a b (i + 1) j + 1)
set_option maxHeartbeats 4000000 in
theorem cyc_ct {A : Around} {s : Shared} {g : Heap} {R : Result → Shared → Prop} {x dx : Addr} {at_ : List (Str × Value)} {a b : List Nat} {ta tb : Tok}
  (G : Gd w g) (O : Own g s.heap []) (rm : Rm 4 A) (hx : At g (x, isO (instObj 244 dx))) (hd : At g (dx, isA at_)) (htf : at_.lookup ("test_func" : Str) = some (.ref 157)) (ha : a.length ≤ 20) (hb : b.length ≤ 20)
  (ret : ∀ t h' t', Own g h' [] → R (.ok (.ret (.int (lev a b a.length b.length) t))) { s with heap := h', toks := t' }) :
  codeAny (model prog w) A (.call (.ref 234) ⟨[.ref x, .str (sw a) ta, .str (sw b) tb], []⟩) R s := by
  have hh := rm.hh
  refine enter G O (by k_is) (by conv => lhs; whnf) (by conv => lhs; whnf) (by conv => lhs; whnf) (by k_is) rm (.of_eq (binds := [("self", .ref x), ("s1", .str (sw a) ta), ("s2", .str (sw b) tb)]) rfl) (locs rfl) (fun L h₁ tk S => ?_) rfl rfl rfl (by decide)
  walk_at "S_go"
  refine forG_S ?_ (by intro _; rfl)
  walk_at "S_go"
  have S₁ := ‹St g L _ _ _›
  rename_i cl ys _ _ hys _ _ rg _ _ _
  refine rgLoop (mu := [(cl, isL ys)]) (rest := [])
    (fun i m mu => ∃ cl ys tc, m "cur" = some (.ref cl) ∧ m "cols" = some (.int ((b.length : Int) + 1) tc) ∧ m "s1" = some (.str (sw a) ta) ∧ m "s2" = some (.str (sw b) tb) ∧ m "self" = some (.ref x) ∧ mu = [(cl, isL ys)] ∧ IntsAre ys ((List.range (b.length + 1)).map fun j => lev a b i j))
    hh (S₁.get (.head _)) (by omega) (by omega) rfl rfl (S₁.sub (by simp) (by walk_at "S_nd")) ⟨cl, ys, _, rfl, rfl, rfl, rfl, rfl, rfl, ?_⟩ ?_ ?_
  · refine intsOf (by rw [hys.length]; simp) fun k v hv => ?_
    have hk : k < b.length + 1 := by
      have h1 := (List.getElem?_eq_some_iff.mp hv).1
      have h2 := hys.length
      simp at h2; omega
    obtain ⟨t', e⟩ := hys.get k (k : Int) (by rw [List.getElem?_map, List.getElem?_range (by omega)]; simp)
    rw [e] at hv
    exact ⟨t', by rw [← Option.some.inj hv]; simp [lev]⟩
  · rintro i t m₁ mu₁ g₁ h₅ tk₅ hi ⟨c1, y1, tc, e1, e2, e3, e4, e5, rfl, hy1⟩ sub₁ _ _ S₂
    clear S₁
    have G₁ := G.keeps sub₁
    have hx1 := hx.keeps sub₁
    have hd1 := hd.keeps sub₁
    walk_at "S_go"
    refine forG_S ?_ (by intro _; rfl)
    walk_at "S_go"
    have S₃ := ‹St g₁ L _ _ _›
    rename_i nl _ _ _ _ _ _ _ _ _ _ _ _ _
    have hy1l : y1.length = b.length + 1 := by rw [hy1.length]; simp
    refine rgLoop (mu := [(nl, isL ([.int (1 + (i : Int)) t] ++ List.replicate ((b.length : Int) + 1 - 1).toNat (.int 0 tk₅)))]) (rest := [(c1, isL y1)])
      (fun j m mu => ∃ zs tc, m "cur" = some (.ref nl) ∧ m "prev" = some (.ref c1) ∧ m "r" = some (.int (1 + (i : Int)) t) ∧ m "cols" = some (.int ((b.length : Int) + 1) tc) ∧ m "s1" = some (.str (sw a) ta) ∧ m "s2" = some (.str (sw b) tb) ∧ m "self" = some (.ref x) ∧
        mu = [(nl, isL zs)] ∧ zs.length = b.length + 1 ∧ ∀ k, k ≤ j → ∃ t, zs[k]? = some (.int (lev a b (i + 1) k) t))
      hh (S₃.get (.head _)) (by omega) (by omega) rfl rfl (S₃.sub (by simp) (by walk_at "S_nd")) ⟨_, tc, rfl, rfl, rfl, e2, e3, e4, e5, rfl, ?_, ?_⟩ ?_ ?_
    · simp
    · intro k hk
      have : k = 0 := by omega
      subst this
      exact ⟨t, by simp [lev, Int.add_comm]⟩
    · rintro j t₂ m₂ mu₂ g₂ h₆ tk₆ hj ⟨zs, tc2, k1, k2, k3, k4, k5, k6, k7, rfl, hzl, hz⟩ sub₂ at₂ _ S₄
      clear S₃
      have G₂ := G₁.keeps sub₂
      have hx2 := hx1.keeps sub₂
      have hd2 := hd1.keeps sub₂
      have hpr : At g₂ (c1, isL y1) := at₂ _ (by simp)
      have hib : i < a.length := by omega
      have hjb : j < b.length := by omega
      obtain ⟨t5, hp1⟩ : ∃ t5, y1[(1 + (j : Int)).toNat]? = some (.int (lev a b i (j + 1)) t5) := by
        have : (1 + (j : Int)).toNat = j + 1 := by omega
        rw [this]; exact hy1.get (j + 1) _ (by rw [List.getElem?_map, List.getElem?_range (by omega)]; rfl)
      obtain ⟨t6, hp0⟩ : ∃ t6, y1[(1 + (j : Int) - 1).toNat]? = some (.int (lev a b i j) t6) := by
        have : (1 + (j : Int) - 1).toNat = j := by omega
        rw [this]; exact hy1.get j _ (by rw [List.getElem?_map, List.getElem?_range (by omega)]; rfl)
      obtain ⟨t7, hc0⟩ : ∃ t7, zs[(1 + (j : Int) - 1).toNat]? = some (.int (lev a b (i + 1) j) t7) := by
        have : (1 + (j : Int) - 1).toNat = j := by omega
        rw [this]; exact hz j (Nat.le_refl _)
      have hca : a[(1 + (i : Int) - 1).toNat]? = some a[i] := by
        have : (1 + (i : Int) - 1).toNat = i := by omega
        rw [this]; simp
      have hcb : b[(1 + (j : Int) - 1).toNat]? = some b[j] := by
        have : (1 + (j : Int) - 1).toNat = j := by omega
        rw [this]; simp
      walk_at "S_go"
      have S₅ := ‹St g₂ L _ _ _›
      refine ident_ct (G₂.keeps S₅.keep) (Own.refl _) ((rm.deeper _).mono (by omega)) fun h₈ t₈ O₈ => ?_
      have S₆ := S₅.call0 O₈
      clear S₅
      dsimp only
      walk_at "S_go"
      have S₇ := ‹St g₂ L _ _ _›
      refine TurnEnd.next S₇ ⟨_, tc2, k1, k2, k3, k4, k5, k6, k7, rfl, ?_, ?_⟩
      · simpa using hzl
      · intro k hk
        have ek : (1 + (j : Int)).toNat = j + 1 := by omega
        rw [ek]
        by_cases hkj : k = j + 1
        · subst hkj
          rw [List.getElem?_set_self (by omega)]
          refine ⟨_, congrArg (fun z => some (Value.int z _)) ?_⟩
          rw [lev, List.getElem?_eq_getElem hib, List.getElem?_eq_getElem hjb]
          simp only [sw_inj, List.cons.injEq, and_true, Option.some.injEq]
          by_cases hq : a[i] = b[j] <;> simp [hq]
        · rw [List.getElem?_set_ne (Ne.symm hkj)]
          exact hz k (by omega)
    · rintro m₂ mu₂ h₆ tk₆ ⟨zs, tc2, k1, k2, k3, k4, k5, k6, k7, rfl, hzl, hz⟩ S₄
      clear S₃
      have eb : ((b.length : Int) + 1 - 1).toNat = b.length := by omega
      rw [eb] at hz
      walk_at "S_go"
      refine TurnEnd.next (mu := [(nl, isL zs)]) (S₄.sub (by simp) (by walk_at "S_nd")) ⟨nl, zs, tc2, k1, k4, k5, k6, k7, rfl, ?_⟩
      refine intsOf hzl fun k v hv => ?_
      have hk : k ≤ b.length := by
        have := (List.getElem?_eq_some_iff.mp hv).1
        omega
      obtain ⟨t', e⟩ := hz k hk
      rw [e] at hv
      exact ⟨t', (Option.some.inj hv).symm⟩
  · rintro m₁ mu₁ h₅ tk₅ ⟨c1, y1, tc, e1, e2, e3, e4, e5, rfl, hy1⟩ S₂
    clear S₁
    have ea : ((a.length : Int) + 1 - 1).toNat = a.length := by omega
    rw [ea] at hy1
    walk_at "S_go"
    obtain ⟨t8, h8⟩ := hy1.get b.length (lev a b a.length b.length) (by rw [List.getElem?_map, List.getElem?_range (by omega)]; rfl)
    have hyl : y1.length = b.length + 1 := by rw [hy1.length]; simp
    have ey : y1 = y1.take b.length ++ [.int (lev a b a.length b.length) t8] := by
      obtain ⟨hlt, h9⟩ := List.getElem?_eq_some_iff.mp h8
      have h10 := List.take_append_drop b.length y1
      rw [List.drop_eq_getElem_cons hlt, h9, List.drop_of_length_le (by omega)] at h10
      exact h10.symm
    refine subLast (vs := y1.take b.length) (v := .int (lev a b a.length b.length) t8) (by rw [← ey]; exact isList_of (S₂.get (.head _))) (by simp; omega) ?_
    walk_at "S_go"
    exact ret _ _ _ S₂.own0
end
section
variable {prog : Program} {w : World}
def levV (a b : List Nat) : Int := if a = b then 0 else if a = [] ∨ b = [] then max (a.length : Int) (b.length : Int) else lev a b a.length b.length
abbrev levAt (tq : Tok) : List (Str × Value) := [("qval", .int 1 tq), ("test_func", .ref 157), ("external", .bool true)]
set_option maxHeartbeats 4000000 in
theorem levcall_ct {A : Around} {s : Shared} {g : Heap} {R : Result → Shared → Prop} {x dx : Addr} {a b : List Nat} {ta tb tq : Tok}
  (G : Gd w g) (O : Own g s.heap []) (rm : Rm 6 A) (hx : At g (x, isO (instObj 244 dx))) (hd : At g (dx, isA (levAt tq))) (ha : a.length ≤ 20) (hb : b.length ≤ 20)
  (ret : ∀ t h' t', Own g h' [] → R (.ok (.ret (.int (levV a b) t))) { s with heap := h', toks := t' }) :
  codeAny (model prog w) A (.call (.ref 241) ⟨[.ref x, .str (sw a) ta, .str (sw b) tb], []⟩) R s := by
  have hh := rm.hh
  refine enter G O (by k_is) (by conv => lhs; whnf) (by conv => lhs; whnf) (by conv => lhs; whnf) (by k_is) rm (.of_eq (binds := [("self", .ref x), ("s1", .str (sw a) ta), ("s2", .str (sw b) tb)]) rfl) (locs rfl) (fun L h₁ tk S => ?_) rfl rfl rfl (by decide)
  walk_at "S_go"
  have S₁ := ‹St g L _ _ _›
  refine seq1_ct (G.keeps S₁.keep) (Own.refl _) ((rm.deeper _).mono (by omega)) (hx.keeps S₁.keep) (hd.keeps S₁.keep) (.inl rfl) fun l h₂ t₂ O₂ => ?_
  have S₂ := S₁.call1 O₂
  clear S₁ O₂
  dsimp only
  walk_at "S_go"
  have S₃ := ‹St g L _ _ _›
  refine quick_ct (G.keeps S₃.keep) (Own.refl _) ((rm.deeper _).mono (by omega)) (hx.keeps S₃.keep) (hd.keeps S₃.keep) (.inl rfl) rfl rfl ha hb fun v h₄ t₄ O₄ hv => ?_
  have S₄ := S₃.call0 O₄
  clear S₃ O₄
  dsimp only
  obtain ⟨tv, rfl⟩ := hv
  unfold levV at ret
  by_cases h1 : a = b
  · rw [if_pos h1] at ret ⊢
    walk_at "S_go"
    exact ret _ _ _ (St.own0 ‹St g L _ _ _›)
  · rw [if_neg h1] at ret ⊢
    by_cases h2 : a = [] ∨ b = []
    · rw [if_pos h2] at ret ⊢
      walk_at "S_go"
      exact ret _ _ _ (St.own0 ‹St g L _ _ _›)
    · rw [if_neg h2] at ret ⊢
      walk_at "S_go"
      have S₅ := ‹St g L _ _ _›
      refine cyc_ct (G.keeps S₅.keep) (Own.refl _) ((rm.deeper _).mono (by omega)) (hx.keeps S₅.keep) (hd.keeps S₅.keep) rfl ha hb fun t h₆ t₆ O₆ => ?_
      exact ret _ _ _ (S₅.call0 O₆).own0
set_option maxHeartbeats 4000000 in
/-- Levenshtein().distance -/
theorem levdist_ct {A : Around} {s : Shared} {g : Heap} {R : Result → Shared → Prop} {x dx : Addr} {a b : List Nat} {ta tb tq : Tok}
  (G : Gd w g) (O : Own g s.heap []) (rm : Rm 8 A) (hx : At g (x, isO (instObj 244 dx))) (hd : At g (dx, isA (levAt tq))) (ha : a.length ≤ 20) (hb : b.length ≤ 20)
  (ret : ∀ t h' t', Own g h' [] → R (.ok (.ret (.int (levV a b) t))) { s with heap := h', toks := t' }) :
  codeAny (model prog w) A (.call (.ref 122) ⟨[.ref x, .str (sw a) ta, .str (sw b) tb], []⟩) R s := by
  have hh := rm.hh
  refine enterV (vs := [.str (sw a) ta, .str (sw b) tb]) (bindsV := fun T => [("self", .ref x), ("sequences", T)]) G O (by k_is) (by conv => lhs; whnf) (by conv => lhs; whnf) (by conv => lhs; whnf) (by k_is) rm rfl (by simp) (fun v => locs rfl) (fun T L h₁ tk S => ?_) rfl rfl rfl (by decide)
  walk_at "S_go"
  have S₁ := ‹St g L _ _ _›
  refine callA (G.X.keeps S₁.keep) (hx.keeps S₁.keep) (hd.keeps S₁.keep) (by k_is) (by k_is) (by k_is) ?_
  refine levcall_ct (G.keeps S₁.keep) (Own.refl _) ((rm.deeper _).mono (by omega)) (hx.keeps S₁.keep) (hd.keeps S₁.keep) ha hb fun t h₆ t₆ O₆ => ?_
  exact ret _ _ _ (S₁.call0 O₆).own0
end
section
variable {prog : Program} {w : World}
abbrev damAt (tq : Tok) (r : Bool) : List (Str × Value) := [("qval", .int 1 tq), ("test_func", .ref 157), ("external", .bool true), ("restricted", .bool r)]
set_option maxHeartbeats 4000000 in
theorem damnew_ct {A : Around} {s : Shared} {g : Heap} {R : Result → Shared → Prop}
  (G : Gd w g) (O : Own g s.heap []) (rm : Rm 3 A)
  (ret : ∀ x dx tq h' t', Own g h' [(x, isO (instObj 285 dx)), (dx, isA (damAt tq true))] → R (.ok (.ret (.ref x))) { s with heap := h', toks := t' }) :
  codeAny (model prog w) A (.call (.ref 285) ⟨[], []⟩) R s := by
  have hh := rm.hh
  refine makeS G O (by k_is) (by k_is) (by k_is) fun x dx h₀ O₀ => ?_
  refine enter G O₀ (by k_is) (by conv => lhs; whnf) (by conv => lhs; whnf) (by conv => lhs; whnf) (by k_is) (rm.make _ _ _) (binds_K (binds := [("self", .ref x), ("qval", .int 1 _), ("test_func", .none), ("external", .bool true), ("restricted", .bool true)]) (G.X.keeps O₀.keep) rfl (by k_is) rfl rfl rfl) (locs rfl) (fun L h₁ tk S => ?_) rfl rfl rfl (by decide)
  walk_at "S_go"
  exact ⟨rfl, ret _ _ _ _ _ (St.o ‹St g L _ _ _›)⟩
set_option maxHeartbeats 4000000 in
theorem damnewkw_ct {A : Around} {s : Shared} {g : Heap} {R : Result → Shared → Prop} {r : Bool}
  (G : Gd w g) (O : Own g s.heap []) (rm : Rm 3 A)
  (ret : ∀ x dx tq h' t', Own g h' [(x, isO (instObj 285 dx)), (dx, isA (damAt tq r))] → R (.ok (.ret (.ref x))) { s with heap := h', toks := t' }) :
  codeAny (model prog w) A (.call (.ref 285) ⟨[], [("restricted", .bool r)]⟩) R s := by
  have hh := rm.hh
  refine makeS G O (by k_is) (by k_is) (by k_is) fun x dx h₀ O₀ => ?_
  refine enter G O₀ (by k_is) (by conv => lhs; whnf) (by conv => lhs; whnf) (by conv => lhs; whnf) (by k_is) (rm.make _ _ _) (binds_K (binds := [("self", .ref x), ("qval", .int 1 _), ("test_func", .none), ("external", .bool true), ("restricted", .bool r)]) (G.X.keeps O₀.keep) rfl (by k_is) rfl rfl rfl) (locs rfl) (fun L h₁ tk S => ?_) rfl rfl rfl (by decide)
  walk_at "S_go"
  exact ⟨rfl, ret _ _ _ _ _ (St.o ‹St g L _ _ _›)⟩
/-- the last place up to i where c stands, from 1 -/
def lastI (a : List Nat) (c : Nat) : Nat → Nat
  | 0 => 0
  | i + 1 => if a[i]? = some c then i + 1 else lastI a c i
theorem lastI_le (a : List Nat) (c : Nat) : ∀ i, lastI a c i ≤ i
  | 0 => Nat.le_refl _
  | i + 1 => by unfold lastI; split; exact Nat.le_refl _; exact Nat.le_succ_of_le (lastI_le a c i)
/-- what the free variant reckons -/
def dl (a b : List Nat) (M : Int) : Nat → Nat → Int
  | 0, j => j
  | i + 1, 0 => i + 1
  | i + 1, j + 1 => min (min (min (dl a b M i j + if a[i]? = b[j]? then 0 else 1) (dl a b M (i + 1) j + 1)) (dl a b M i (j + 1) + 1))
      ((if lastI a (b.getD j 0) i = 0 ∨ lastI b (a.getD i 0) j = 0 then M else dl a b M (lastI a (b.getD j 0) i - 1) (lastI b (a.getD i 0) j - 1)) + (((i : Int) + 1) - (lastI a (b.getD j 0) i : Int)) - 1 + (((j : Int) + 1) - (lastI b (a.getD i 0) j : Int)))
  termination_by i j => i + j
  decreasing_by
    all_goals first
      | omega
      | (have := lastI_le a (b.getD j 0) i; have := lastI_le b (a.getD i 0) j; omega)
def dlV (a b : List Nat) (M : Int) (i j : Int) : Int := if i < 0 ∨ j < 0 then M else dl a b M i.toNat j.toNat
theorem dl_0 (a b : List Nat) (M : Int) (i : Nat) : dl a b M i 0 = i := by cases i <;> simp [dl]
theorem dl_0' (a b : List Nat) (M : Int) (j : Nat) : dl a b M 0 j = j := by simp [dl]
theorem dlV_m1 (a b : List Nat) (M : Int) (i : Int) : dlV a b M i (-1) = M := by unfold dlV; rw [if_pos (by omega)]
theorem dlV_m1' (a b : List Nat) (M : Int) (j : Int) : dlV a b M (-1) j = M := by unfold dlV; rw [if_pos (by omega)]
theorem dlV_0 (a b : List Nat) (M : Int) {i : Int} (h : 0 ≤ i) : dlV a b M i 0 = i := by unfold dlV; rw [if_neg (by omega)]; show dl a b M i.toNat 0 = i; rw [dl_0]; omega
theorem dlV_0' (a b : List Nat) (M : Int) {j : Int} (h : 0 ≤ j) : dlV a b M 0 j = j := by unfold dlV; rw [if_neg (by omega)]; show dl a b M 0 j.toNat = j; rw [dl_0']; omega
theorem dlV_nn (a b : List Nat) (M : Int) (i j : Nat) : dlV a b M i j = dl a b M i j := by unfold dlV; rw [if_neg (by omega)]; simp
theorem dl_step {a b : List Nat} {M : Int} {i j c c2 : Nat} (hc : a[i]? = some c) (hc2 : b[j]? = some c2) :
  dlV a b M (((1 : Nat) : Int) + (i : Int)) (((1 : Nat) : Int) + (j : Int)) = min (min (min (dlV a b M (((1 : Nat) : Int) + (i : Int) - 1) (((1 : Nat) : Int) + (j : Int) - 1) + if c = c2 then 0 else 1) (dlV a b M (((1 : Nat) : Int) + (i : Int)) (((1 : Nat) : Int) + (j : Int) - 1) + 1)) (dlV a b M (((1 : Nat) : Int) + (i : Int) - 1) (((1 : Nat) : Int) + (j : Int)) + 1))
    (dlV a b M ((lastI a c2 i : Int) - 1) ((lastI b c j : Int) - 1) + (((1 : Nat) : Int) + (i : Int) - (lastI a c2 i : Int)) - 1 + (((1 : Nat) : Int) + (j : Int) - (lastI b c j : Int))) := by
  have e1 : ((1 : Nat) : Int) + (i : Int) = ((i + 1 : Nat) : Int) := by omega
  have e2 : ((1 : Nat) : Int) + (j : Int) = ((j + 1 : Nat) : Int) := by omega
  have e3 : ((i + 1 : Nat) : Int) - 1 = (i : Int) := by omega
  have e4 : ((j + 1 : Nat) : Int) - 1 = (j : Int) := by omega
  rw [e1, e2, e3, e4, dlV_nn, dlV_nn, dlV_nn, dlV_nn]
  have g1 : a.getD i 0 = c := by simp [List.getD, hc]
  have g2 : b.getD j 0 = c2 := by simp [List.getD, hc2]
  have e5 : dlV a b M ((lastI a c2 i : Int) - 1) ((lastI b c j : Int) - 1) = if lastI a c2 i = 0 ∨ lastI b c j = 0 then M else dl a b M (lastI a c2 i - 1) (lastI b c j - 1) := by
    unfold dlV
    by_cases z : lastI a c2 i = 0 ∨ lastI b c j = 0
    · rw [if_pos z, if_pos (by omega)]
    · rw [if_neg z, if_neg (by omega)]
      congr 1 <;> omega
  rw [e5, dl, g1, g2, hc, hc2]
  simp only [Option.some.injEq]
  rfl
set_option maxHeartbeats 4000000 in
theorem free_ct {A : Around} {s : Shared} {g : Heap} {R : Result → Shared → Prop} {x dx : Addr} {at_ : List (Str × Value)} {a b : List Nat} {ta tb : Tok}
  (G : Gd w g) (O : Own g s.heap []) (rm : Rm 4 A) (hx : At g (x, isO (instObj 285 dx))) (hd : At g (dx, isA at_)) (htf : at_.lookup ("test_func" : Str) = some (.ref 157)) (ha : a.length ≤ 10) (hb : b.length ≤ 10)
  (ret : ∀ t h' t', Own g h' [] → R (.ok (.ret (.int (dl a b ((a.length : Int) + (b.length : Int)) a.length b.length) t))) { s with heap := h', toks := t' }) :
  codeAny (model prog w) A (.call (.ref 268) ⟨[.ref x, .str (sw a) ta, .str (sw b) tb], []⟩) R s := by
  have hh := rm.hh
  refine enter G O (by k_is) (by conv => lhs; whnf) (by conv => lhs; whnf) (by conv => lhs; whnf) (by k_is) rm (.of_eq (binds := [("self", .ref x), ("s1", .str (sw a) ta), ("s2", .str (sw b) tb)]) rfl) (locs rfl) (fun L h₁ tk S => ?_) rfl rfl rfl (by decide)
  walk_at "S_go"
  have S₁ := ‹St g L _ _ _›
  rename_i d _ _ _ _ da _ hda _ _ _ _ _ _ _ _ T _ _
  have S₄ := St.dicts (prog := prog) (w := w) S₁
  have D₀ := dl_empty (prog := prog) (w := w) (d := d)
  generalize ([(d, isDH prog w [])] : Led) = mu₀ at S₄ D₀
  clear S₁
  walk_at "S_go"
  refine forG_S ?_ (by intro _; rfl)
  walk_at "S_go"
  have S₅ := ‹St g L _ _ _›
  rename_i _ _ mu₁ D₁ rg _ _ _
  refine rgLoop (mu := mu₁) (rest := [(da, isDA prog w (fun _ => 0) 0)])
    (fun i m mu => ∃ F N tm tl1 tl2, DL prog w d F N mu ∧ N ≤ 1 + 2 * i ∧ (∀ p q : Int, (p = -1 ∧ q = -1) ∨ (0 ≤ p ∧ p < i ∧ (q = -1 ∨ q = 0)) → F p q = some (dlV a b ((a.length : Int) + (b.length : Int)) p q)) ∧
      m "d" = some (.ref d) ∧ m "da" = some (.ref da) ∧ m "maxdist" = some (.int ((a.length : Int) + (b.length : Int)) tm) ∧ m "len1" = some (.int (a.length : Int) tl1) ∧ m "len2" = some (.int (b.length : Int) tl2) ∧ m "s1" = some (.str (sw a) ta) ∧ m "s2" = some (.str (sw b) tb) ∧ m "self" = some (.ref x))
    hh (S₅.get (.head _)) (by omega) (by omega) rfl rfl S₅.drop1 ⟨_, _, _, _, _, D₁, by omega, ?_, rfl, rfl, rfl, rfl, rfl, rfl, rfl, rfl⟩ ?_ ?_
  · intro p q hc
    unfold updF
    have : p = -1 ∧ q = -1 := by omega
    rw [if_pos this, this.1, dlV_m1']
  · rintro i t m₁ mu₁ g₁ h₅ tk₅ hi ⟨F, N, tm, tl1, tl2, D, hN, hF, f1, f2, f3, f4, f5, f6, f7, f8⟩ sub₁ _ _ S₂
    clear S₅
    have G₁ := G.keeps sub₁
    walk_at "S_go"
    have S₃ := ‹St g₁ L _ _ _›
    have D₃ := ‹DL prog w d _ (N + 1 + 1) _›
    refine TurnEnd.next S₃ ⟨_, _, tm, tl1, tl2, D₃, by omega, ?_, f1, f2, f3, f4, f5, f6, f7, f8⟩
    intro p q hc
    unfold updF
    split
    · rename_i h; rw [h.1, h.2, dlV_0 _ _ _ (by omega)]
    · split
      · rename_i _ h; rw [h.1, h.2, dlV_m1]
      · exact hF p q (by omega)
  · rintro m₁ mu₁ h₅ tk₅ ⟨F, N, tm, tl1, tl2, D, hN, hF, f1, f2, f3, f4, f5, f6, f7, f8⟩ S₂
    clear S₅
    have ea : ((a.length : Int) + 1 - 0).toNat = a.length + 1 := by omega
    rw [ea] at hF hN
    walk_at "S_go"
    refine forG_S ?_ (by intro _; rfl)
    walk_at "S_go"
    have S₃ := ‹St g L _ _ _›
    rename_i rg _ _ _
    refine rgLoop (mu := mu₁) (rest := [(da, isDA prog w (fun _ => 0) 0)])
      (fun j m mu => ∃ F N tm tl1 tl2, DL prog w d F N mu ∧ N ≤ 30 + 2 * j ∧ (∀ p q : Int, (p = -1 ∧ q = -1) ∨ (0 ≤ p ∧ p ≤ a.length ∧ (q = -1 ∨ q = 0)) ∨ (0 ≤ q ∧ q < j ∧ (p = -1 ∨ p = 0)) → F p q = some (dlV a b ((a.length : Int) + (b.length : Int)) p q)) ∧
        m "d" = some (.ref d) ∧ m "da" = some (.ref da) ∧ m "maxdist" = some (.int ((a.length : Int) + (b.length : Int)) tm) ∧ m "len1" = some (.int (a.length : Int) tl1) ∧ m "len2" = some (.int (b.length : Int) tl2) ∧ m "s1" = some (.str (sw a) ta) ∧ m "s2" = some (.str (sw b) tb) ∧ m "self" = some (.ref x))
      hh (S₃.get (.head _)) (by omega) (by omega) rfl rfl S₃.drop1 ⟨F, N, tm, tl1, tl2, D, by omega, fun p q hc => hF p q (by omega), f1, f2, f3, f4, f5, f6, f7, f8⟩ ?_ ?_
    · rintro j t m₂ mu₂ g₁ h₆ tk₆ hj ⟨F, N, tm, tl1, tl2, D, hN, hF, f1, f2, f3, f4, f5, f6, f7, f8⟩ sub₁ _ _ S₄
      clear S₃
      have G₁ := G.keeps sub₁
      walk_at "S_go"
      have S₅ := ‹St g₁ L _ _ _›
      have D₃ := ‹DL prog w d _ (N + 1 + 1) _›
      refine TurnEnd.next S₅ ⟨_, _, tm, tl1, tl2, D₃, by omega, ?_, f1, f2, f3, f4, f5, f6, f7, f8⟩
      intro p q hc
      unfold updF
      split
      · rename_i h; rw [h.1, h.2, dlV_0' _ _ _ (by omega)]
      · split
        · rename_i _ h; rw [h.1, h.2, dlV_m1']
        · exact hF p q (by omega)
    · rintro m₂ mu₂ h₆ tk₆ ⟨F, N, tm, tl1, tl2, D, hN, hF, f1, f2, f3, f4, f5, f6, f7, f8⟩ S₄
      clear S₃
      have eb : ((b.length : Int) + 1 - 0).toNat = b.length + 1 := by omega
      rw [eb] at hF hN
      walk_at "S_go"
      refine forG_S ?_ (by intro _; rfl)
      walk_at "S_go"
      have S₅ := ‹St g L _ _ _›
      rename_i e it _ _
      refine enumLoop (k := 1) (y := a) (mu := mu₂ ++ [(da, isDA prog w (fun _ => 0) 0)]) (rest := [])
        (fun i m mu => ∃ F N tm tl1 tl2 mud, mu = mud ++ [(da, isDA prog w (fun c => (lastI a c i : Int)) i)] ∧ DL prog w d F N mud ∧ N ≤ 60 + 20 * i ∧
          (∀ p q : Int, -1 ≤ p → -1 ≤ q → p ≤ a.length → q ≤ b.length → (p ≤ 0 ∨ q ≤ 0 ∨ p ≤ i) → F p q = some (dlV a b ((a.length : Int) + (b.length : Int)) p q)) ∧
          m "d" = some (.ref d) ∧ m "da" = some (.ref da) ∧ m "maxdist" = some (.int ((a.length : Int) + (b.length : Int)) tm) ∧ m "len1" = some (.int (a.length : Int) tl1) ∧ m "len2" = some (.int (b.length : Int) tl2) ∧ m "s1" = some (.str (sw a) ta) ∧ m "s2" = some (.str (sw b) tb) ∧ m "self" = some (.ref x))
        (.inr rfl) hh rfl rfl rfl (by rw [List.append_nil]; exact S₅) ⟨F, N, tm, tl1, tl2, mu₂, rfl, D, by omega, fun p q h1 h2 h3 h4 h5 => hF p q (by omega), f1, f2, f3, f4, f5, f6, f7, f8⟩ ?_ ?_
      · rintro i t u m₃ mu₃ g₁ h₇ tk₇ c hc ⟨F, N, tm, tl1, tl2, mud, rfl, D, hN, hF, f1, f2, f3, f4, f5, f6, f7, f8⟩ sub₁ _ S₆
        clear S₅
        have G₁ := G.keeps sub₁
        have hx1 := hx.keeps sub₁
        have hd1 := hd.keeps sub₁
        have hib : i < a.length := (List.getElem?_eq_some_iff.mp hc).1
        walk_at "S_go"
        refine forG_S ?_ (by intro _; rfl)
        walk_at "S_go"
        have S₇ := ‹St g₁ L _ _ _›
        rename_i e2 it2 _ _
        rw [← List.append_nil (mud ++ _)] at S₇
        have S₇' := S₇
        refine enumLoop (k := 1) (y := b) (mu := mud ++ [(da, isDA prog w (fun c => (lastI a c i : Int)) i)]) (rest := [])
          (fun j m mu => ∃ F N tm tl1 tl2 tdb mud, mu = mud ++ [(da, isDA prog w (fun c => (lastI a c i : Int)) i)] ∧ DL prog w d F N mud ∧ N ≤ 60 + 20 * i + j ∧
            (∀ p q : Int, -1 ≤ p → -1 ≤ q → p ≤ a.length → q ≤ b.length → (p ≤ 0 ∨ q ≤ 0 ∨ p ≤ i ∨ (p = i + 1 ∧ q ≤ j)) → F p q = some (dlV a b ((a.length : Int) + (b.length : Int)) p q)) ∧
            m "db" = some (.int (lastI b c j : Int) tdb) ∧ m "i" = some (.int (((1 : Nat) : Int) + (i : Int)) t) ∧ m "cs1" = some (.str (sw [c]) u) ∧
            m "d" = some (.ref d) ∧ m "da" = some (.ref da) ∧ m "maxdist" = some (.int ((a.length : Int) + (b.length : Int)) tm) ∧ m "len1" = some (.int (a.length : Int) tl1) ∧ m "len2" = some (.int (b.length : Int) tl2) ∧ m "s1" = some (.str (sw a) ta) ∧ m "s2" = some (.str (sw b) tb) ∧ m "self" = some (.ref x))
          (.inr rfl) hh rfl rfl rfl S₇' ⟨F, N, tm, tl1, tl2, _, mud, rfl, D, by omega, fun p q h1 h2 h3 h4 h5 => hF p q h1 h2 h3 h4 (by omega), rfl, rfl, rfl, f1, f2, f3, f4, f5, f6, f7, f8⟩ ?_ ?_
        · rintro j t2 u2 m₄ mu₄ g₂ h₈ tk₈ c2 hc2 ⟨F, N, tm, tl1, tl2, tdb, mud, rfl, D, hN, hF, k1, k2, k3, f1, f2, f3, f4, f5, f6, f7, f8⟩ sub₂ _ S₈
          clear S₇
          have G₂ := G₁.keeps sub₂
          have hx2 := hx1.keeps sub₂
          have hd2 := hd1.keeps sub₂
          have hjb : j < b.length := (List.getElem?_eq_some_iff.mp hc2).1
          have l1 := lastI_le a c2 i
          have l2 := lastI_le b c j
          have q1 := hF (((1 : Nat) : Int) + (i : Int) - 1) (((1 : Nat) : Int) + (j : Int) - 1) (by omega) (by omega) (by omega) (by omega) (by omega)
          have q2 := hF (((1 : Nat) : Int) + (i : Int)) (((1 : Nat) : Int) + (j : Int) - 1) (by omega) (by omega) (by omega) (by omega) (by omega)
          have q3 := hF (((1 : Nat) : Int) + (i : Int) - 1) (((1 : Nat) : Int) + (j : Int)) (by omega) (by omega) (by omega) (by omega) (by omega)
          have q4 := hF ((lastI a c2 i : Int) - 1) ((lastI b c j : Int) - 1) (by omega) (by omega) (by omega) (by omega) (by omega)
          have hN2 : N ≤ 999 := by omega
          walk_at "S_go"
          have S₉ := ‹St g₂ L _ _ _›
          refine ident_ct (G₂.keeps S₉.keep) (Own.refl _) ((rm.deeper _).mono (by omega)) fun h₉ t₉ O₉ => ?_
          have S₁₀ := S₉.call0 O₉
          clear S₉
          dsimp only
          by_cases hq : c = c2
          · rw [show decide (sw [c] = sw [c2]) = true by rw [hq]; simp]
            walk_at "S_go"
            have S₁₁ := ‹St g₂ L _ _ _›
            have D₁₁ := ‹DL prog w d _ (N + 1) _›
            refine TurnEnd.next S₁₁ ⟨_, _, tm, tl1, tl2, t2, _, rfl, D₁₁, by omega, ?_, ?_, k2, k3, f1, f2, f3, f4, f5, f6, f7, f8⟩
            · intro p q h1 h2 h3 h4 h5
              unfold updF
              split
              · rename_i h
                rw [h.1, h.2, dl_step hc hc2, if_pos hq]
              · exact hF p q h1 h2 h3 h4 (by omega)
            · refine congrArg (fun z => some (Value.int z _)) ?_
              rw [lastI, if_pos (by rw [hc2, hq])]
              omega
          · rw [show decide (sw [c] = sw [c2]) = false by simp [sw_inj, hq]]
            walk_at "S_go"
            have S₁₁ := ‹St g₂ L _ _ _›
            have D₁₁ := ‹DL prog w d _ (N + 1) _›
            refine TurnEnd.next S₁₁ ⟨_, _, tm, tl1, tl2, tdb, _, rfl, D₁₁, by omega, ?_, ?_, k2, k3, f1, f2, f3, f4, f5, f6, f7, f8⟩
            · intro p q h1 h2 h3 h4 h5
              unfold updF
              split
              · rename_i h
                rw [h.1, h.2, dl_step hc hc2, if_neg hq]
              · exact hF p q h1 h2 h3 h4 (by omega)
            · refine k1.trans (congrArg (fun z => some (Value.int z _)) ?_)
              rw [lastI, if_neg (by rw [hc2]; intro h; exact hq (Option.some.inj h).symm)]
        · rintro m₄ mu₄ h₈ tk₈ ⟨F, N, tm, tl1, tl2, tdb, mud, rfl, D, hN, hF, k1, k2, k3, f1, f2, f3, f4, f5, f6, f7, f8⟩ S₈
          clear S₇
          rw [List.append_nil] at S₈
          walk_at "S_go"
          have S₉ := ‹St g₁ L _ _ _›
          refine daSet mud S₉ (by omega) fun h₉ tk₉ S₁₀ => ?_
          clear S₉
          walk_at "S_go"
          have S₁₁ := ‹St g₁ L _ _ _›
          refine TurnEnd.next S₁₁ ⟨F, N, tm, tl1, tl2, mud, ?_, D, by omega, fun p q h1 h2 h3 h4 h5 => hF p q h1 h2 h3 h4 (by omega), f1, f2, f3, f4, f5, f6, f7, f8⟩
          have ef : (fun y => if y = c then ((1 : Nat) : Int) + (i : Int) else (lastI a y i : Int)) = fun y => (lastI a y (i + 1) : Int) := by
            funext y
            rw [lastI]
            by_cases hy : y = c
            · rw [if_pos hy, if_pos (by rw [hc, hy])]; omega
            · rw [if_neg hy, if_neg (by rw [hc]; intro h; exact hy (Option.some.inj h).symm)]
          rw [ef]
      · rintro m₃ mu₃ h₇ tk₇ ⟨F, N, tm, tl1, tl2, mud, rfl, D, hN, hF, f1, f2, f3, f4, f5, f6, f7, f8⟩ S₆
        clear S₅
        rw [List.append_nil] at S₆
        have q1 := hF (a.length : Int) (b.length : Int) (by omega) (by omega) (by omega) (by omega) (by omega)
        walk_at "S_go"
        have S₇ := ‹St g L _ _ _›
        rw [dlV_nn]
        exact ret _ _ _ (S₇.o.sub (news' := []) (by simp) (by simp))
end
section
variable {prog : Program} {w : World}
/-- what the tight variant reckons -/
def osa (a b : List Nat) : Nat → Nat → Int
  | 0, j => j
  | i + 1, 0 => i + 1
  | i + 1, j + 1 => 
    let cost : Int := if a[i]? = b[j]? then 0 else 1
    let base := min (min (osa a b i (j + 1) + 1) (osa a b (i + 1) j + 1)) (osa a b i j + cost)
    if 1 ≤ i ∧ 1 ≤ j ∧ a[i]? = b[j - 1]? ∧ a[i - 1]? = b[j]? then min base (osa a b (i - 1) (j - 1) + cost) else base
  termination_by i j => i + j
theorem osa_0 (a b : List Nat) (i : Nat) : osa a b i 0 = i := by cases i <;> simp [osa]
theorem osa_0' (a b : List Nat) (j : Nat) : osa a b 0 j = j := by simp [osa]
/-- by the table's own places -/
def osaV (a b : List Nat) (i j : Int) : Int := osa a b (i + 1).toNat (j + 1).toNat
theorem osaV_m1 (a b : List Nat) {i : Int} (h : -1 ≤ i) : osaV a b i (-1) = i + 1 := by unfold osaV; show osa a b _ 0 = _; rw [osa_0]; omega
theorem osaV_m1' (a b : List Nat) {j : Int} (h : -1 ≤ j) : osaV a b (-1) j = j + 1 := by unfold osaV; show osa a b 0 _ = _; rw [osa_0']; omega
theorem osa_step {a b : List Nat} {i j c c2 : Nat} (hc : a[i]? = some c) (hc2 : b[j]? = some c2) :
  osaV a b (((0 : Nat) : Int) + (i : Int)) (((0 : Nat) : Int) + (j : Int)) =
    if 1 ≤ i ∧ 1 ≤ j ∧ b[j - 1]? = some c ∧ a[i - 1]? = some c2 then
      min (min (min (osaV a b (((0 : Nat) : Int) + (i : Int) - 1) (((0 : Nat) : Int) + (j : Int)) + 1) (osaV a b (((0 : Nat) : Int) + (i : Int)) (((0 : Nat) : Int) + (j : Int) - 1) + 1)) (osaV a b (((0 : Nat) : Int) + (i : Int) - 1) (((0 : Nat) : Int) + (j : Int) - 1) + if (!decide (c = c2)) = true then 1 else 0))
        (osaV a b (((0 : Nat) : Int) + (i : Int) - 2) (((0 : Nat) : Int) + (j : Int) - 2) + if (!decide (c = c2)) = true then 1 else 0)
    else min (min (osaV a b (((0 : Nat) : Int) + (i : Int) - 1) (((0 : Nat) : Int) + (j : Int)) + 1) (osaV a b (((0 : Nat) : Int) + (i : Int)) (((0 : Nat) : Int) + (j : Int) - 1) + 1)) (osaV a b (((0 : Nat) : Int) + (i : Int) - 1) (((0 : Nat) : Int) + (j : Int) - 1) + if (!decide (c = c2)) = true then 1 else 0) := by
  have e1 : osaV a b (((0 : Nat) : Int) + (i : Int)) (((0 : Nat) : Int) + (j : Int)) = osa a b (i + 1) (j + 1) := by unfold osaV; congr 1 <;> omega
  have e2 : osaV a b (((0 : Nat) : Int) + (i : Int) - 1) (((0 : Nat) : Int) + (j : Int)) = osa a b i (j + 1) := by unfold osaV; congr 1 <;> omega
  have e3 : osaV a b (((0 : Nat) : Int) + (i : Int)) (((0 : Nat) : Int) + (j : Int) - 1) = osa a b (i + 1) j := by unfold osaV; congr 1 <;> omega
  have e4 : osaV a b (((0 : Nat) : Int) + (i : Int) - 1) (((0 : Nat) : Int) + (j : Int) - 1) = osa a b i j := by unfold osaV; congr 1 <;> omega
  have e6 : (if (!decide (c = c2)) = true then (1 : Int) else 0) = if c = c2 then 0 else 1 := by by_cases h : c = c2 <;> simp [h]
  have e7 : (a[i]? = b[j - 1]?) ↔ (b[j - 1]? = some c) := by rw [hc]; exact eq_comm
  have e8 : (a[i - 1]? = b[j]?) ↔ (a[i - 1]? = some c2) := by rw [hc2]
  rw [e1, e2, e3, e4, e6, osa]
  simp only [e7, e8]
  rw [hc, hc2]
  simp only [Option.some.injEq]
  by_cases h : 1 ≤ i ∧ 1 ≤ j ∧ b[j - 1]? = some c ∧ a[i - 1]? = some c2
  · rw [if_pos h, if_pos h]
    have e5 : osaV a b (((0 : Nat) : Int) + (i : Int) - 2) (((0 : Nat) : Int) + (j : Int) - 2) = osa a b (i - 1) (j - 1) := by unfold osaV; congr 1 <;> omega
    rw [e5]
  · rw [if_neg h, if_neg h]
theorem osa_off {a b : List Nat} {i j c c2 : Nat} {F : Int → Int → Option Int} (hc : a[i]? = some c) (hc2 : b[j]? = some c2) (hn : ¬ (1 ≤ i ∧ 1 ≤ j ∧ b[j - 1]? = some c ∧ a[i - 1]? = some c2))
  (hF : ∀ p q : Int, -1 ≤ p → -1 ≤ q → p < a.length → q < b.length → (q = -1 ∨ p < i ∨ (p = i ∧ q < j)) → F p q = some (osaV a b p q)) :
  ∀ p q : Int, -1 ≤ p → -1 ≤ q → p < a.length → q < b.length → (q = -1 ∨ p < i ∨ (p = i ∧ q < ((j + 1 : Nat) : Int))) →
    updF F (((0 : Nat) : Int) + (i : Int)) (((0 : Nat) : Int) + (j : Int)) (min (min (osaV a b (((0 : Nat) : Int) + (i : Int) - 1) (((0 : Nat) : Int) + (j : Int)) + 1) (osaV a b (((0 : Nat) : Int) + (i : Int)) (((0 : Nat) : Int) + (j : Int) - 1) + 1)) (osaV a b (((0 : Nat) : Int) + (i : Int) - 1) (((0 : Nat) : Int) + (j : Int) - 1) + if (!decide (c = c2)) = true then 1 else 0)) p q = some (osaV a b p q) := by
  intro p q h1 h2 h3 h4 h5
  unfold updF
  split
  · rename_i h
    rw [h.1, h.2, osa_step hc hc2]
    exact congrArg some (if_neg hn).symm
  · exact hF p q h1 h2 h3 h4 (by omega)
theorem TurnEnd.cont {s₀ : Shared} {g : Heap} {L : Addr} {J : (Str → Option Value) → Led → Prop} {Q : Flow → Shared → Prop} {h : Heap} {tk : Nat} {m : Str → Option Value} {mu : Led} (S : St g L h m mu) (j : J m mu) :
    TurnEnd s₀ g L J Q .cont { s₀ with heap := h, toks := tk } := ⟨h, tk, m, mu, rfl, S, j⟩
set_option maxHeartbeats 4000000 in
theorem tight_ct {A : Around} {s : Shared} {g : Heap} {R : Result → Shared → Prop} {x dx : Addr} {at_ : List (Str × Value)} {a b : List Nat} {ta tb : Tok}
  (G : Gd w g) (O : Own g s.heap []) (rm : Rm 4 A) (hx : At g (x, isO (instObj 285 dx))) (hd : At g (dx, isA at_)) (htf : at_.lookup ("test_func" : Str) = some (.ref 157)) (ha : a.length ≤ 10) (hb : b.length ≤ 10)
  (ret : ∀ t h' t', Own g h' [] → R (.ok (.ret (.int (osa a b a.length b.length) t))) { s with heap := h', toks := t' }) :
  codeAny (model prog w) A (.call (.ref 275) ⟨[.ref x, .str (sw a) ta, .str (sw b) tb], []⟩) R s := by
  have hh := rm.hh
  refine enter G O (by k_is) (by conv => lhs; whnf) (by conv => lhs; whnf) (by conv => lhs; whnf) (by k_is) rm (.of_eq (binds := [("self", .ref x), ("s1", .str (sw a) ta), ("s2", .str (sw b) tb)]) rfl) (locs rfl) (fun L h₁ tk S => ?_) rfl rfl rfl (by decide)
  walk_at "S_go"
  have S₁ := ‹St g L _ _ _›
  rename_i d _ _ _ _ _
  have S₄ := St.dict1 (prog := prog) (w := w) S₁
  have D₀ := dl_empty (prog := prog) (w := w) (d := d)
  generalize ([(d, isDH prog w [])] : Led) = mu₀ at S₄ D₀
  clear S₁
  refine forG_S ?_ (by intro _; rfl)
  walk_at "S_go"
  have S₅ := ‹St g L _ _ _›
  rename_i rg _ _ _
  refine rgLoop (mu := mu₀) (rest := [])
    (fun i m mu => ∃ F N, DL prog w d F N mu ∧ N ≤ i ∧ (∀ p q : Int, -1 ≤ p → p + 1 < i → q = -1 → F p q = some (osaV a b p q)) ∧
      m "d" = some (.ref d) ∧ m "s1" = some (.str (sw a) ta) ∧ m "s2" = some (.str (sw b) tb) ∧ m "self" = some (.ref x))
    hh (S₅.get (.head _)) (by omega) (by omega) rfl rfl S₅.drop1 ⟨_, _, D₀, by omega, fun p q h1 h2 h3 => absurd h2 (by omega), rfl, rfl, rfl, rfl⟩ ?_ ?_
  · rintro i t m₁ mu₁ g₁ h₅ tk₅ hi ⟨F, N, D, hN, hF, f1, f2, f3, f4⟩ sub₁ _ _ S₂
    clear S₅
    have G₁ := G.keeps sub₁
    walk_at "S_go"
    have S₃ := ‹St g₁ L _ _ _›
    have D₃ := ‹DL prog w d _ (N + 1) _›
    refine TurnEnd.next S₃ ⟨_, _, D₃, by omega, ?_, f1, f2, f3, f4⟩
    intro p q h1 h2 h3
    unfold updF
    split
    · rename_i h; rw [h.1, h.2, osaV_m1 _ _ (by omega)]
    · exact hF p q h1 (by omega) h3
  · rintro m₁ mu₁ h₅ tk₅ ⟨F, N, D, hN, hF, f1, f2, f3, f4⟩ S₂
    clear S₅
    have ea : ((a.length : Int) + 1 - -1).toNat = a.length + 2 := by omega
    rw [ea] at hF hN
    walk_at "S_go"
    refine forG_S ?_ (by intro _; rfl)
    walk_at "S_go"
    have S₃ := ‹St g L _ _ _›
    rename_i rg _ _ _
    refine rgLoop (mu := mu₁) (rest := [])
      (fun j m mu => ∃ F N, DL prog w d F N mu ∧ N ≤ 20 + j ∧ (∀ p q : Int, -1 ≤ p → -1 ≤ q → p ≤ a.length → (q = -1 ∨ p = -1 ∧ q + 1 < j) → F p q = some (osaV a b p q)) ∧
        m "d" = some (.ref d) ∧ m "s1" = some (.str (sw a) ta) ∧ m "s2" = some (.str (sw b) tb) ∧ m "self" = some (.ref x))
      hh (S₃.get (.head _)) (by omega) (by omega) rfl rfl S₃.drop1 ⟨F, N, D, by omega, fun p q h1 h2 h3 h4 => hF p q h1 (by omega) (by omega), f1, f2, f3, f4⟩ ?_ ?_
    · rintro j t m₂ mu₂ g₁ h₆ tk₆ hj ⟨F, N, D, hN, hF, f1, f2, f3, f4⟩ sub₁ _ _ S₄
      clear S₃
      have G₁ := G.keeps sub₁
      walk_at "S_go"
      have S₅ := ‹St g₁ L _ _ _›
      have D₃ := ‹DL prog w d _ (N + 1) _›
      refine TurnEnd.next S₅ ⟨_, _, D₃, by omega, ?_, f1, f2, f3, f4⟩
      intro p q h1 h2 h3 h4
      unfold updF
      split
      · rename_i h; rw [h.1, h.2, osaV_m1' _ _ (by omega)]
      · exact hF p q h1 h2 h3 (by omega)
    · rintro m₂ mu₂ h₆ tk₆ ⟨F, N, D, hN, hF, f1, f2, f3, f4⟩ S₄
      clear S₃
      have eb : ((b.length : Int) + 1 - -1).toNat = b.length + 2 := by omega
      rw [eb] at hF hN
      walk_at "S_go"
      refine forG_S ?_ (by intro _; rfl)
      walk_at "S_go"
      have S₅ := ‹St g L _ _ _›
      rename_i e it _ _
      refine enumLoop (k := 0) (y := a) (mu := mu₂) (rest := [])
        (fun i m mu => ∃ F N, DL prog w d F N mu ∧ N ≤ 50 + 30 * i ∧
          (∀ p q : Int, -1 ≤ p → -1 ≤ q → p < a.length → q < b.length → (q = -1 ∨ p < i) → F p q = some (osaV a b p q)) ∧
          m "d" = some (.ref d) ∧ m "s1" = some (.str (sw a) ta) ∧ m "s2" = some (.str (sw b) tb) ∧ m "self" = some (.ref x))
        (.inl rfl) hh rfl rfl rfl S₅ ⟨F, N, D, by omega, fun p q h1 h2 h3 h4 h5 => hF p q h1 h2 (by omega) (by omega), f1, f2, f3, f4⟩ ?_ ?_
      · rintro i t u m₃ mu₃ g₁ h₇ tk₇ c hc ⟨F, N, D, hN, hF, f1, f2, f3, f4⟩ sub₁ _ S₆
        clear S₅
        have G₁ := G.keeps sub₁
        have hx1 := hx.keeps sub₁
        have hd1 := hd.keeps sub₁
        have hib : i < a.length := (List.getElem?_eq_some_iff.mp hc).1
        walk_at "S_go"
        refine forG_S ?_ (by intro _; rfl)
        walk_at "S_go"
        have S₇ := ‹St g₁ L _ _ _›
        rename_i e2 it2 _ _
        rw [← List.append_nil mu₃] at S₇
        have S₇' := S₇
        refine enumLoop (k := 0) (y := b) (mu := mu₃) (rest := [])
          (fun j m mu => ∃ F N, DL prog w d F N mu ∧ N ≤ 50 + 30 * i + 2 * j ∧
            (∀ p q : Int, -1 ≤ p → -1 ≤ q → p < a.length → q < b.length → (q = -1 ∨ p < i ∨ (p = i ∧ q < j)) → F p q = some (osaV a b p q)) ∧
            m "i" = some (.int (((0 : Nat) : Int) + (i : Int)) t) ∧ m "cs1" = some (.str (sw [c]) u) ∧
            m "d" = some (.ref d) ∧ m "s1" = some (.str (sw a) ta) ∧ m "s2" = some (.str (sw b) tb) ∧ m "self" = some (.ref x))
          (.inl rfl) hh rfl rfl rfl S₇' ⟨F, N, D, by omega, fun p q h1 h2 h3 h4 h5 => hF p q h1 h2 h3 h4 (by omega), rfl, rfl, f1, f2, f3, f4⟩ ?_ ?_
        · rintro j t2 u2 m₄ mu₄ g₂ h₈ tk₈ c2 hc2 ⟨F, N, D, hN, hF, k2, k3, f1, f2, f3, f4⟩ sub₂ _ S₈
          clear S₇ S₇'
          have G₂ := G₁.keeps sub₂
          have hx2 := hx1.keeps sub₂
          have hd2 := hd1.keeps sub₂
          have hjb : j < b.length := (List.getElem?_eq_some_iff.mp hc2).1
          have q1 := hF (((0 : Nat) : Int) + (i : Int) - 1) (((0 : Nat) : Int) + (j : Int)) (by omega) (by omega) (by omega) (by omega) (by omega)
          have q2 := hF (((0 : Nat) : Int) + (i : Int)) (((0 : Nat) : Int) + (j : Int) - 1) (by omega) (by omega) (by omega) (by omega) (by omega)
          have q3 := hF (((0 : Nat) : Int) + (i : Int) - 1) (((0 : Nat) : Int) + (j : Int) - 1) (by omega) (by omega) (by omega) (by omega) (by omega)
          have hN2 : N ≤ 990 := by omega
          walk_at "S_go"
          have S₉ := ‹St g₂ L _ _ _›
          refine ident_ct (G₂.keeps S₉.keep) (Own.refl _) ((rm.deeper _).mono (by omega)) fun h₉ t₉ O₉ => ?_
          have S₁₀ := S₉.call0 O₉
          clear S₉
          dsimp only
          rw [show decide (sw [c] = sw [c2]) = decide (c = c2) by simp [sw_inj]]
          walk_at "S_go"
          · have hi0 : 1 ≤ i := by omega
            have hj0 : 1 ≤ j := by omega
            have hcb : b[(((0 : Nat) : Int) + (j : Int) - 1).toNat]? = some b[j - 1] := by
              have : (((0 : Nat) : Int) + (j : Int) - 1).toNat = j - 1 := by omega
              rw [this]; exact List.getElem?_eq_getElem (by omega)
            have hca : a[(((0 : Nat) : Int) + (i : Int) - 1).toNat]? = some a[i - 1] := by
              have : (((0 : Nat) : Int) + (i : Int) - 1).toNat = i - 1 := by omega
              rw [this]; exact List.getElem?_eq_getElem (by omega)
            walk_at "S_go"
            have S₁₁ := ‹St g₂ L _ _ _›
            refine ident_ct (G₂.keeps S₁₁.keep) (Own.refl _) ((rm.deeper _).mono (by omega)) fun h₁₁ t₁₁ O₁₁ => ?_
            have S₁₂ := S₁₁.call0 O₁₁
            clear S₁₁
            dsimp only
            rw [show decide (sw [c] = sw [b[j - 1]]) = decide (c = b[j - 1]) by simp [sw_inj]]
            rename DL _ _ _ _ (N + 1) _ => D₁
            by_cases hq1 : c = b[j - 1]
            · rw [decide_eq_true hq1]
              walk_at "S_go"
              have S₁₁ := ‹St g₂ L _ _ _›
              refine ident_ct (G₂.keeps S₁₁.keep) (Own.refl _) ((rm.deeper _).mono (by omega)) fun h₁₂ t₁₂ O₁₂ => ?_
              have S₁₃ := S₁₁.call0 O₁₂
              clear S₁₁
              dsimp only
              rw [show decide (sw [a[i - 1]] = sw [c2]) = decide (a[i - 1] = c2) by simp [sw_inj]]
              by_cases hq2 : a[i - 1] = c2
              · rw [decide_eq_true hq2]
                generalize hFe : updF F _ _ _ = F' at D₁
                have q5 : F' (((0 : Nat) : Int) + (i : Int)) (((0 : Nat) : Int) + (j : Int)) = some (min (min (osaV a b (((0 : Nat) : Int) + (i : Int) - 1) (((0 : Nat) : Int) + (j : Int)) + 1) (osaV a b (((0 : Nat) : Int) + (i : Int)) (((0 : Nat) : Int) + (j : Int) - 1) + 1)) (osaV a b (((0 : Nat) : Int) + (i : Int) - 1) (((0 : Nat) : Int) + (j : Int) - 1) + if (!decide (c = c2)) = true then 1 else 0)) := by
                  rw [← hFe]; unfold updF; rw [if_pos ⟨rfl, rfl⟩]
                have q6 : F' (((0 : Nat) : Int) + (i : Int) - 2) (((0 : Nat) : Int) + (j : Int) - 2) = some (osaV a b (((0 : Nat) : Int) + (i : Int) - 2) (((0 : Nat) : Int) + (j : Int) - 2)) := by
                  rw [← hFe]; unfold updF; rw [if_neg (by omega)]
                  exact hF _ _ (by omega) (by omega) (by omega) (by omega) (by omega)
                have hN3 : N + 1 ≤ 991 := by omega
                walk_at "S_go"
                have S₁₄ := ‹St g₂ L _ _ _›
                have D₁₄ := ‹DL prog w d _ (N + 1 + 1) _›
                refine TurnEnd.next S₁₄ ⟨_, _, D₁₄, by omega, ?_, k2, k3, f1, f2, f3, f4⟩
                intro p q h1 h2 h3 h4 h5
                unfold updF
                split
                · rename_i h
                  rw [h.1, h.2, osa_step hc hc2]
                  exact congrArg some (if_pos ⟨hi0, hj0, by rw [List.getElem?_eq_getElem (by omega), hq1], by rw [List.getElem?_eq_getElem (by omega), hq2]⟩).symm
                · rename_i h
                  rw [← hFe]; unfold updF; rw [if_neg h]; exact hF p q h1 h2 h3 h4 (by omega)
              · rw [decide_eq_false hq2]
                walk_at "S_go"
                have S₁₄ := ‹St g₂ L _ _ _›
                refine TurnEnd.cont S₁₄ ⟨_, _, D₁, by omega, osa_off hc hc2 (fun h => hq2 (by have := h.2.2.2; rw [List.getElem?_eq_getElem (by omega)] at this; exact Option.some.inj this)) hF, k2, k3, f1, f2, f3, f4⟩
            · rw [decide_eq_false hq1]
              walk_at "S_go"
              have S₁₄ := ‹St g₂ L _ _ _›
              refine TurnEnd.cont S₁₄ ⟨_, _, D₁, by omega, osa_off hc hc2 (fun h => hq1 (by have := h.2.2.1; rw [List.getElem?_eq_getElem (by omega)] at this; exact (Option.some.inj this).symm)) hF, k2, k3, f1, f2, f3, f4⟩
          all_goals (
            have S₁₄ := ‹St g₂ L _ _ _›
            have D₁ := ‹DL prog w d _ (N + 1) _›
            refine TurnEnd.cont S₁₄ ⟨_, _, D₁, by omega, osa_off hc hc2 (fun h => by have := h.1; have := h.2.1; omega) hF, k2, k3, f1, f2, f3, f4⟩)
        · rintro m₄ mu₄ h₈ tk₈ ⟨F, N, D, hN, hF, k2, k3, f1, f2, f3, f4⟩ S₈
          clear S₇ S₇'
          rw [List.append_nil] at S₈
          walk_at "S_go"
          refine TurnEnd.next S₈ ⟨F, N, D, by omega, fun p q h1 h2 h3 h4 h5 => hF p q h1 h2 h3 h4 (by omega), f1, f2, f3, f4⟩
      · rintro m₃ mu₃ h₇ tk₇ ⟨F, N, D, hN, hF, f1, f2, f3, f4⟩ S₆
        clear S₅
        rw [List.append_nil] at S₆
        have q1 := hF ((a.length : Int) - 1) ((b.length : Int) - 1) (by omega) (by omega) (by omega) (by omega) (by omega)
        walk_at "S_go"
        have S₇ := ‹St g L _ _ _›
        have e : osaV a b ((a.length : Int) - 1) ((b.length : Int) - 1) = osa a b a.length b.length := by unfold osaV; congr 1 <;> omega
        rw [e]
        exact ret _ _ _ (S₇.o.sub (news' := []) (by simp) (by simp))
end
section
variable {prog : Program} {w : World}
def damV (r : Bool) (a b : List Nat) : Int := if a = b then 0 else if a = [] ∨ b = [] then max (a.length : Int) (b.length : Int) else if r = true then osa a b a.length b.length else dl a b ((a.length : Int) + (b.length : Int)) a.length b.length
set_option maxHeartbeats 4000000 in
theorem damcall_ct {A : Around} {s : Shared} {g : Heap} {R : Result → Shared → Prop} {x dx : Addr} {a b : List Nat} {ta tb tq : Tok} {r : Bool}
  (G : Gd w g) (O : Own g s.heap []) (rm : Rm 6 A) (hx : At g (x, isO (instObj 285 dx))) (hd : At g (dx, isA (damAt tq r))) (ha : a.length ≤ 10) (hb : b.length ≤ 10)
  (ret : ∀ t h' t', Own g h' [] → R (.ok (.ret (.int (damV r a b) t))) { s with heap := h', toks := t' }) :
  codeAny (model prog w) A (.call (.ref 282) ⟨[.ref x, .str (sw a) ta, .str (sw b) tb], []⟩) R s := by
  have hh := rm.hh
  refine enter G O (by k_is) (by conv => lhs; whnf) (by conv => lhs; whnf) (by conv => lhs; whnf) (by k_is) rm (.of_eq (binds := [("self", .ref x), ("s1", .str (sw a) ta), ("s2", .str (sw b) tb)]) rfl) (locs rfl) (fun L h₁ tk S => ?_) rfl rfl rfl (by decide)
  walk_at "S_go"
  have S₁ := ‹St g L _ _ _›
  refine seq1_ct (G.keeps S₁.keep) (Own.refl _) ((rm.deeper _).mono (by omega)) (hx.keeps S₁.keep) (hd.keeps S₁.keep) (.inr (.inl rfl)) fun l h₂ t₂ O₂ => ?_
  have S₂ := S₁.call1 O₂
  clear S₁ O₂
  dsimp only
  walk_at "S_go"
  have S₃ := ‹St g L _ _ _›
  refine quick_ct (G.keeps S₃.keep) (Own.refl _) ((rm.deeper _).mono (by omega)) (hx.keeps S₃.keep) (hd.keeps S₃.keep) (.inr rfl) rfl rfl (by omega) (by omega) fun v h₄ t₄ O₄ hv => ?_
  have S₄ := S₃.call0 O₄
  clear S₃ O₄
  dsimp only
  obtain ⟨tv, rfl⟩ := hv
  unfold damV at ret
  by_cases h1 : a = b
  · rw [if_pos h1] at ret ⊢
    walk_at "S_go"
    exact ret _ _ _ (St.own0 ‹St g L _ _ _›)
  · rw [if_neg h1] at ret ⊢
    by_cases h2 : a = [] ∨ b = []
    · rw [if_pos h2] at ret ⊢
      walk_at "S_go"
      exact ret _ _ _ (St.own0 ‹St g L _ _ _›)
    · rw [if_neg h2] at ret ⊢
      cases r with
      | true =>
        rw [if_pos rfl] at ret
        walk_at "S_go"
        have S₅ := ‹St g L _ _ _›
        refine tight_ct (G.keeps S₅.keep) (Own.refl _) ((rm.deeper _).mono (by omega)) (hx.keeps S₅.keep) (hd.keeps S₅.keep) rfl ha hb fun t h₆ t₆ O₆ => ?_
        exact ret _ _ _ (S₅.call0 O₆).own0
      | false =>
        rw [if_neg (by decide)] at ret
        walk_at "S_go"
        have S₅ := ‹St g L _ _ _›
        refine free_ct (G.keeps S₅.keep) (Own.refl _) ((rm.deeper _).mono (by omega)) (hx.keeps S₅.keep) (hd.keeps S₅.keep) rfl ha hb fun t h₆ t₆ O₆ => ?_
        exact ret _ _ _ (S₅.call0 O₆).own0
set_option maxHeartbeats 4000000 in
/-- DamerauLevenshtein(..).distance -/
theorem damdist_ct {A : Around} {s : Shared} {g : Heap} {R : Result → Shared → Prop} {x dx : Addr} {a b : List Nat} {ta tb tq : Tok} {r : Bool}
  (G : Gd w g) (O : Own g s.heap []) (rm : Rm 8 A) (hx : At g (x, isO (instObj 285 dx))) (hd : At g (dx, isA (damAt tq r))) (ha : a.length ≤ 10) (hb : b.length ≤ 10)
  (ret : ∀ t h' t', Own g h' [] → R (.ok (.ret (.int (damV r a b) t))) { s with heap := h', toks := t' }) :
  codeAny (model prog w) A (.call (.ref 122) ⟨[.ref x, .str (sw a) ta, .str (sw b) tb], []⟩) R s := by
  have hh := rm.hh
  refine enterV (vs := [.str (sw a) ta, .str (sw b) tb]) (bindsV := fun T => [("self", .ref x), ("sequences", T)]) G O (by k_is) (by conv => lhs; whnf) (by conv => lhs; whnf) (by conv => lhs; whnf) (by k_is) rm rfl (by simp) (fun v => locs rfl) (fun T L h₁ tk S => ?_) rfl rfl rfl (by decide)
  walk_at "S_go"
  have S₁ := ‹St g L _ _ _›
  refine callA (G.X.keeps S₁.keep) (hx.keeps S₁.keep) (hd.keeps S₁.keep) (by k_is) (by k_is) (by k_is) ?_
  refine damcall_ct (G.keeps S₁.keep) (Own.refl _) ((rm.deeper _).mono (by omega)) (hx.keeps S₁.keep) (hd.keeps S₁.keep) ha hb fun t h₆ t₆ O₆ => ?_
  exact ret _ _ _ (S₁.call0 O₆).own0
end
section
variable {prog : Program} {w : World}
/-- the pieces of q neighbours -/
def gram (l : List Nat) (q k : Nat) : List Nat := (l.take (k + q)).drop k
def grams (l : List Nat) (q : Nat) : List (List Nat) := (List.range (l.length + 1 - q)).map (gram l q)
/-- how many of xs find no partner in left -/
def unmet : List (List Nat) → List (List Nat) → Nat
  | [], _ => 0
  | x :: r, left => if x ∈ left then unmet r (left.erase x) else unmet r left + 1
theorem grams_drop {x : List Nat} {q k : Nat} (h : k < x.length + 1 - q) : (grams x q).drop k = gram x q k :: (grams x q).drop (k + 1) := by
  have hl : k < (grams x q).length := by unfold grams; simpa using h
  rw [List.drop_eq_getElem_cons hl]
  congr 1
  simp [grams]
theorem grams_drop_end {x : List Nat} {q : Nat} : (grams x q).drop (x.length + 1 - q) = [] := List.drop_of_length_le (by unfold grams; simp)
set_option maxHeartbeats 4000000 in
theorem bag_ct {A : Around} {s : Shared} {g : Heap} {R : Result → Shared → Prop} {a b : List Nat} {ta tb tq : Tok} {q : Nat}
  (G : Gd w g) (O : Own g s.heap []) (ha : a.length ≤ 10) (hb : b.length ≤ 10) (hq : 1 ≤ q) (hq3 : q ≤ 3) (rm : Rm 3 A)
  (ret : ∀ t h' t', Own g h' [] → R (.ok (.ret (.int (max (unmet (grams a q) (grams b q) : Int) (unmet (grams b q) (grams a q) : Int)) t))) { s with heap := h', toks := t' }) :
  codeAny (model prog w) A (.call (.ref 330) ⟨[.str (sw a) ta, .str (sw b) tb, .int q tq], []⟩) R s := by
  have hh := rm.hh
  refine enterC (fun L => [("other", L + 2), ("q", L + 1)]) (fun L => [(L + 2, isCell none), (L + 1, isCell (some (.int q tq)))]) G O (by k_is) (by conv => lhs; whnf) (by conv => lhs; whnf) (by conv => lhs; whnf) (by k_is) rm (.of_eq (binds := [("first", .str (sw a) ta), ("second", .str (sw b) tb), ("q", .int q tq)]) rfl) rfl (fun L => by rfl) (fun L => rfl) (by decide) (fun L h₁ tk S => ?_) rfl rfl rfl
  walk_at "S_go"
  refine forG_S ?_ (by intro _; rfl)
  walk_at "S_go"
  have S₁ := ‹St g L _ _ _›
  rename_i sd _ _ _ T1 _ T2 _ T3 _ _
  refine tupLoop (mu := [(sd, isL []), (L + 2, isCell none)]) (rest := [(T3, isT [.ref T1, .ref T2]), (T2, isT [.str (sw b) tb, .str (sw a) ta]), (T1, isT [.str (sw a) ta, .str (sw b) tb]), (L + 1, isCell (some (.int q tq)))])
    (fun i m mu => ∃ items c, m "sides" = some (.ref sd) ∧ mu = [(sd, isL items), (L + 2, isCell c)] ∧ IntsAre items (([(unmet (grams a q) (grams b q) : Int), (unmet (grams b q) (grams a q) : Int)] : List Int).take i))
    hh (S₁.get (.head _)) (S₁.neL (.head _)) (by
      have nd := S₁.o.nd
      simp only [List.map_cons, List.map_nil, List.cons_append, List.nil_append, List.append_nil, List.nodup_cons, List.mem_cons, List.not_mem_nil, or_false, not_or, List.nodup_nil, and_true, not_false_eq_true] at nd
      rintro p hp
      rcases List.mem_cons.mp hp with rfl | hp
      · exact fun e => nd.1.2.2.1 e.symm
      · rw [List.mem_singleton.mp hp]; exact fun e => nd.1.2.2.2.1 e.symm) (S₁.sub (by simp) (by
      have nd := S₁.o.nd
      simp only [List.map_cons, List.map_nil, List.cons_append, List.nil_append, List.append_nil, List.nodup_cons, List.mem_cons, List.not_mem_nil, or_false, not_or, List.nodup_nil, and_true, not_false_eq_true] at nd ⊢
      grind)) ⟨[], none, rfl, rfl, .nil⟩ ?_ ?_
  · rintro i v m₁ mu₁ g₁ h₅ tk₅ hv ⟨items, c, hsd, rfl, hit⟩ sub at₁ _ S₂
    clear S₁
    have G₁ := G.keeps sub
    have hq1 : At g₁ (L + 1, isCell (some (.int q tq))) := at₁ _ (by simp)
    obtain ⟨T, x, y, tx, ty, rfl, hT, hx, hy, hres⟩ : ∃ T x y tx ty, v = .ref T ∧ At g₁ (T, isT [.str (sw x) tx, .str (sw y) ty]) ∧ x.length ≤ 10 ∧ y.length ≤ 10 ∧
        ([(unmet (grams a q) (grams b q) : Int), (unmet (grams b q) (grams a q) : Int)] : List Int)[i]? = some (unmet (grams x q) (grams y q) : Int) := by
      match i, hv with
      | 0, hv => exact ⟨T1, a, b, ta, tb, by simpa using hv.symm, at₁ _ (by simp), ha, hb, rfl⟩
      | 1, hv => exact ⟨T2, b, a, tb, ta, by simpa using hv.symm, at₁ _ (by simp), hb, ha, rfl⟩
    walk_at "S_go"
    refine lcAsS (cl := [("q", L + 1), ("other", L + 2)]) rfl rfl (by decide) rfl (by decide) rfl rfl rfl ?_
    walk_at "S_go"
    have S₃ := ‹St g₁ L _ _ _›
    refine iterRg hh (S₃.get (.head _)) (by omega) (by omega) S₃ fun I h₇ Si X st S₄ bd _ => ?_
    have S₅ := S₄.drop2
    clear S₃ S₄
    refine ⟨_, _, I, [I], _, _, Si, [], _, any,
      fun i ys mu => mu = [] ∧ StrsAre ys (((List.range i).map (gram y q)).map fun z => sw z), rfl, X, by rw [sizeLine_eq]; omega, st, S₅, by simp, bd, ⟨rfl, .nil⟩, ?_, ?_⟩
    · rintro k v ys m₁ mu₁ g₂ C h₈ tk₈ hi₈ ⟨_, t₈, rfl⟩ ⟨rfl, hs⟩ sub₂ hrest _ S₆
      have hq2 : At g₂ (L + 1, isCell (some (.int q tq))) := hq1.keeps sub₂
      have ho2 : At g₂ (L + 2, isCell (some (.str (sw y) ty))) := hrest _ (by simp)
      clear S₅
      have eg : (y.take (0 + (k : Int) + (q : Int)).toNat).drop (0 + (k : Int)).toNat = gram y q k := by
        unfold gram
        congr <;> omega
      walk_at "S_go"
      refine LcEnd.mk ‹_› ⟨rfl, ?_⟩
      rw [List.range_succ, List.map_append, List.map_append, List.map_singleton, List.map_singleton, ← eg]
      exact strs_snoc hs _ _
    · rintro ys mu₁ D h₈ tk₈ ⟨rfl, hs⟩ S₆
      clear S₅
      walk_at "S_go"
      refine forG_S ?_ (by intro _; rfl)
      walk_at "S_go"
      have S₇ := ‹St g₁ L _ _ _›
      have en : ((y.length : Int) - (q : Int) + 1 - 0).toNat = y.length + 1 - q := by omega
      have em : ((x.length : Int) - (q : Int) + 1 - 0).toNat = x.length + 1 - q := by omega
      rw [en] at hs
      have hl1 : ys.length ≤ 20 := by rw [StrsAre.len_eq hs]; simp; omega
      refine rgLoop (mu := [(D, isL ys)]) (rest := [(sd, isL items), (L + 2, isCell (some (.str (sw y) ty)))])
        (fun i m mu => ∃ vs' lt c t, m "sides" = some (.ref sd) ∧ m "left" = some (.ref D) ∧ m "one" = some (.str (sw x) tx) ∧ m "more" = some (.int c t) ∧ mu = [(D, isL vs')] ∧ StrsAre vs' (lt.map fun z => sw z) ∧ vs'.length ≤ 20 ∧
          c + (unmet ((grams x q).drop i) lt : Int) = (unmet (grams x q) (grams y q) : Int))
        hh (S₇.get (.head _)) (by omega) (by omega) rfl rfl (S₇.sub (by simp) (by walk_at "S_nd")) ⟨ys, grams y q, 0, _, ?_, rfl, ?_, rfl, rfl, hs, hl1, by simp⟩ ?_ ?_
      · trace_state
        exact hsd
      · rfl
      · rintro k t₉ m₂ mu₂ g₃ h₉ tk₉ hk ⟨vs', lt, c₉, u₉, k1, k2, k3, k4, rfl, hs', hlen, hcnt⟩ sub₃ at₃ _ S₈
        clear S₇
        have G₃ := G₁.keeps sub₃
        have hq3 : At g₃ (L + 1, isCell (some (.int q tq))) := hq1.keeps sub₃
        have eg : (x.take (0 + (k : Int) + (q : Int)).toNat).drop (0 + (k : Int)).toNat = gram x q k := by
          unfold gram
          congr <;> omega
        rw [grams_drop (by omega)] at hcnt
        walk_at "S_go"
        · have hin : gram x q k ∈ lt := by rw [← eg]; assumption
          rw [unmet, if_pos hin] at hcnt
          rw [eg]
          refine removeS [] hs' hin (by omega) ‹_› fun h₁₀ vs'' hs'' S₁₀ => ?_
          have hl2 : vs''.length ≤ 20 := by
            have h1 := StrsAre.len_eq hs''
            have h2 := StrsAre.len_eq hs'
            rw [List.length_map] at h1 h2
            have h3 := List.length_erase_le (a := gram x q k) (l := lt)
            omega
          walk_at "S_go"
          exact TurnEnd.next S₁₀ ⟨vs'', lt.erase (gram x q k), c₉, u₉, k1, k2, k3, k4, rfl, hs'', hl2, hcnt⟩
        · have hin : gram x q k ∉ lt := by rw [← eg]; assumption
          rw [unmet, if_neg hin] at hcnt
          have S₉ := ‹St g₃ L _ _ _›
          exact TurnEnd.next S₉ ⟨vs', lt, c₉ + 1, _, k1, k2, k3, rfl, rfl, hs', hlen, by push_cast at hcnt; omega⟩
      · rintro m₂ mu₂ h₉ tk₉ ⟨vs', lt, c₉, u₉, k1, k2, k3, k4, rfl, hs', hlen, hcnt⟩ S₈
        clear S₇
        rw [em, grams_drop_end, unmet] at hcnt
        have hci : c₉ = (unmet (grams x q) (grams y q) : Int) := by simpa using hcnt
        have hi2 : items.length ≤ 1000 := by
          rw [hit.length, List.length_take]; simp; omega
        walk_at "S_go"
        refine TurnEnd.next (mu := [(sd, isL (items ++ [.int c₉ u₉])), (L + 2, isCell (some (.str (sw y) ty)))]) (St.sub ‹St g₁ L _ _ _› (by simp) (by walk_at "S_nd")) ⟨_, _, k1, rfl, ?_⟩
        rw [List.take_add_one, hres, hci]
        exact ints_snoc hit _ _
  · rintro m₁ mu₁ h₅ tk₅ ⟨items, c, hsd, rfl, hit⟩ S₂
    clear S₁
    cases hit with
    | cons _ t1 hit =>
    cases hit with
    | cons _ t2 hit =>
    cases hit
    walk_at "S_go"
    exact ret _ _ _ (St.own0 ‹St g L _ _ _›)
end
end Mine
namespace Mine
local macro_rules | `(tactic| walk_at "S_at") => `(tactic| first | assumption | exact St.get (by assumption) (by k_mem) | exact St.at (by assumption) (by assumption))
local macro_rules | `(tactic| walk_at "S_len") => `(tactic| first | omega | (simp only [List.length_cons, List.length_nil, List.length_set, List.length_append, List.length_map, List.length_range]; omega) | assumption)
local macro_rules | `(tactic| walk_at "eval Name") => `(tactic| first
  | (k_dflt (first
  | ((with_reducible refine' nL ?S ?v ?_ ?a ?b); (case b => rfl); (case a => rfl); (case S => assumption); (case v => first | rfl | assumption))
  | ((with_reducible refine' nK ?S ?G ?e ?_ ?a ?b); (case b => rfl); (case a => rfl); (case S => assumption); (case G => assumption); (case e => k_is))
  | ((with_reducible refine' nB ?S ?G ?e ?v ?n ?_ ?a ?b); (case b => rfl); (case a => rfl); (case S => assumption); (case G => assumption); (case e => k_is); (case v => boot_fast); (case n => decide))
  | ((with_reducible refine' nC ?c ?m ?_ ?a ?b); (case b => rfl); (case a => rfl); (case c => rfl); (case m => walk_at "S_at"))
  | ((with_reducible refine' nF ?c ?m ?_ ?a ?b); (case b => rfl); (case a => rfl); (case c => rfl); (case m => walk_at "S_at"))))
  | (k_dflt (first
  | (refine' nL ?S ?v ?_ ?a ?b; (case b => rfl); (case a => rfl); (case S => assumption); (case v => first | rfl | assumption))
  | (refine' nK ?S ?G ?e ?_ ?a ?b; (case b => rfl); (case a => rfl); (case S => assumption); (case G => assumption); (case e => k_is))
  | (refine' nB ?S ?G ?e ?v ?n ?_ ?a ?b; (case b => rfl); (case a => rfl); (case S => assumption); (case G => assumption); (case e => k_is); (case v => boot_fast); (case n => decide))
  | (refine' nC ?c ?m ?_ ?a ?b; (case b => rfl); (case a => rfl); (case c => rfl); (case m => walk_at "S_at"))
  | (refine' nF ?c ?m ?_ ?a ?b; (case b => rfl); (case a => rfl); (case c => rfl); (case m => walk_at "S_at")))))
local macro_rules | `(tactic| walk_at "loadName") => `(tactic| first
  | (k_dflt ((with_reducible refine' nlL ?S ?v ?_ ?a ?b); (case b => rfl); (case S => assumption); (case a => rfl); (case v => first | rfl | assumption)))
  | (k_dflt (refine' nlL ?S ?v ?_ ?a ?b; (case b => rfl); (case S => assumption); (case a => rfl); (case v => first | rfl | assumption))))
local macro_rules | `(tactic| walk_at "storeName") => `(tactic| first
  | (((with_reducible rename St _ _ _ _ _ => lS); k_dflt (first
  | ((with_reducible refine' stL lS ?_ ?a ?b); (case b => rfl); (case a => rfl))
  | ((with_reducible refine' stC_0 lS ?c ?_ ?a ?b); (case b => rfl); (case a => rfl); (case c => rfl))
  | ((with_reducible refine' stC_1 lS ?c ?_ ?a ?b); (case b => rfl); (case a => rfl); (case c => rfl))
  | ((with_reducible refine' stC_2 lS ?c ?_ ?a ?b); (case b => rfl); (case a => rfl); (case c => rfl))
  | ((with_reducible refine' stC_3 lS ?c ?_ ?a ?b); (case b => rfl); (case a => rfl); (case c => rfl))
  | ((with_reducible refine' stC_4 lS ?c ?_ ?a ?b); (case b => rfl); (case a => rfl); (case c => rfl))); clear lS; intro h' tk' S'))
  | (((with_reducible rename St _ _ _ _ _ => lS); k_dflt (first
  | (refine' stL lS ?_ ?a ?b; (case b => rfl); (case a => rfl))
  | (refine' stC_0 lS ?c ?_ ?a ?b; (case b => rfl); (case a => rfl); (case c => rfl))
  | (refine' stC_1 lS ?c ?_ ?a ?b; (case b => rfl); (case a => rfl); (case c => rfl))
  | (refine' stC_2 lS ?c ?_ ?a ?b; (case b => rfl); (case a => rfl); (case c => rfl))
  | (refine' stC_3 lS ?c ?_ ?a ?b; (case b => rfl); (case a => rfl); (case c => rfl))
  | (refine' stC_4 lS ?c ?_ ?a ?b; (case b => rfl); (case a => rfl); (case c => rfl))); clear lS; intro h' tk' S')))
local macro_rules | `(tactic| walk_at "newList") => `(tactic| ((with_reducible rename St _ _ _ _ _ => lS); k_dflt ((with_reducible refine' newList_S lS ?_ ?z); (case z => first | (rw [PySem.sizeLine_eq]; exact Nat.le_of_ble_eq_true rfl) | decide | size_fits); clear lS; intro l' h' S')))
local macro_rules | `(tactic| walk_at "newTuple") => `(tactic| ((with_reducible rename St _ _ _ _ _ => lS); k_dflt ((with_reducible refine' newTuple_S lS ?_ ?z); (case z => first | (rw [PySem.sizeLine_eq]; exact Nat.le_of_ble_eq_true rfl) | decide | size_fits); clear lS; intro l' h' S')))
local macro_rules | `(tactic| walk_at "call builtin:len") => `(tactic| ((with_reducible show wpAny _ _ (call (Value.builtin "len") [Value.ref _]) _ _ _); k_dflt ((with_reducible refine' lenL ?m ?f ?_); (case m => first | exact isList_of (by walk_at "S_at") | exact isList_lo (by walk_at "S_at")); (case f => walk_at "S_len"); intro _ _)))
local macro_rules | `(tactic| walk_at "subscriptTail") => `(tactic| ((with_reducible show wpAny _ _ (subscriptTail _ _ (Value.ref _) (Value.int _ _)) _ _ _); k_dflt ((with_reducible refine' subL ?m ?a ?b ?c ?_ ?d); (case d => with_unfolding_all rfl); (case m => first | exact isList_of (by walk_at "S_at") | exact isList_lo (by walk_at "S_at")); (case a => first | decide | omega); (case b => first | decide | omega); (case c => first | rfl | assumption))))
local macro_rules | `(tactic| walk_at "setItem ref int") => `(tactic| ((with_reducible rename St _ _ _ _ _ => lS); k_dflt (first
  | ((with_reducible refine' setL_0 lS ?a ?b ?c ?_); (case a => omega); (case b => omega); (case c => walk_at "S_len"))
  | ((with_reducible refine' setL_1 lS ?a ?b ?c ?_); (case a => omega); (case b => omega); (case c => walk_at "S_len"))
  | ((with_reducible refine' setL_2 lS ?a ?b ?c ?_); (case a => omega); (case b => omega); (case c => walk_at "S_len"))
  | ((with_reducible refine' setL_3 lS ?a ?b ?c ?_); (case a => omega); (case b => omega); (case c => walk_at "S_len"))); clear lS; intro h' S'))
local macro_rules | `(tactic| walk_at "S_stop") => `(tactic| ((fail_if_success (with_reducible show wpAny _ _ (exec (Stmt.For _ _ _ _ _) _) _ _ _)); (fail_if_success (with_reducible show wpAny _ _ (pyIter _) _ _ _))))
local macro_rules | `(tactic| walk_at "S_go") => `(tactic| repeat' (walk_at "S_stop"; (first | walk1 | (dsimp only; walk1)); (try dsimp only)))
local macro_rules | `(tactic| walk_at "callWith ref") => `(tactic| ((with_reducible show wpAny _ _ (callWith _ (Value.ref _) _ (backTo _ (starEach [] _)) []) _ _ _); k_dflt ((with_reducible refine' callWith_K0 ?X ?k ?_); (case X => exact (Gd.X (by assumption)).keeps (St.keep (by assumption))); (case k => k_is))))
local macro_rules | `(tactic| walk_at "callWith ref") => `(tactic| ((with_reducible show wpAny _ _ (callWith _ (Value.ref _) _ (backTo _ (starEach (_ :: _) _)) []) _ _ _); k_dflt ((with_reducible refine' callWith_K (h₀ := ?g) ?X ?k ?_ ?a ?b); (case b => rfl); (case a => rfl); (case X => exact Gd.X (by assumption)); (case k => k_is))))
local macro_rules | `(tactic| walk_at "And") => `(tactic| (refine And.intro ((Gd.X (by assumption)).keeps (St.keep (by assumption))) (wpAny_call ?_)))
local macro_rules | `(tactic| walk_at "call builtin:len") => `(tactic| ((with_reducible show wpAny _ _ (call (Value.builtin "len") [Value.str _ _]) _ _ _); k_dflt ((with_reducible refine' lenSw ?f ?_); (case f => first | omega | assumption | (simp only [List.length_cons, List.length_nil, List.length_append, List.length_take, List.length_drop, List.length_range, List.length_map]; omega) | decide))))
local macro_rules | `(tactic| walk_at "S_num") => `(tactic| first | assumption | (simp only [List.length_cons, List.length_nil, List.length_append, List.length_take, List.length_drop, List.length_range, List.length_map]; omega) | omega | decide)
local macro_rules | `(tactic| walk_at "binaryOp Add str str") => `(tactic| (k_dflt ((with_reducible refine' addSw ?z ?_); (case z => walk_at "S_num")); intro _ _))
local macro_rules | `(tactic| walk_at "subscriptTail") => `(tactic| ((with_reducible show wpAny _ _ (subscriptTail _ _ (Value.str (Str.ofString "abc") _) (Value.int _ _)) _ _ _); k_dflt ((with_reducible refine' subABC ?a ?b ?_ ?d ?e); (case d => intro _; with_unfolding_all rfl); (case e => intro _ _; with_unfolding_all rfl); (case a => walk_at "S_num"); (case b => walk_at "S_num"))))
local macro_rules | `(tactic| walk_at "subscriptTail") => `(tactic| ((with_reducible show wpAny _ _ (subscriptTail _ _ (Value.str (sw _) _) (Value.int _ _)) _ _ _); k_dflt ((with_reducible refine' subS ?a ?b ?c ?_ ?d ?e); (case d => with_unfolding_all rfl); (case e => intro _; with_unfolding_all rfl); (case a => omega); (case b => omega); (case c => assumption))))
local macro_rules | `(tactic| walk_at "subscriptTail Name BinOp str int") => `(tactic| ((with_reducible show wpAny _ _ (subscriptTail _ _ (Value.str (sw _) _) (Value.int _ _)) _ _ _); k_dflt ((with_reducible refine' subS ?a ?b ?c ?_ ?d ?e); (case d => with_unfolding_all rfl); (case e => intro _; with_unfolding_all rfl); (case a => omega); (case b => omega); (case c => assumption))))
local macro_rules | `(tactic| walk_at "subscriptTail Name Name str int") => `(tactic| ((with_reducible show wpAny _ _ (subscriptTail _ _ (Value.str (sw _) _) (Value.int _ _)) _ _ _); k_dflt ((with_reducible refine' subS ?a ?b ?c ?_ ?d ?e); (case d => with_unfolding_all rfl); (case e => intro _; with_unfolding_all rfl); (case a => omega); (case b => omega); (case c => assumption))))
local macro_rules | `(tactic| walk_at "subscriptTail") => `(tactic| ((with_reducible show wpAny _ _ (subscriptTail _ (Expr.Slice (some _) (some _) none _) (Value.str _ _) (Value.ref _)) _ _ _); (with_reducible rename St _ _ _ _ _ => lS); k_dflt ((with_reducible refine' sliceSs (s := ⟨_, _, _, _, _⟩) lS ?i ?j ?z ?_ ?a ?b); (case b => intro _; with_unfolding_all rfl); (case a => with_unfolding_all rfl); (case i => walk_at "S_num"); (case j => walk_at "S_num"); (case z => walk_at "S_num")); clear lS; intro h' t' k' S'))
local macro_rules | `(tactic| walk_at "subscriptTail") => `(tactic| ((with_reducible show wpAny _ _ (subscriptTail _ (Expr.Slice (some _) none none _) (Value.str _ _) (Value.ref _)) _ _ _); (with_reducible rename St _ _ _ _ _ => lS); k_dflt ((with_reducible refine' sliceSn (s := ⟨_, _, _, _, _⟩) lS ?i ?z ?_ ?a ?b); (case b => intro _; with_unfolding_all rfl); (case a => with_unfolding_all rfl); (case i => walk_at "S_num"); (case z => walk_at "S_num")); clear lS; intro h' t' k' S'))
local macro_rules | `(tactic| walk_at "subscriptTail") => `(tactic| ((with_reducible show wpAny _ _ (subscriptTail _ (Expr.Slice none (some _) none _) (Value.str _ _) (Value.ref _)) _ _ _); (with_reducible rename St _ _ _ _ _ => lS); k_dflt ((with_reducible refine' sliceNs (s := ⟨_, _, _, _, _⟩) lS ?j ?z ?_ ?a ?b); (case b => intro _; with_unfolding_all rfl); (case a => with_unfolding_all rfl); (case j => walk_at "S_num"); (case z => walk_at "S_num")); clear lS; intro h' t' k' S'))
local macro_rules | `(tactic| walk_at "unpackItems ref") => `(tactic| ((with_reducible rename St _ _ _ _ _ => lS); k_dflt (first
  | ((with_reducible refine' unpackT ?hh ?l lS ?n ?e ?_); (case hh => assumption); (case l => walk_at "S_at"); (case n => first | exact St.neL lS (by k_mem) | assumption); (case e => rfl))
  | ((with_reducible refine' unpackL ?hh ?l lS ?n ?e ?_); (case hh => assumption); (case l => walk_at "S_at"); (case n => first | exact St.neL lS (by k_mem) | assumption); (case e => rfl))); clear lS; intro h' tk' S'))
local macro_rules | `(tactic| walk_at "call type:range") => `(tactic| ((with_reducible rename St _ _ _ _ _ => lS); k_dflt (first | (with_reducible refine' range1S lS ?_) | (with_reducible refine' range2S lS ?_)); clear lS; intro r' h' tk' S'))
local macro_rules | `(tactic| walk_at "call builtin:str.join") => `(tactic| (k_dflt ((with_reducible refine' joinS ?a ?b ?c ?_); (case a => walk_at "S_at"); (case b => assumption); (case c => walk_at "S_num")); intro _ _))
local macro_rules | `(tactic| walk_at "getMethod ref") => `(tactic| (k_dflt (first
  | ((with_reducible refine' getListS PySem.F.slot_list_append PySem.F.type_list_append ?m ?_); (case m => walk_at "S_at"))
  | ((with_reducible refine' getListS PySem.F.slot_list_remove PySem.F.type_list_remove ?m ?_); (case m => walk_at "S_at")))))
local macro_rules | `(tactic| walk_at "call builtin:list.append") => `(tactic| ((with_reducible rename St _ _ _ _ _ => lS); k_dflt (first | ((with_reducible refine' appendS [] lS ?z ?_); (case z => walk_at "S_len")) | ((with_reducible refine' appendS [_] lS ?z ?_); (case z => walk_at "S_len")) | ((with_reducible refine' appendS [_, _] lS ?z ?_); (case z => walk_at "S_len")) | ((with_reducible refine' appendS [_, _, _] lS ?z ?_); (case z => walk_at "S_len")) | ((with_reducible refine' appendS [_, _, _, _] lS ?z ?_); (case z => walk_at "S_len")) | ((with_reducible refine' appendS [_, _, _, _, _] lS ?z ?_); (case z => walk_at "S_len"))); clear lS; intro h' S'))
local macro_rules | `(tactic| walk_at "compareOp In str ref") => `(tactic| (k_dflt ((with_reducible refine' inS ?i ?m ?_); (case i => assumption); (case m => walk_at "S_at"))))
local macro_rules | `(tactic| walk_at "assign Tuple") => `(tactic| ((with_reducible rename St _ _ _ _ _ => lS); (k_dflt ((with_reducible refine' assignTupS ?h lS ?t ?_ ?a ?b); (case t => walk_at "S_at"); (case b => rfl); (case a => rfl); (case h => assumption); clear lS; intro h' S'))))
local macro_rules | `(tactic| walk_at "S_nd") => `(tactic| ((with_reducible rename St _ _ _ _ _ => lS); (have nd := lS.o.nd); (clear lS); first | (simp; done) | ((simp only [List.map_cons, List.map_nil, List.cons_append, List.nil_append, List.append_nil, List.nodup_cons, List.mem_cons, List.not_mem_nil, or_false, not_or, List.nodup_nil, and_true, not_false_eq_true] at nd ⊢); grind)))
local macro_rules | `(tactic| walk_at "call builtin:max") => `(tactic| ((with_reducible show wpAny _ _ (call (Value.builtin "max") [Value.ref _]) _ _ _); (with_reducible rename St _ _ _ _ _ => lS); (k_dflt ((with_reducible refine' max2S ?h ?m lS ?_); (case m => walk_at "S_at"); (case h => assumption); clear lS; intro h' tk' t' S'))))
local macro_rules | `(tactic| walk_at "exec Assign") => `(tactic| (with_reducible refine plainObj_wpAny_Assign_Attribute ?_ ?_; rotate_left; with_unfolding_all rfl))
local macro_rules | `(tactic| walk_at "setAttr ref") => `(tactic| ((with_reducible rename St _ _ _ _ _ => lS); k_dflt (first | ((with_reducible refine' setA [] lS ?G ?x ?s ?p ?t ?h ?l ?z ?_); (case x => walk_at "S_at"); (case l => first | rfl | assumption); (case G => assumption); (case s => k_is); (case p => k_is); (case t => k_is); (case h => k_is); (case z => simp)) | ((with_reducible refine' setA [_] lS ?G ?x ?s ?p ?t ?h ?l ?z ?_); (case x => walk_at "S_at"); (case l => first | rfl | assumption); (case G => assumption); (case s => k_is); (case p => k_is); (case t => k_is); (case h => k_is); (case z => simp)) | ((with_reducible refine' setA [_, _] lS ?G ?x ?s ?p ?t ?h ?l ?z ?_); (case x => walk_at "S_at"); (case l => first | rfl | assumption); (case G => assumption); (case s => k_is); (case p => k_is); (case t => k_is); (case h => k_is); (case z => simp)) | ((with_reducible refine' setA [_, _, _] lS ?G ?x ?s ?p ?t ?h ?l ?z ?_); (case x => walk_at "S_at"); (case l => first | rfl | assumption); (case G => assumption); (case s => k_is); (case p => k_is); (case t => k_is); (case h => k_is); (case z => simp)) | ((with_reducible refine' setA [_, _, _, _] lS ?G ?x ?s ?p ?t ?h ?l ?z ?_); (case x => walk_at "S_at"); (case l => first | rfl | assumption); (case G => assumption); (case s => k_is); (case p => k_is); (case t => k_is); (case h => k_is); (case z => simp))); clear lS; intro h' tk' S'))
local macro_rules | `(tactic| walk_at "getAttr ref") => `(tactic| ((with_reducible rename St _ _ _ _ _ => lS); k_dflt (first | ((with_reducible refine' getA lS ?G ?x ?d ?g ?h ?a ?l ?v ?_); (case x => walk_at "S_at"); (case d => walk_at "S_at"); (case l => first | rfl | assumption); (case G => assumption); (case g => k_is); (case h => k_is); (case a => k_is); (case v => k_handed)) | ((with_reducible refine' smGetA lS ?G ?x ?d ?g ?h ?a ?gf ?ts ?c ?l ?p ?v ?_); (case x => walk_at "S_at"); (case d => walk_at "S_at"); (case l => first | rfl | assumption); (case G => assumption); (case g => k_is); (case h => k_is); (case a => k_is); (case gf => k_is); (case ts => k_is); (case c => decide +kernel); (case p => k_is); (case v => k_handed)))))
local macro_rules | `(tactic| walk_at "getMethod ref") => `(tactic| ((with_reducible rename St _ _ _ _ _ => lS); k_dflt (first | ((with_reducible refine' methA lS ?G ?x ?d ?g ?a ?t ?l ?_); (case x => walk_at "S_at"); (case d => walk_at "S_at"); (case l => first | rfl | assumption); (case G => assumption); (case g => k_is); (case a => k_is); (case t => k_is)) | ((with_reducible refine' ownA lS ?G ?x ?d ?g ?h ?a ?l ?v ?_); (case x => walk_at "S_at"); (case d => walk_at "S_at"); (case l => first | rfl | assumption); (case G => assumption); (case g => k_is); (case h => k_is); (case a => k_is); (case v => k_handed)) | ((with_reducible refine' smA lS ?G ?x ?d ?g ?h ?a ?t ?gf ?ts ?c ?l ?p ?v ?_); (case x => walk_at "S_at"); (case d => walk_at "S_at"); (case l => first | rfl | assumption); (case G => assumption); (case g => k_is); (case h => k_is); (case a => k_is); (case t => k_is); (case gf => k_is); (case ts => k_is); (case c => decide +kernel); (case p => k_is); (case v => k_handed)))))
local macro_rules | `(tactic| walk_at "call type:list") => `(tactic| ((with_reducible rename St _ _ _ _ _ => lS); k_dflt (first | ((with_reducible refine' listTupS ?t lS ?z ?_); (case t => walk_at "S_at"); (case z => simp); clear lS; intro l' h' S') | ((with_reducible refine' listRgS ?h ?t ?a ?b lS ?_); (case t => walk_at "S_at"); (case h => assumption); (case a => omega); (case b => omega); clear lS; intro l' ys' h' tk' hi' S'))))
local macro_rules | `(tactic| walk_at "call builtin:all") => `(tactic| ((with_reducible rename St _ _ _ _ _ => lS); k_dflt ((with_reducible refine' allTupS ?h ?t lS ?a ?b ?_); (case t => walk_at "S_at"); (case h => assumption); (case a => omega); (case b => omega); clear lS; intro h' tk' S')))
local macro_rules | `(tactic| walk_at "call type:map") => `(tactic| ((with_reducible rename St _ _ _ _ _ => lS); k_dflt ((with_reducible refine' mapS ?t lS ?_); (case t => walk_at "S_at"); clear lS; intro M' TI' I' h' S')))
local macro_rules | `(tactic| walk_at "call builtin:max") => `(tactic| ((with_reducible rename St _ _ _ _ _ => lS); k_dflt ((with_reducible refine' maxMapS ?h ?t lS ?a ?b ?_); (case t => walk_at "S_at"); (case h => assumption); (case a => omega); (case b => omega); clear lS; intro h' tk' t' S')))
local macro_rules | `(tactic| walk_at "StarOf ref") => `(tactic| ((with_reducible rename St _ _ _ _ _ => lS); k_dflt (first | ((with_reducible refine' starT lS ?t ?z ?_); (case t => walk_at "S_at"); (case z => simp)) | ((with_reducible refine' starL lS ?t ?z ?_); (case t => walk_at "S_at"); (case z => simp))); clear lS; intro h' S'))
local macro_rules | `(tactic| walk_at "callWith ref") => `(tactic| ((with_reducible show wpAny _ _ (callWith _ (Value.ref _) _ (backTo _ (starEach [Expr.Starred _ _] _)) []) _ _ _); k_dflt ((with_reducible refine' callWith_S (h₀ := ?g) ?X ?k ?_ ?a); (case a => rfl); (case X => exact Gd.X (by assumption)); (case k => k_is))))
local macro_rules | `(tactic| walk_at "callWith ref") => `(tactic| ((with_reducible show wpAny _ _ (callWith _ (Value.ref _) _ (backTo _ (starEach [Expr.Starred _ _] _)) []) _ _ _); k_dflt ((with_reducible refine' kcoS ?x (by assumption) (by assumption) ?_ ?a); (case x => walk_at "S_at"); (case a => rfl))))
local macro_rules | `(tactic| walk_at "And") => `(tactic| ((refine And.intro ?x (wpAny_call ?_)); (case x => walk_at "S_at")))
local macro_rules | `(tactic| walk_at "truthy ref") => `(tactic| (k_dflt ((with_reducible refine' truthyT ?t ?z ?_); (case t => walk_at "S_at"); (case z => simp); intro _)))
local macro_rules | `(tactic| walk_at "call builtin:len") => `(tactic| ((with_reducible show wpAny _ _ (call (Value.builtin "len") [Value.ref _]) _ _ _); k_dflt ((with_reducible refine' lenT ?m (n := ?n) ?f ?z ?_); (case m => walk_at "S_at"); (case f => rfl); (case z => simp); intro _ _; dsimp only [List.length_cons, List.length_nil])))
local macro_rules | `(tactic| walk_at "eval Call Attribute") => `(tactic| ((with_reducible show wpAny _ _ (eval (Expr.Call (Expr.Attribute _ _ _) [Expr.Starred _ _] [] _) _) _ _ _); refine starCall ?_))
local macro_rules | `(tactic| walk_at "binaryOp Mult ref int") => `(tactic| ((with_reducible rename St _ _ _ _ _ => lS); k_dflt ((with_reducible refine' mulL lS ?m ?a ?b ?_); (case m => walk_at "S_at"); (case a => omega); (case b => omega)); clear lS; intro r' h' S'))
local macro_rules | `(tactic| walk_at "binaryOp Add ref ref") => `(tactic| ((with_reducible rename St _ _ _ _ _ => lS); k_dflt ((with_reducible refine' addL lS ?m ?a ?b ?_); (case m => walk_at "S_at"); (case a => walk_at "S_at"); (case b => (simp; omega))); clear lS; intro r' h' S'))
local macro_rules | `(tactic| walk_at "call builtin:min") => `(tactic| ((with_reducible rename St _ _ _ _ _ => lS); k_dflt ((with_reducible refine' min3S ?h lS ?_); (case h => assumption)); clear lS; intro h' tk' t' S'))
local macro_rules | `(tactic| walk_at "assign Tuple") => `(tactic| ((with_reducible rename St _ _ _ _ _ => lS); (k_dflt ((with_reducible refine' assignTupL ?h lS ?t ?l ?_ ?a ?b); (case t => walk_at "S_at"); (case l => exact St.neL lS (by k_mem)); (case b => rfl); (case a => rfl); (case h => assumption); clear lS; intro h' tk' S'))))
local macro_rules | `(tactic| walk_at "eval Dict") => `(tactic| ((with_reducible rename St _ _ _ _ _ => lS); k_dflt ((with_reducible refine' dictS lS ?G ?_); (case G => assumption)); clear lS; intro d' h' hd' S'))
local macro_rules | `(tactic| walk_at "eval Dict nil nil") => `(tactic| ((with_reducible rename St _ _ _ _ _ => lS); k_dflt ((with_reducible refine' dictS lS ?G ?_); (case G => assumption)); clear lS; intro d' h' hd' S'))
local macro_rules | `(tactic| walk_at "setItem ref ref") => `(tactic| ((with_reducible rename St _ _ _ _ _ => lS); k_dflt (first | ((with_reducible refine' dsetS ?u lS ?D ?n ?_); (case D => assumption); (case u => exact Rm.u1 (by assumption) _); (case n => omega)) | ((with_reducible refine' dsetS0 ?u lS ?D ?n ?_); (case D => assumption); (case u => exact Rm.u1 (by assumption) _); (case n => omega))); clear lS; intro h' tk' mu' D' S'))
local macro_rules | `(tactic| walk_at "subscriptTail") => `(tactic| ((with_reducible show wpAny _ _ (subscriptTail _ _ (Value.ref _) (Value.ref _)) _ _ _); (with_reducible rename St _ _ _ _ _ => lS); k_dflt (first | ((with_reducible refine' dgetS ?u lS ?D ?f ?_ ?s); (case s => with_unfolding_all rfl); (case D => assumption); (case u => exact Rm.u1 (by assumption) _); (case f => assumption)) | ((with_reducible refine' dgetS0 ?u lS ?D ?f ?_ ?s); (case s => with_unfolding_all rfl); (case D => assumption); (case u => exact Rm.u1 (by assumption) _); (case f => assumption))); intro t' tk' S'; clear lS))
local macro_rules | `(tactic| walk_at "call builtin:min") => `(tactic| ((with_reducible show wpAny _ _ (call (Value.builtin "min") [_, _, _, _]) _ _ _); (with_reducible rename St _ _ _ _ _ => lS); k_dflt ((with_reducible refine' min4S ?h lS ?_); (case h => assumption)); clear lS; intro h' tk' t' S'))
local macro_rules | `(tactic| walk_at "call type:enumerate") => `(tactic| first
  | (((with_reducible rename St _ _ _ _ _ => lS); k_dflt (first | (with_reducible refine' enum0S lS ?_) | (with_reducible refine' enum1S lS ?_)); clear lS; intro e' it' h' S'))
  | (((with_reducible rename St _ _ _ _ _ => lS); k_dflt (first | refine' enum0S lS ?_ | refine' enum1S lS ?_); clear lS; intro e' it' h' S')))
local macro_rules | `(tactic| walk_at "getMethod ref") => `(tactic| ((with_reducible show wpAny _ _ (getMethod (Value.ref _) (Str.ofString "get") _) _ _ _); k_dflt ((with_reducible refine' daMeth ?m ?_); (case m => walk_at "S_at"))))
local macro_rules | `(tactic| walk_at "call builtin:dict.get") => `(tactic| (k_dflt ((with_reducible refine' daGet ?m ?d ?_); (case m => walk_at "S_at"); (case d => assumption)); intro _ _))
local macro_rules | `(tactic| walk_at "callWith type:enumerate") => `(tactic| ((with_reducible show wpAny _ _ (callWith _ (Value.type _) _ _ (backToKw _ _)) _ _ _); ((with_reducible refine' cwTypeKW ?a ?_ ?b ?c); (case a => rfl); (case b => rfl); (case c => rfl))))
local macro_rules | `(tactic| walk_at "callWith") => `(tactic| ((with_reducible show wpAny _ _ (callWith _ (Value.type _) _ _ (backToKw _ _)) _ _ _); ((with_reducible refine' cwTypeKW ?a ?_ ?b ?c); (case a => rfl); (case b => rfl); (case c => rfl))))
local macro_rules | `(tactic| walk_at "callWith ref") => `(tactic| ((with_reducible show wpAny _ _ (callWith _ (Value.ref _) _ _ (backToKw _ (keywordEach (_ :: _) _))) _ _ _); k_dflt ((with_reducible refine' callWith_KW0 (h₀ := ?g) ?X ?k ?a ?_ ?b); (case a => rfl); (case b => rfl); (case X => exact Gd.X (by assumption)); (case k => k_is))))
local macro_rules | `(tactic| walk_at "call builtin:min") => `(tactic| ((with_reducible show wpAny _ _ (call (Value.builtin "min") [_, _]) _ _ _); (with_reducible rename St _ _ _ _ _ => lS); k_dflt ((with_reducible refine' min2S ?h lS ?_); (case h => assumption)); clear lS; intro h' tk' t' S'))
local macro_rules | `(tactic| walk_at "S_X") => `(tactic| exact (Gd.X (by assumption)).keeps (St.keep (by assumption)))
local macro_rules | `(tactic| walk_at "S_C") => `(tactic| first | exact Or.inl rfl | exact Or.inr ⟨rfl, (Gd.X (by assumption)).keeps (St.keep (by assumption))⟩ | assumption)
local macro_rules | `(tactic| walk_at "getMethod type:dict") => `(tactic| ((with_reducible show wpAny _ _ (getMethod (Value.type "dict") (Str.ofString "__init__") _) _ _ _); ((with_reducible refine' dictInitMeth ?X ?_); (case X => walk_at "S_X"); intro _)))
local macro_rules | `(tactic| walk_at "call builtin:dict.__init__") => `(tactic| ((with_reducible refine' dictInit_M ?X ?m ?_); (case X => walk_at "S_X"); (case m => walk_at "S_at")))
local macro_rules | `(tactic| walk_at "call builtin:isinstance") => `(tactic| ((with_reducible show wpAny _ _ (call (Value.builtin "isinstance") [Value.str _ _, Value.type _]) _ _ _); (with_reducible refine' isiStr ?_); intro _))
local macro_rules | `(tactic| walk_at "call builtin:isinstance") => `(tactic| ((with_reducible show wpAny _ _ (call (Value.builtin "isinstance") [Value.str _ _, Value.ref _]) _ _ _); (with_reducible refine' isiCtr ?X ?_); (case X => walk_at "S_X"); intro _))
local macro_rules | `(tactic| walk_at "call builtin:isinstance") => `(tactic| ((with_reducible show wpAny _ _ (call (Value.builtin "isinstance") [Value.ref _, Value.type _]) _ _ _); (first | ((with_reducible refine' isiList ?m ?_); (case m => walk_at "S_at")) | ((with_reducible refine' isiDict ?c ?m ?_); (case m => walk_at "S_at"); (case c => walk_at "S_C"))); intro _))
local macro_rules | `(tactic| walk_at "getMethod ref") => `(tactic| (k_dflt (first | ((with_reducible refine' methC ?X ?m ?d ?a ?t ?_); (case m => walk_at "S_at"); (case d => walk_at "S_at"); (case X => walk_at "S_X"); (case a => k_is); (case t => k_is)) | ((with_reducible refine' methCF ?X ?m ?d ?a ?t ?_); (case m => walk_at "S_at"); (case d => walk_at "S_at"); (case X => walk_at "S_X"); (case a => k_is); (case t => k_is)))))
local macro_rules | `(tactic| walk_at "S_sub") => `(tactic| first | exact St.keep (by assumption) | exact fun b o e => St.keep (by assumption) b o ((by assumption : Sub _ _) b o e))
local macro_rules | `(tactic| walk_at "setItem ref") => `(tactic| ((with_reducible rename St _ _ _ _ _ => lS); k_dflt (first | ((with_reducible refine' setC [] ?u ?G lS ?M ?k ?j ?z ?_); (case G => assumption); (case M => assumption); (case u => exact Rm.u1 (by assumption) _); (case k => assumption); (case j => walk_at "S_sub"); (case z => omega)) | ((with_reducible refine' setC [_] ?u ?G lS ?M ?k ?j ?z ?_); (case G => assumption); (case M => assumption); (case u => exact Rm.u1 (by assumption) _); (case k => assumption); (case j => walk_at "S_sub"); (case z => omega))); clear lS; intro h' tk' xs' M' k' z' S'))
local macro_rules | `(tactic| walk_at "subscriptTail") => `(tactic| ((with_reducible show wpAny _ _ (subscriptTail _ _ (Value.ref _) _) _ _ _); k_dflt ((with_reducible refine' subC ?u ?c ?m ?M ?k ?j ?i ?_ ?s); (case m => walk_at "S_at"); (case s => with_unfolding_all rfl); (case M => assumption); (case c => walk_at "S_C"); (case u => exact Rm.u1 (by assumption) _); (case k => assumption); (case j => walk_at "S_sub"); (case i => assumption)); intro _ _))
local macro_rules | `(tactic| walk_at "compareOp In") => `(tactic| (k_dflt ((with_reducible refine' inC ?u ?c ?n ?m ?M ?k ?j ?_); (case m => walk_at "S_at"); (case M => assumption); (case c => walk_at "S_C"); (case n => assumption); (case u => exact Rm.u1 (by assumption) _); (case k => assumption); (case j => walk_at "S_sub")); intro _))
local macro_rules | `(tactic| walk_at "call builtin:dict.get") => `(tactic| (k_dflt ((with_reducible refine' getC ?u ?c ?n ?m ?M ?k ?j ?_); (case m => walk_at "S_at"); (case M => assumption); (case c => walk_at "S_C"); (case n => assumption); (case u => exact Rm.u1 (by assumption) _); (case k => assumption); (case j => walk_at "S_sub")); intro _ _))
local macro_rules | `(tactic| walk_at "setItem ref int") => `(tactic| ((with_reducible rename St _ _ _ _ _ => lS); k_dflt (first | ((with_reducible refine' setC [] ?u ?G lS ?M ?k ?j ?z ?_); (case G => assumption); (case M => assumption); (case u => exact Rm.u1 (by assumption) _); (case k => assumption); (case j => walk_at "S_sub"); (case z => omega)) | ((with_reducible refine' setC [_] ?u ?G lS ?M ?k ?j ?z ?_); (case G => assumption); (case M => assumption); (case u => exact Rm.u1 (by assumption) _); (case k => assumption); (case j => walk_at "S_sub"); (case z => omega))); clear lS; intro h' tk' xs' M' k' z' S'))
local macro_rules | `(tactic| walk_at "subscriptTail") => `(tactic| ((with_reducible show wpAny _ _ (subscriptTail _ _ (Value.ref _) (Value.int _ _)) _ _ _); k_dflt ((with_reducible refine' subT ?m ?a ?b ?c ?_ ?d); (case d => with_unfolding_all rfl); (case m => walk_at "S_at"); (case a => first | decide | omega); (case b => first | decide | omega); (case c => first | rfl | assumption))))
local macro_rules | `(tactic| walk_at "subscriptTail") => `(tactic| ((with_reducible show wpAny _ _ (subscriptTail _ (Expr.Slice _ _ _ _) (Value.ref _) (Value.ref _)) _ _ _); (with_reducible rename St _ _ _ _ _ => lS); k_dflt (refine' sliceT (k := 1) (s := ⟨_, _, _, _, _⟩) lS ?m ?a ?b ?c ?_ ?x ?y; (case y => intro _; with_unfolding_all rfl); (case x => with_unfolding_all rfl); (case m => walk_at "S_at"); (case a => decide); (case b => simp); (case c => simp)); clear lS; intro T' h' S'))
local macro_rules | `(tactic| walk_at "binaryOp Sub ref ref") => `(tactic| (k_dflt ((with_reducible refine' subOpC ?X ?a ?b (wpAny_call ?_)); (case a => walk_at "S_at"); (case b => walk_at "S_at"); (case X => walk_at "S_X"))))
local macro_rules | `(tactic| walk_at "inplaceOp BitAnd ref ref") => `(tactic| (k_dflt ((with_reducible refine' iandC ?X ?a ?b (wpAny_call ?_)); (case a => walk_at "S_at"); (case b => walk_at "S_at"); (case X => walk_at "S_X"))))
local macro_rules | `(tactic| walk_at "inplaceOp") => `(tactic| ((with_reducible show wpAny _ _ (inplaceOp Operator.BitAnd (Value.ref _) (Value.ref _)) _ _ _); k_dflt ((with_reducible refine' iandC ?X ?a ?b (wpAny_call ?_)); (case a => walk_at "S_at"); (case b => walk_at "S_at"); (case X => walk_at "S_X"))))
local macro_rules | `(tactic| walk_at "call builtin:getattr") => `(tactic| ((with_reducible show wpAny _ _ (call (Value.builtin "getattr") [_, _, _]) _ _ _); (with_reducible rename St _ _ _ _ _ => lS); k_dflt ((with_reducible refine' asSet ?h ?X ?x ?d ?l ?_); (case x => walk_at "S_at"); (case d => walk_at "S_at"); (case l => first | rfl | assumption); (case X => walk_at "S_X"); (case h => assumption)); intro h' tk' sb'; have S' := St.keeps lS sb'; clear lS sb'))
local macro_rules | `(tactic| walk_at "call builtin:dict.values") => `(tactic| ((with_reducible rename St _ _ _ _ _ => lS); k_dflt ((with_reducible refine' valuesC ?X ?n ?m lS ?_); (case m => walk_at "S_at"); (case n => assumption); (case X => walk_at "S_X")); clear lS; intro v' h' S'))
local macro_rules | `(tactic| walk_at "call builtin:sum") => `(tactic| ((with_reducible rename St _ _ _ _ _ => lS); k_dflt ((with_reducible refine' sumC ?h ?v ?m ?M ?b ?z lS ?_); (case v => walk_at "S_at"); (case m => walk_at "S_at"); (case M => assumption); (case b => assumption); (case z => omega); (case h => assumption)); clear lS; intro h' tk' t' S'))
local macro_rules | `(tactic| walk_at "binaryOp Add str str") => `(tactic| ((with_reducible show wpAny _ _ (binaryOp Operator.Add (Value.str (sw _) _) (Value.str (Str.ofString "a") _)) _ _ _); rw [show (Str.ofString "a") = sw [97] from rfl]))
local macro_rules | `(tactic| walk_at "binaryOp Add str str") => `(tactic| ((with_reducible show wpAny _ _ (binaryOp Operator.Add (Value.str (sw _) _) (Value.str (Str.ofString "ab") _)) _ _ _); rw [show (Str.ofString "ab") = sw [97, 98] from rfl]))
section
variable {prog : Program} {w : World}
/-- how often each piece stands in G -/
def cntF (G : List (List Nat)) : List Nat → Int := fun k => (G.count k : Int)
theorem cntF_snoc (G : List (List Nat)) (k : List Nat) : updK (cntF G) k (cntF G k + 1) = cntF (G ++ [k]) := by
  funext y
  unfold updK cntF
  rw [List.count_append]
  by_cases h : y = k
  · subst h; simp
  · rw [if_neg h, List.count_cons_of_ne (by simpa using fun e : k = y => h e.symm)]; simp
/-- the keys are just those with a number -/
def KeysPos (xs : KV) (f : List Nat → Int) : Prop := ∀ k, k ∈ keysK xs ↔ f k ≠ 0
theorem KeysPos.snoc {xs xs' : KV} {G : List (List Nat)} {k : List Nat} (h : KeysPos xs (cntF G)) (e : keysK xs' = (if k ∈ keysK xs then keysK xs else keysK xs ++ [k])) : KeysPos xs' (cntF (G ++ [k])) := by
  intro y
  rw [e, ← cntF_snoc]
  unfold updK
  have h0 : 0 ≤ cntF G k := by unfold cntF; omega
  by_cases hy : y = k
  · subst hy
    rw [if_pos rfl]
    constructor
    · intro _; omega
    · intro _; split <;> simp_all
  · rw [if_neg hy]
    have := h y
    split
    · exact this
    · rw [List.mem_append, List.mem_singleton]
      exact ⟨fun q => this.mp (q.resolve_right hy), fun q => .inl (this.mpr q)⟩
set_option maxHeartbeats 4000000 in
theorem cinit_str {A : Around} {s : Shared} {g gk : Heap} {R : Result → Shared → Prop} {x dx : Addr} {a : List Nat} {ta : Tok}
  (G : Gd w g) (hgk : Sub gk g) (O : Own g s.heap [(x, isM prog w true (.ref 74) (some dx) []), (dx, isA [])]) (hxs : (x == sysModules) = false) (rm : Rm 4 A) (ha : a.length ≤ 10)
  (ret : ∀ xs h' t', CM prog w true gk xs (cntF (a.map fun c => [c])) → KeysPos xs (cntF (a.map fun c => [c])) → xs.length ≤ 10 → Own g h' [(x, isM prog w true (.ref 74) (some dx) xs), (dx, isA [])] → R (.ok (.ret .none)) { s with heap := h', toks := t' }) :
  codeAny (model prog w) A (.call (.ref 37) ⟨[.ref x, .str (sw a) ta], []⟩) R s := by
  have hh := rm.hh
  refine enter G O (by k_is) (by conv => lhs; whnf) (by conv => lhs; whnf) (by conv => lhs; whnf) (by k_is) rm (binds_K (binds := [("self", .ref x), ("items", .str (sw a) ta)]) (G.X.keeps O.keep) rfl (by k_is) rfl rfl rfl) (locs rfl) (fun L h₁ tk S => ?_) rfl rfl rfl (by decide)
  walk_at "S_go"
  refine forG_S ?_ (by intro _; rfl)
  walk_at "S_go"
  refine strLoop (mu := [(x, isM prog w true (.ref 74) (some dx) [])]) (rest := [(dx, isA [])])
    (fun i m mu => ∃ xs, mu = [(x, isM prog w true (.ref 74) (some dx) xs)] ∧ CM prog w true gk xs (cntF ((a.take i).map fun c => [c])) ∧ KeysPos xs (cntF ((a.take i).map fun c => [c])) ∧ xs.length ≤ i ∧ m "self" = some (.ref x))
    hh rfl rfl S ⟨[], rfl, CM.nil, fun k => by simp [cntF], by simp, rfl⟩ ?_ ?_
  · rintro i t m₁ mu₁ g₁ h₅ tk₅ c hc ⟨xs, rfl, M, hp, hl, e1⟩ sub₁ at₁ _ S₂
    clear S
    have G₁ := G.keeps sub₁
    have sk : Sub gk g₁ := fun b o e => sub₁ b o (hgk b o e)
    have hi : i < a.length := (List.getElem?_eq_some_iff.mp hc).1
    have hdx : At g₁ (dx, isA []) := at₁ _ (by simp)
    have hk : isKey prog w true gk [c] (.str (sw [c]) t) := isKey.one
    walk_at "S_go"
    have S₃ := ‹St g₁ L _ _ _›
    rename_i xs' M' hk' hz' _
    have ea : (a.take (i + 1)).map (fun c => [c]) = (a.take i).map (fun c => [c]) ++ [[c]] := by
      rw [List.take_add_one, hc]; simp
    rw [ea]
    rw [cntF_snoc] at M'
    refine TurnEnd.next (mu := [(x, isM prog w true (.ref 74) (some dx) xs')]) S₃ ⟨xs', rfl, M', hp.snoc hk', by omega, e1⟩
  · rintro m₁ mu₁ h₅ tk₅ ⟨xs, rfl, M, hp, hl, e1⟩ S₂
    clear S
    rw [List.take_length] at M hp
    walk_at "S_go"
    exact ret xs _ _ M hp (by omega) S₂.o
/-- a list of keys -/
def KeysAt (prog : Program) (w : World) (z : Bool) (g : Heap) (vs : List Value) (Gs : List (List Nat)) : Prop := vs.length = Gs.length ∧ ∀ (i : Nat) (v : Value) (k : List Nat), vs[i]? = some v → Gs[i]? = some k → isKey prog w z g k v
set_option maxHeartbeats 4000000 in
theorem cinit_list {A : Around} {s : Shared} {g gk : Heap} {R : Result → Shared → Prop} {x dx l : Addr} {vs : List Value} {Gs : List (List Nat)} {z : Bool}
  (G : Gd w g) (hgk : Sub gk g) (O : Own g s.heap [(x, isM prog w z (.ref 74) (some dx) []), (dx, isA [])]) (hxs : (x == sysModules) = false) (rm : Rm 4 A) (hl : At g (l, isL vs)) (hv : KeysAt prog w z gk vs Gs) (ha : Gs.length ≤ 10)
  (ret : ∀ xs h' t', CM prog w z gk xs (cntF Gs) → KeysPos xs (cntF Gs) → xs.length ≤ 10 → Own g h' [(x, isM prog w z (.ref 74) (some dx) xs), (dx, isA [])] → R (.ok (.ret .none)) { s with heap := h', toks := t' }) :
  codeAny (model prog w) A (.call (.ref 37) ⟨[.ref x, .ref l], []⟩) R s := by
  have hh := rm.hh
  refine enter G O (by k_is) (by conv => lhs; whnf) (by conv => lhs; whnf) (by conv => lhs; whnf) (by k_is) rm (binds_K (binds := [("self", .ref x), ("items", .ref l)]) (G.X.keeps O.keep) rfl (by k_is) rfl rfl rfl) (locs rfl) (fun L h₁ tk S => ?_) rfl rfl rfl (by decide)
  walk_at "S_go"
  refine forG_S ?_ (by intro _; rfl)
  walk_at "S_go"
  have lx : l ≠ x := fun e => by
    obtain ⟨o, ho, _⟩ := hl
    have := (O.own (x, isM prog w z (.ref 74) (some dx) []) (.head _)).2
    rw [← e, ho] at this; cases this
  have lL : l ≠ L := fun e => by
    obtain ⟨o, ho, _⟩ := hl
    have := S.offg
    rw [← e, ho] at this; cases this
  refine listLoop (vs := vs) (mu := [(x, isM prog w z (.ref 74) (some dx) [])]) (rest := [(dx, isA [])])
    (fun i m mu => ∃ xs, mu = [(x, isM prog w z (.ref 74) (some dx) xs)] ∧ CM prog w z gk xs (cntF (Gs.take i)) ∧ KeysPos xs (cntF (Gs.take i)) ∧ xs.length ≤ i ∧ m "self" = some (.ref x))
    hh (S.at hl) lL (by intro p hp; rw [List.mem_singleton.mp hp]; exact fun e => lx e.symm) rfl rfl S ⟨[], rfl, CM.nil, fun k => by simp [cntF], by simp, rfl⟩ ?_ ?_
  · rintro i y m₁ mu₁ g₁ h₅ tk₅ hc ⟨xs, rfl, M, hp, hl', e1⟩ sub₁ at₁ _ S₂
    clear S
    have G₁ := G.keeps sub₁
    have sk : Sub gk g₁ := fun b o e => sub₁ b o (hgk b o e)
    have hi : i < vs.length := (List.getElem?_eq_some_iff.mp hc).1
    have hi2 : i < Gs.length := hv.1 ▸ hi
    have hdx : At g₁ (dx, isA []) := at₁ _ (by simp)
    obtain ⟨k, hkk⟩ : ∃ k, Gs[i]? = some k := ⟨_, List.getElem?_eq_getElem hi2⟩
    have hk : isKey prog w z gk k y := hv.2 i y k hc hkk
    walk_at "S_go"
    have S₃ := ‹St g₁ L _ _ _›
    rename_i xs' M' hk' hz' _
    have ea : Gs.take (i + 1) = Gs.take i ++ [k] := by
      rw [List.take_add_one, hkk]; simp
    rw [ea]
    rw [cntF_snoc] at M'
    exact TurnEnd.next (mu := [(x, isM prog w z (.ref 74) (some dx) xs')]) S₃ ⟨xs', rfl, M', hp.snoc hk', by omega, e1⟩
  · rintro m₁ mu₁ h₅ tk₅ ⟨xs, rfl, M, hp, hl', e1⟩ S₂
    clear S
    rw [hv.1, List.take_length] at M hp
    walk_at "S_go"
    exact ret xs _ _ M hp (by have := hv.1; omega) S₂.o
set_option maxHeartbeats 4000000 in
theorem cinit_dict {A : Around} {s : Shared} {g gk : Heap} {R : Result → Shared → Prop} {x dx d : Addr} {ys : KV} {f : List Nat → Int} {z : Bool} {C : Value} {odx : Option Addr}
  (G : Gd w g) (hgk : Sub gk g) (O : Own g s.heap [(x, isM prog w z (.ref 74) (some dx) []), (dx, isA [])]) (hxs : (x == sysModules) = false) (rm : Rm 4 A) (hC : C = .type "dict" ∨ C = .ref 74) (hds : (d == sysModules) = false) (hd : At g (d, isM prog w z C odx ys)) (MY : CM prog w z gk ys f) (ha : ys.length ≤ 10)
  (ret : ∀ xs h' t', CM prog w z gk xs f → keysK xs = keysK ys → Own g h' [(x, isM prog w z (.ref 74) (some dx) xs), (dx, isA [])] → R (.ok (.ret .none)) { s with heap := h', toks := t' }) :
  codeAny (model prog w) A (.call (.ref 37) ⟨[.ref x, .ref d], []⟩) R s := by
  have hh := rm.hh
  refine enter G O (by k_is) (by conv => lhs; whnf) (by conv => lhs; whnf) (by conv => lhs; whnf) (by k_is) rm (binds_K (binds := [("self", .ref x), ("items", .ref d)]) (G.X.keeps O.keep) rfl (by k_is) rfl rfl rfl) (locs rfl) (fun L h₁ tk S => ?_) rfl rfl rfl (by decide)
  have hCh : ∀ {h : Heap}, Sub g h → (C = .type "dict" ∨ (C = .ref 74 ∧ (K1 w.params).In h)) := fun sb => hC.imp_right fun e => ⟨e, G.X.keeps sb⟩
  have hC₁ := hCh S.keep
  walk_at "S_go"
  refine forG_S ?_ (by intro _; rfl)
  walk_at "S_go"
  have lx : d ≠ x := fun e => by
    obtain ⟨o, ho, _⟩ := hd
    have := (O.own (x, isM prog w z (.ref 74) (some dx) []) (.head _)).2
    rw [← e, ho] at this; cases this
  have lL : d ≠ L := fun e => by
    obtain ⟨o, ho, _⟩ := hd
    have := S.offg
    rw [← e, ho] at this; cases this
  refine dictLoop (xs := ys) (mu := [(x, isM prog w z (.ref 74) (some dx) [])]) (rest := [(dx, isA [])])
    (fun i m mu => ∃ xs, mu = [(x, isM prog w z (.ref 74) (some dx) xs)] ∧ CM prog w z gk xs (fun k => if k ∈ (keysK ys).take i then f k else 0) ∧ keysK xs = (keysK ys).take i ∧ xs.length ≤ i ∧ m "self" = some (.ref x) ∧ m "items" = some (.ref d))
    hh hC₁ hds (S.at hd) lL (by intro p hp; rw [List.mem_singleton.mp hp]; exact fun e => lx e.symm) rfl rfl S ⟨[], rfl, ?_, by simp, by simp, rfl, rfl⟩ ?_ ?_
  · have : (fun k => if k ∈ (keysK ys).take 0 then f k else 0) = fun _ => 0 := by funext k; simp
    rw [this]; exact CM.nil
  · rintro i y m₁ mu₁ g₁ h₅ tk₅ hc ⟨xs, rfl, M, hp, hl', e1, e2⟩ sub₁ at₁ _ S₂
    clear S
    have G₁ := G.keeps sub₁
    have sk : Sub gk g₁ := fun b o e => sub₁ b o (hgk b o e)
    have hi : i < ys.length := (List.getElem?_eq_some_iff.mp hc).1
    have hy : y ∈ ys := List.mem_of_getElem? hc
    have hd₁ := hd.keeps sub₁
    have hk : isKey prog w z gk y.1 y.2.1 := MY.keys.is y hy
    have hin : y.1 ∈ keysK ys := List.mem_map_of_mem hy
    have hC₂ := hCh (fun b o e => S₂.keep b o (sub₁ b o e))
    walk_at "S_go"
    have S₃ := ‹St g₁ L _ _ _›
    rename_i xs' M' hk' hz' _
    have hnk : (keysK ys)[i]? = some y.1 := by show (ys.map (·.1))[i]? = _; rw [List.getElem?_map, hc]; rfl
    have ek : (keysK ys).take (i + 1) = (keysK ys).take i ++ [y.1] := by rw [List.take_add_one, hnk]; rfl
    have hnot : y.1 ∉ (keysK ys).take i := fun q => by
      have nd := MY.keys.nd
      have := List.take_append_drop i (keysK ys)
      rw [show ys.map (·.1) = keysK ys from rfl, ← this, List.nodup_append] at nd
      obtain ⟨hlt, he⟩ := List.getElem?_eq_some_iff.mp hnk
      exact nd.2.2 _ q _ (by rw [List.drop_eq_getElem_cons hlt, he]; exact .head _) rfl
    refine TurnEnd.next (mu := [(x, isM prog w z (.ref 74) (some dx) xs')]) S₃ ⟨xs', rfl, ?_, ?_, by omega, e1, e2⟩
    · have ef : (fun k => if k ∈ (keysK ys).take (i + 1) then f k else 0) = updK (fun k => if k ∈ (keysK ys).take i then f k else 0) y.1 (f y.1) := by
        funext k
        unfold updK
        rw [ek]
        by_cases e : k = y.1
        · subst e; simp
        · simp [e]
      rw [ef]; exact M'
    · rw [hk', hp, if_neg hnot, ek]
  · rintro m₁ mu₁ h₅ tk₅ ⟨xs, rfl, M, hp, hl', e1, e2⟩ S₂
    clear S
    have el : (keysK ys).take ys.length = keysK ys := List.take_of_length_le (by simp)
    rw [el] at M hp
    have ef : (fun k => if k ∈ keysK ys then f k else 0) = f := by
      funext k
      by_cases e : k ∈ keysK ys
      · rw [if_pos e]
      · rw [if_neg e, MY.off k e]
    rw [ef] at M
    walk_at "S_go"
    exact ret xs _ _ M hp S₂.o
end
section
variable {prog : Program} {w : World}
abbrev isCt (prog : Program) (w : World) (z : Bool) (dx : Addr) (xs : KV) : Obj → Prop := isM prog w z (.ref 74) (some dx) xs
theorem ctr_open {A : Around} {s : Shared} {g : Heap} {R : Result → Shared → Prop} {b : Value} (z : Bool) (G : Gd w g) (O : Own g s.heap [])
  (h : ∀ x dx h', (x == sysModules) = false → Own g h' [(x, isCt prog w z dx []), (dx, isA [])] →
    codeAny (model prog w) (A.under (.builtin "type.__call__" ⟨[.ref 74, b], []⟩)) (.call (.ref 37) ⟨[.ref x, b], []⟩) (InitBack x R) { s with heap := h' }) :
  codeAny (model prog w) A (.call (.ref 74) ⟨[b], []⟩) R s := by
  obtain ⟨hp, gs, d, t, os⟩ := s
  have O₁ := O.push (P := isA []) emptyDict ⟨[], 0, rfl, .nil⟩
  have O₂ := O₁.push (P := isCt prog w z hp.objs.size []) (ctrObj hp.objs.size) ⟨rfl, rfl, rfl, #[], 0, rfl, rfl⟩
  rw [Heap.size_push] at O₂
  have lo := modules_low (G.nolimit.keeps O.keep)
  exact ctr_make (G.X.keeps O.keep) (h _ _ _ (beq_eq_false_iff_ne.mpr (Nat.ne_of_gt (Nat.lt_succ_of_lt lo))) O₂)
theorem ctr_str {A : Around} {s : Shared} {g gk : Heap} {R : Result → Shared → Prop} {a : List Nat} {ta : Tok} (G : Gd w g) (hgk : Sub gk g) (O : Own g s.heap []) (rm : Rm 5 A) (ha : a.length ≤ 10)
  (ret : ∀ x dx xs h' t', (x == sysModules) = false → CM prog w true gk xs (cntF (a.map fun c => [c])) → KeysPos xs (cntF (a.map fun c => [c])) → xs.length ≤ 10 → Own g h' [(x, isCt prog w true dx xs), (dx, isA [])] → R (.ok (.ret (.ref x))) { s with heap := h', toks := t' }) :
  codeAny (model prog w) A (.call (.ref 74) ⟨[.str (sw a) ta], []⟩) R s := by
  refine ctr_open true G O fun x dx h' hx O' => ?_
  exact cinit_str G hgk O' hx (rm.make _ _ _) ha fun xs h₂ t₂ M hp hl O₂ => ⟨rfl, ret x dx xs h₂ t₂ hx M hp hl O₂⟩
theorem ctr_list {A : Around} {s : Shared} {g gk : Heap} {R : Result → Shared → Prop} {l : Addr} {vs : List Value} {Gs : List (List Nat)} {z : Bool} (G : Gd w g) (hgk : Sub gk g) (O : Own g s.heap []) (rm : Rm 5 A) (hl : At g (l, isL vs)) (hv : KeysAt prog w z gk vs Gs) (ha : Gs.length ≤ 10)
  (ret : ∀ x dx xs h' t', (x == sysModules) = false → CM prog w z gk xs (cntF Gs) → KeysPos xs (cntF Gs) → xs.length ≤ 10 → Own g h' [(x, isCt prog w z dx xs), (dx, isA [])] → R (.ok (.ret (.ref x))) { s with heap := h', toks := t' }) :
  codeAny (model prog w) A (.call (.ref 74) ⟨[.ref l], []⟩) R s := by
  refine ctr_open z G O fun x dx h' hx O' => ?_
  exact cinit_list G hgk O' hx (rm.make _ _ _) hl hv ha fun xs h₂ t₂ M hp hl O₂ => ⟨rfl, ret x dx xs h₂ t₂ hx M hp hl O₂⟩
theorem ctr_dict {A : Around} {s : Shared} {g gk : Heap} {R : Result → Shared → Prop} {d : Addr} {ys : KV} {f : List Nat → Int} {z : Bool} {C : Value} {odx : Option Addr} (G : Gd w g) (hgk : Sub gk g) (O : Own g s.heap []) (rm : Rm 5 A)
  (hC : C = .type "dict" ∨ C = .ref 74) (hds : (d == sysModules) = false) (hd : At g (d, isM prog w z C odx ys)) (MY : CM prog w z gk ys f) (ha : ys.length ≤ 10)
  (ret : ∀ x dx xs h' t', (x == sysModules) = false → CM prog w z gk xs f → keysK xs = keysK ys → Own g h' [(x, isCt prog w z dx xs), (dx, isA [])] → R (.ok (.ret (.ref x))) { s with heap := h', toks := t' }) :
  codeAny (model prog w) A (.call (.ref 74) ⟨[.ref d], []⟩) R s := by
  refine ctr_open z G O fun x dx h' hx O' => ?_
  exact cinit_dict G hgk O' hx (rm.make _ _ _) hC hds hd MY ha fun xs h₂ t₂ M hk O₂ => ⟨rfl, ret x dx xs h₂ t₂ hx M hk O₂⟩
set_option maxHeartbeats 4000000 in
/-- Counter.copy -/
theorem copy_ct {A : Around} {s : Shared} {g gk : Heap} {R : Result → Shared → Prop} {d dd : Addr} {ys : KV} {f : List Nat → Int} {z : Bool} (G : Gd w g) (hgk : Sub gk g) (O : Own g s.heap []) (rm : Rm 6 A)
  (hds : (d == sysModules) = false) (hd : At g (d, isCt prog w z dd ys)) (MY : CM prog w z gk ys f) (ha : ys.length ≤ 10)
  (ret : ∀ x dx xs h' t', (x == sysModules) = false → CM prog w z gk xs f → keysK xs = keysK ys → Own g h' [(x, isCt prog w z dx xs), (dx, isA [])] → R (.ok (.ret (.ref x))) { s with heap := h', toks := t' }) :
  codeAny (model prog w) A (.call (.ref 44) ⟨[.ref d], []⟩) R s := by
  have hh := rm.hh
  refine enter G O (by k_is) (by conv => lhs; whnf) (by conv => lhs; whnf) (by conv => lhs; whnf) (by k_is) rm (.of_eq (binds := [("self", .ref d)]) rfl) (locs rfl) (fun L h₁ tk S => ?_) rfl rfl rfl (by decide)
  walk_at "S_go"
  have S₁ := ‹St g L _ _ _›
  refine ctr_dict (G.keeps S₁.keep) (fun b o e => S₁.keep b o (hgk b o e)) (Own.refl _) ((rm.deeper _).mono (by omega)) (.inr rfl) hds (hd.keeps S₁.keep) MY ha fun x dx xs h₂ t₂ hx M hk O₂ => ?_
  exact ret x dx xs _ _ hx M hk (S₁.call2 O₂).o
end
section
variable {prog : Program} {w : World}
theorem key_at {xs : KV} {i : Nat} {y : List Nat × Value × Value} (nd : (xs.map (·.1)).Nodup) (hy : xs[i]? = some y) : (keysK xs).take (i + 1) = (keysK xs).take i ++ [y.1] ∧ y.1 ∉ (keysK xs).take i := by
  have hnk : (keysK xs)[i]? = some y.1 := by show (xs.map (·.1))[i]? = _; rw [List.getElem?_map, hy]; rfl
  refine ⟨by rw [List.take_add_one, hnk]; rfl, fun q => ?_⟩
  have := List.take_append_drop i (keysK xs)
  rw [show xs.map (·.1) = keysK xs from rfl, ← this, List.nodup_append] at nd
  obtain ⟨hlt, he⟩ := List.getElem?_eq_some_iff.mp hnk
  exact nd.2.2 _ q _ (by rw [List.drop_eq_getElem_cons hlt, he]; exact .head _) rfl
/-- what a filtering comprehension keeps: h by the keys so far, where it is above nought -/
def Kept (xs : KV) (h : List Nat → Int) (i : Nat) (zs : KV) (f' : List Nat → Int) : Prop := f' = (fun k => if k ∈ (keysK xs).take i then h k else 0) ∧ ∀ k, k ∈ keysK zs ↔ (k ∈ (keysK xs).take i ∧ 0 < h k)
theorem Kept.zero {xs : KV} {h : List Nat → Int} : Kept xs h 0 [] (fun _ => 0) := ⟨by funext k; simp, by simp⟩
theorem Kept.no {xs zs : KV} {h f' : List Nat → Int} {i : Nat} {y : List Nat × Value × Value} (nd : (xs.map (·.1)).Nodup) (hy : xs[i]? = some y) (K : Kept xs h i zs f') (h0 : h y.1 = 0) : Kept xs h (i + 1) zs f' := by
  obtain ⟨e1, e2⟩ := key_at nd hy
  refine ⟨?_, fun k => ?_⟩
  · rw [K.1]
    funext k
    rw [e1]
    by_cases hk : k = y.1
    · subst hk; simp [e2, h0]
    · simp [hk]
  · rw [K.2, e1]
    by_cases hk : k = y.1
    · subst hk; simp [h0]
    · simp [hk]
theorem Kept.yes {xs zs zs' : KV} {h f' : List Nat → Int} {i : Nat} {y : List Nat × Value × Value} (nd : (xs.map (·.1)).Nodup) (hy : xs[i]? = some y) (K : Kept xs h i zs f') (h0 : 0 < h y.1)
  (hz : keysK zs' = (if y.1 ∈ keysK zs then keysK zs else keysK zs ++ [y.1])) : Kept xs h (i + 1) zs' (updK f' y.1 (h y.1)) := by
  obtain ⟨e1, e2⟩ := key_at nd hy
  refine ⟨?_, fun k => ?_⟩
  · rw [K.1]
    funext k
    unfold updK
    rw [e1]
    by_cases hk : k = y.1
    · subst hk; simp
    · simp [hk]
  · have hn : y.1 ∉ keysK zs := fun q => e2 ((K.2 _).mp q).1
    rw [hz, if_neg hn, List.mem_append, K.2, e1]
    by_cases hk : k = y.1
    · subst hk; simp [h0]
    · simp [hk]
theorem Kept.end {xs zs : KV} {h f' : List Nat → Int} {i : Nat} (K : Kept xs h i zs f') (hi : i = xs.length) (h0 : ∀ k, k ∉ keysK xs → h k = 0) (hp : ∀ k, 0 ≤ h k) : f' = h ∧ KeysPos zs h := by
  have el : (keysK xs).take i = keysK xs := List.take_of_length_le (by simp [hi])
  obtain ⟨a, b⟩ := K
  rw [el] at a b
  refine ⟨?_, fun k => ?_⟩
  · rw [a]; funext k
    by_cases hk : k ∈ keysK xs
    · rw [if_pos hk]
    · rw [if_neg hk, h0 k hk]
  · rw [b]
    constructor
    · intro q; omega
    · intro q
      have := hp k
      refine ⟨?_, by omega⟩
      by_cases hk : k ∈ keysK xs
      · exact hk
      · exact absurd (h0 k hk) q
set_option maxHeartbeats 4000000 in
/-- Counter & Counter -/
theorem and_ct {A : Around} {s : Shared} {g gk : Heap} {R : Result → Shared → Prop} {c dc e de : Addr} {xs ys : KV} {f f2 : List Nat → Int} {z : Bool} (G : Gd w g) (hgk : Sub gk g) (O : Own g s.heap []) (rm : Rm 6 A)
  (hcs : (c == sysModules) = false) (hc : At g (c, isCt prog w z dc xs)) (MX : CM prog w z gk xs f) (ha : xs.length ≤ 10)
  (hes : (e == sysModules) = false) (he : At g (e, isCt prog w z de ys)) (MY : CM prog w z gk ys f2) (hx0 : KeysPos xs f) (hy0 : KeysPos ys f2) (p1 : ∀ k, 0 ≤ f k) (p2 : ∀ k, 0 ≤ f2 k)
  (ret : ∀ x dx zs h' t', (x == sysModules) = false → CM prog w z gk zs (fun k => min (f k) (f2 k)) → KeysPos zs (fun k => min (f k) (f2 k)) → zs.length ≤ 10 → Own g h' [(x, isCt prog w z dx zs), (dx, isA [])] → R (.ok (.ret (.ref x))) { s with heap := h', toks := t' }) :
  codeAny (model prog w) A (.call (.ref 49) ⟨[.ref c, .ref e], []⟩) R s := by
  have hh := rm.hh
  refine enterC (fun L => [("other", L + 2), ("self", L + 1)]) (fun L => [(L + 2, isCell (some (.ref e))), (L + 1, isCell (some (.ref c)))]) G O (by k_is) (by conv => lhs; whnf) (by conv => lhs; whnf) (by conv => lhs; whnf) (by k_is) rm (.of_eq (binds := [("self", .ref c), ("other", .ref e)]) rfl) rfl (fun L => by rfl) (fun L => rfl) (by decide) (fun L h₁ tk S => ?_) rfl rfl rfl
  walk_at "S_go"
  refine dcS (cl := [("self", L + 1), ("other", L + 2)]) (by have := rm.u; show A.units + 3 < 9900; omega) rfl (by decide) rfl (by decide) rfl ?_
  walk_at "S_go"
  refine iter_M hh (.inr ⟨rfl, G.X.keeps S.keep⟩) hcs (S.at hc) S fun I h₅ Si X st S₅ bd _ _ => ?_
  clear S
  refine ⟨z, gk, g, _, I, _, _, _, Si, _, any, Kept xs (fun k => min (f k) (f2 k)), rfl, X, by omega, hgk, G, st, S₅, bd, Kept.zero, ?_, ?_⟩
  · rintro i v zs f' m₁ g₁ C h₆ tk₆ hi ⟨y, hy, rfl⟩ hz M sub hrest S₆
    clear S₅
    have G₁ := G.keeps sub
    have sk : Sub gk g₁ := fun b o e => sub b o (hgk b o e)
    have c1 : At g₁ (L + 2, isCell (some (.ref e))) := hrest _ (by simp)
    have c2 : At g₁ (L + 1, isCell (some (.ref c))) := hrest _ (by simp)
    have hc₁ := hc.keeps sub
    have he₁ := he.keeps sub
    have hk : isKey prog w z gk y.1 y.2.1 := MX.keys.is y (List.mem_of_getElem? hy)
    have hin : y.1 ∈ keysK xs := List.mem_map_of_mem (List.mem_of_getElem? hy)
    unfold Tests
    walk_at "S_go"
    · have S₇ := ‹St g₁ C _ _ _›
      have hpos := ‹0 < min (f y.1) (f2 y.1)›
      refine DcTest.yes S₇ ?_
      walk_at "S_go"
      exact DcEnd.mk ‹St g₁ C _ _ _› hk fun zs' M' k' => Kept.yes MX.keys.nd hy hz hpos k'
    · have S₇ := ‹St g₁ C _ _ _›
      have hpos := ‹¬ 0 < min (f y.1) (f2 y.1)›
      have := p1 y.1
      have := p2 y.1
      exact DcTest.no S₇ (Kept.no MX.keys.nd hy hz (by omega))
    · have S₇ := ‹St g₁ C _ _ _›
      have hno := ‹¬ y.1 ∈ keysK ys›
      have := p1 y.1
      have := MY.off _ hno
      exact DcTest.no S₇ (Kept.no MX.keys.nd hy hz (by omega))
  · rintro zs f' D h₆ tk₆ hDs hz M hl S₆
    obtain ⟨rfl, hkp⟩ := hz.end rfl (fun k hk => by have := MX.off k hk; have := p2 k; omega) fun k => by have := p1 k; have := p2 k; omega
    clear S₅
    walk_at "S_go"
    have S₇ := ‹St g L _ _ _›
    refine ctr_dict (G.keeps S₇.keep) (fun b o e => S₇.keep b o (hgk b o e)) (Own.refl _) ((rm.deeper _).mono (by omega)) (.inl rfl) hDs (S₇.get (.head _)) M (by omega) fun x dx xs' h₂ t₂ hx M' hk' O₂ => ?_
    have el : xs'.length = zs.length := by have := congrArg List.length hk'; simpa using this
    exact ret x dx xs' _ _ hx M' (fun k => by rw [hk']; exact hkp k) (by omega) ((S₇.call2 O₂).o.sub (by simp) (by have nd := O₂.nd; exact nd))
end
section
variable {prog : Program} {w : World}
/-- what a comprehension without a test keeps -/
def AllK (xs : KV) (h : List Nat → Int) (i : Nat) (zs : KV) (f' : List Nat → Int) : Prop := f' = (fun k => if k ∈ (keysK xs).take i then h k else 0) ∧ keysK zs = (keysK xs).take i
theorem AllK.zero {xs : KV} {h : List Nat → Int} : AllK xs h 0 [] (fun _ => 0) := ⟨by funext k; simp, by simp⟩
theorem AllK.more {xs zs zs' : KV} {h f' : List Nat → Int} {i : Nat} {y : List Nat × Value × Value} (nd : (xs.map (·.1)).Nodup) (hy : xs[i]? = some y) (K : AllK xs h i zs f')
  (hz : keysK zs' = (if y.1 ∈ keysK zs then keysK zs else keysK zs ++ [y.1])) : AllK xs h (i + 1) zs' (updK f' y.1 (h y.1)) := by
  obtain ⟨e1, e2⟩ := key_at nd hy
  refine ⟨?_, ?_⟩
  · rw [K.1]
    funext k
    unfold updK
    rw [e1]
    by_cases hk : k = y.1
    · subst hk; simp
    · simp [hk]
  · have hn : y.1 ∉ keysK zs := by rw [K.2]; exact e2
    rw [hz, if_neg hn, K.2, e1]
theorem AllK.end {xs zs : KV} {h f' : List Nat → Int} {i : Nat} (K : AllK xs h i zs f') (hi : i = xs.length) : f' = (fun k => if k ∈ keysK xs then h k else 0) ∧ keysK zs = keysK xs := by
  have el : (keysK xs).take i = keysK xs := List.take_of_length_le (by simp [hi])
  obtain ⟨a, b⟩ := K
  rw [el] at a b
  exact ⟨a, b⟩
set_option maxHeartbeats 4000000 in
/-- Counter - Counter -/
theorem sub_ct {A : Around} {s : Shared} {g gk : Heap} {R : Result → Shared → Prop} {c dc e de : Addr} {xs ys : KV} {f f2 : List Nat → Int} {z : Bool} (G : Gd w g) (hgk : Sub gk g) (O : Own g s.heap []) (rm : Rm 6 A)
  (hcs : (c == sysModules) = false) (hc : At g (c, isCt prog w z dc xs)) (MX : CM prog w z gk xs f) (ha : xs.length ≤ 10)
  (hes : (e == sysModules) = false) (he : At g (e, isCt prog w z de ys)) (hde : At g (de, isA [])) (MY : CM prog w z gk ys f2) (p2 : ∀ k, 0 ≤ f2 k)
  (ret : ∀ x dx zs h' t', (x == sysModules) = false → CM prog w z gk zs (fun k => max 0 (f k - f2 k)) → KeysPos zs (fun k => max 0 (f k - f2 k)) → zs.length ≤ 10 → Own g h' [(x, isCt prog w z dx zs), (dx, isA [])] → R (.ok (.ret (.ref x))) { s with heap := h', toks := t' }) :
  codeAny (model prog w) A (.call (.ref 71) ⟨[.ref c, .ref e], []⟩) R s := by
  have hh := rm.hh
  refine enterC (fun L => [("rows", L + 3), ("other", L + 2), ("self", L + 1)]) (fun L => [(L + 3, isCell none), (L + 2, isCell (some (.ref e))), (L + 1, isCell (some (.ref c)))]) G O (by k_is) (by conv => lhs; whnf) (by conv => lhs; whnf) (by conv => lhs; whnf) (by k_is) rm (.of_eq (binds := [("self", .ref c), ("other", .ref e)]) rfl) rfl (fun L => by rfl) (fun L => rfl) (by decide) (fun L h₁ tk S => ?_) rfl rfl rfl
  walk_at "S_go"
  refine dcS (cl := [("self", L + 1), ("other", L + 2)]) (by have := rm.u; show A.units + 3 < 9900; omega) rfl (by decide) rfl (by decide) rfl ?_
  walk_at "S_go"
  refine iter_M hh (.inr ⟨rfl, G.X.keeps S.keep⟩) hcs (S.at hc) S fun I h₅ Si X st S₅ bd _ _ => ?_
  clear S
  refine ⟨z, gk, g, _, I, _, _, _, Si, _, any, AllK xs (fun k => f k - f2 k), rfl, X, by omega, hgk, G, st, S₅, bd, AllK.zero, ?_, ?_⟩
  · rintro i v zs f' m₁ g₁ C h₆ tk₆ hi ⟨y, hy, rfl⟩ hz M sub hrest S₆
    clear S₅
    have G₁ := G.keeps sub
    have sk : Sub gk g₁ := fun b o e => sub b o (hgk b o e)
    have c1 : At g₁ (L + 2, isCell (some (.ref e))) := hrest _ (by simp)
    have c2 : At g₁ (L + 1, isCell (some (.ref c))) := hrest _ (by simp)
    have hc₁ := hc.keeps sub
    have he₁ := he.keeps sub
    have hde₁ := hde.keeps sub
    have hk : isKey prog w z gk y.1 y.2.1 := MX.keys.is y (List.mem_of_getElem? hy)
    have hin : y.1 ∈ keysK xs := List.mem_map_of_mem (List.mem_of_getElem? hy)
    unfold Tests
    refine DcTest.yes S₆ ?_
    walk_at "S_go"
    exact DcEnd.mk ‹St g₁ C _ _ _› hk fun zs' M' k' => AllK.more MX.keys.nd hy hz k'
  · rintro rs f' D h₆ tk₆ hDs hz MR hl S₆
    obtain ⟨rfl, hkr⟩ := hz.end rfl
    clear S₅ X hz st
    walk_at "S_go"
    have S₇ := ‹St g L _ _ _›
    refine dcS (cl := [("rows", L + 3)]) (by have := rm.u; show A.units + 3 < 9900; omega) rfl (by decide) rfl (by decide) rfl ?_
    walk_at "S_go"
    refine iter_M hh (.inl rfl) hDs (S₇.get (.head _)) S₇ fun I h₈ Si X st S₈ bd _ _ => ?_
    clear S₇
    refine ⟨z, gk, g, _, I, _, _, _, Si, _, any, Kept rs (fun k => max 0 (f k - f2 k)), rfl, X, by omega, hgk, G, st, S₈, bd, Kept.zero, ?_, ?_⟩
    · rintro i v zs f' m₁ g₁ C h₉ tk₉ hi ⟨y, hy, rfl⟩ hz M sub hrest S₉
      clear S₈
      have G₁ := G.keeps sub
      have sk : Sub gk g₁ := fun b o e => sub b o (hgk b o e)
      have c1 : At g₁ (L + 3, isCell (some (.ref D))) := hrest _ (by simp)
      have hD₁ : At g₁ (D, isM prog w z (.type "dict") none rs) := hrest _ (by simp)
      have hk : isKey prog w z gk y.1 y.2.1 := MR.keys.is y (List.mem_of_getElem? hy)
      have hin : y.1 ∈ keysK rs := List.mem_map_of_mem (List.mem_of_getElem? hy)
      have hin2 : y.1 ∈ keysK xs := hkr ▸ hin
      unfold Tests
      walk_at "S_go"
      have S₁₀ := ‹St g₁ C _ _ _›
      have e0 : (if y.1 ∈ keysK xs then f y.1 - f2 y.1 else 0) = f y.1 - f2 y.1 := if_pos hin2
      rw [e0]
      by_cases hp : 0 < f y.1 - f2 y.1
      · rw [decide_eq_true hp]
        refine DcTest.yes S₁₀ ?_
        walk_at "S_go"
        rw [e0]
        have em : f y.1 - f2 y.1 = max 0 (f y.1 - f2 y.1) := by omega
        exact DcEnd.mk S₁₀ hk fun zs' M' k' => by rw [em]; exact Kept.yes (h := fun k => max 0 (f k - f2 k)) MR.keys.nd hy hz (by show 0 < max 0 (f y.1 - f2 y.1); omega) k'
      · rw [decide_eq_false hp]
        exact DcTest.no S₁₀ (Kept.no MR.keys.nd hy hz (by show max 0 (f y.1 - f2 y.1) = 0; omega))
    · rintro zs f' D2 h₉ tk₉ hD2 hz M2 hl2 S₉
      obtain ⟨rfl, hkp⟩ := hz.end rfl (fun k hk => by rw [hkr] at hk; have := MX.off k hk; have := p2 k; omega) fun k => by omega
      clear S₈
      walk_at "S_go"
      have S₇ := ‹St g L _ _ _›
      refine ctr_dict (G.keeps S₇.keep) (fun b o e => S₇.keep b o (hgk b o e)) (Own.refl _) ((rm.deeper _).mono (by omega)) (.inl rfl) hD2 (S₇.get (.head _)) M2 (by omega) fun x dx xs' h₂ t₂ hx M' hk' O₂ => ?_
      have el : xs'.length = zs.length := by have := congrArg List.length hk'; simpa using this
      exact ret x dx xs' _ _ hx M' (fun k => by rw [hk']; exact hkp k) (by omega) ((S₇.call2 O₂).o.sub (by simp) (by have nd := O₂.nd; exact nd))
end
section
variable {prog : Program} {w : World}
/-- a Counter at hand: what it tells -/
structure Cn (prog : Program) (w : World) (z : Bool) (gk g : Heap) (c dc : Addr) (xs : KV) (f : List Nat → Int) : Prop where
  s : (c == sysModules) = false
  at_ : At g (c, isCt prog w z dc xs)
  d : At g (dc, isA [])
  M : CM prog w z gk xs f
  k : KeysPos xs f
  p : ∀ k, 0 ≤ f k
  l : xs.length ≤ 10
theorem Cn.keeps {z : Bool} {gk g g' : Heap} {c dc : Addr} {xs : KV} {f : List Nat → Int} (X : Cn prog w z gk g c dc xs f) (s : Sub g g') : Cn prog w z gk g' c dc xs f := ⟨X.s, X.at_.keeps s, X.d.keeps s, X.M, X.k, X.p, X.l⟩
set_option maxHeartbeats 4000000 in
theorem inter_ct {A : Around} {s : Shared} {g gk : Heap} {R : Result → Shared → Prop} {x dx : Addr} {c dc e de : Addr} {xs ys : KV} {f f2 : List Nat → Int} {z : Bool} (G : Gd w g) (hgk : Sub gk g) (O : Own g s.heap []) (rm : Rm 8 A)
  (X1 : Cn prog w z gk g c dc xs f) (X2 : Cn prog w z gk g e de ys f2)
  (ret : ∀ x dx zs h' t', (x == sysModules) = false → CM prog w z gk zs (fun k => min (f k) (f2 k)) → KeysPos zs (fun k => min (f k) (f2 k)) → zs.length ≤ 10 → Own g h' [(x, isCt prog w z dx zs), (dx, isA [])] → R (.ok (.ret (.ref x))) { s with heap := h', toks := t' }) :
  codeAny (model prog w) A (.call (.ref 177) ⟨[.ref x, .ref c, .ref e], []⟩) R s := by
  have hh := rm.hh
  obtain ⟨hcs, hc, hdc, MX, hx0, p1, ha⟩ := X1
  obtain ⟨hes, he, hde, MY, hy0, p2, hb⟩ := X2
  refine enterV (vs := [.ref c, .ref e]) (bindsV := fun T => [("self", .ref x), ("sequences", T)]) G O (by k_is) (by conv => lhs; whnf) (by conv => lhs; whnf) (by conv => lhs; whnf) (by k_is) rm rfl (by simp) (fun v => locs rfl) (fun T L h₁ tk S => ?_) rfl rfl rfl (by decide)
  walk_at "S_go"
  have S₁ := ‹St g L _ _ _›
  refine wpAny_call (copy_ct (G.keeps S₁.keep) (fun b o e => S₁.keep b o (hgk b o e)) (Own.refl _) ((rm.deeper _).mono (by omega)) hcs (hc.keeps S₁.keep) MX ha fun x1 dx1 zs1 h₂ t₂ hx1 M1 hk1 O₂ => ?_)
  have S₂ := S₁.call2 O₂
  clear S S₁ O₂
  dsimp only
  walk_at "S_go"
  refine forG_S ?_ (by intro _; rfl)
  walk_at "S_go"
  have S₃ := ‹St g L _ _ _›
  rename_i T2 _ _
  have hx1p : KeysPos zs1 f := fun k => by rw [hk1]; exact hx0 k
  have hl1 : zs1.length ≤ 10 := by have := congrArg List.length hk1; simp at this; omega
  have S₄ : St g L _ _ ([] ++ [(T2, isT [.ref e]), (x1, isCt prog w z dx1 zs1), (dx1, isA [])]) := S₃.sub (by simp) (by walk_at "S_nd")
  refine tupLoop (mu := []) (rest := [(T2, isT [.ref e]), (x1, isCt prog w z dx1 zs1), (dx1, isA [])])
    (fun i m mu => (i = 0 ∧ mu = [] ∧ m "intersection" = some (.ref x1)) ∨ (i = 1 ∧ ∃ x2 dx2 zs, mu = [(x2, isCt prog w z dx2 zs), (dx2, isA [])] ∧ m "intersection" = some (.ref x2) ∧ (x2 == sysModules) = false ∧
      CM prog w z gk zs (fun k => min (f k) (f2 k)) ∧ KeysPos zs (fun k => min (f k) (f2 k)) ∧ zs.length ≤ 10))
    hh (S₃.get (.head _)) (S₃.neL (.head _)) (by simp) S₄ (.inl ⟨rfl, rfl, rfl⟩) ?_ ?_
  · rintro i v m₁ mu₁ g₁ h₅ tk₅ hv (⟨rfl, rfl, e1⟩ | ⟨rfl, _⟩) sub₁ at₁ _ S₅
    · clear S₃ S₄
      have hv' : v = .ref e := by simpa using hv.symm
      subst hv'
      have G₁ := G.keeps sub₁
      have a1 : At g₁ (x1, isCt prog w z dx1 zs1) := at₁ _ (by simp)
      have a2 := he.keeps sub₁
      walk_at "S_go"
      have S₆ := ‹St g₁ L _ _ _›
      refine and_ct (G₁.keeps S₆.keep) (fun b o e => S₆.keep b o (sub₁ b o (hgk b o e))) (Own.refl _) ((rm.deeper _).mono (by omega)) hx1 (a1.keeps S₆.keep) M1 hl1 hes (a2.keeps S₆.keep) MY hx1p hy0 p1 p2 fun x2 dx2 zs h₆ t₆ hx2 M2 hk2 hl2 O₆ => ?_
      have S₇ := S₆.call2 O₆
      clear S₆ O₆
      dsimp only [PySem.W.CmpBack]
      walk_at "S_go"
      have S₈ := ‹St g₁ L _ _ _›
      exact TurnEnd.next S₈ (.inr ⟨rfl, x2, dx2, zs, rfl, rfl, hx2, M2, hk2, hl2⟩)
    · simp at hv
  · rintro m₁ mu₁ h₅ tk₅ (⟨q, _⟩ | ⟨_, x2, dx2, zs, rfl, e1, hx2, M2, hk2, hl2⟩) S₅
    · simp at q
    · clear S₃ S₄
      walk_at "S_go"
      exact ret x2 dx2 zs _ _ hx2 M2 hk2 hl2 (S₅.o.sub (by simp) (by have nd := S₅.o.nd; simp at nd; simp [nd.1.1]))
end
section
variable {prog : Program} {w : World}
set_option maxHeartbeats 4000000 in
/-- Base._count_counters -/
theorem count_ct {A : Around} {s : Shared} {g gk : Heap} {R : Result → Shared → Prop} {x dx c dc : Addr} {at_ : List (Str × Value)} {xs : KV} {f : List Nat → Int} {z : Bool} (G : Gd w g) (O : Own g s.heap []) (rm : Rm 4 A)
  (hx : At g (x, isO (instObj 304 dx))) (hd : At g (dx, isA at_)) (hl : at_.lookup ("as_set" : Str) = none) (hcs : (c == sysModules) = false) (hc : At g (c, isCt prog w z dc xs)) (hdc : At g (dc, isA [])) (M : CM prog w z gk xs f) (hb : ∀ k, 0 ≤ f k ∧ f k ≤ 1000) (ha : xs.length ≤ 10)
  (ret : ∀ t h' t', Own g h' [] → R (.ok (.ret (.int ((keysK xs).map f).sum t))) { s with heap := h', toks := t' }) :
  codeAny (model prog w) A (.call (.ref 198) ⟨[.ref x, .ref c], []⟩) R s := by
  have hh := rm.hh
  refine enter G O (by k_is) (by conv => lhs; whnf) (by conv => lhs; whnf) (by conv => lhs; whnf) (by k_is) rm (.of_eq (binds := [("self", .ref x), ("counter", .ref c)]) rfl) (locs rfl) (fun L h₁ tk S => ?_) rfl rfl rfl (by decide)
  walk_at "S_go"
  exact ret _ _ _ (St.own0 ‹St g L _ _ _›)
end
section
variable {prog : Program} {w : World}
section
variable {A : Around} {s : Shared} {E : Value → Shared → Prop}
theorem starType_call {T : String} {pos : Pos} {Q : Value → Shared → Prop} {args : List (Bool × Sem Value)} (hst : args.any (·.1) = true)
    (h : wpAny (model prog w) A (evalArgs (.type T) true args []) (fun a s₁ => wpAny (model prog w) A (call (.type T) ([] ++ a.pos) a.kw) Q E s₁) E s) : wpAny (model prog w) A (callWith pos (.type T) [] args []) Q E s := by
  unfold callWith
  refine wpAny_bind (wpAny_holding (wpAny_mono h (fun a s₁ h₁ => wpAny_bind (wpAny_standAt ?_)) fun _ _ x => x))
  have L : Looks (model prog w) s₁.heap (keeperOf (.type T)) .machine := .now
  simp only [hst, Bool.true_or]
  refine wpAny_bind (L.here ?_)
  have tail : ∀ {t : Sem Value}, wpAny (model prog w) A t Q E s₁ → wpAny (model prog w) A (t >>= fun r => holding [r] point >>= fun _ => pure r) Q E s₁ :=
    fun ht => wpAny_bind (wpAny_mono ht (fun r s₂ hr => wpAny_bind (wpAny_holding (wpAny_point (wpAny_pure hr)))) fun _ _ x => x)
  first
    | exact tail (wpAny_operateT h₁)
    | exact tail (wpAny_operating h₁)
    | exact tail h₁
/-- a type is called with stars -/
theorem starType {T : String} {env : Env} {e : Expr} {p pos : Pos} {Q : Value → Shared → Prop}
    (h : wpAny (model prog w) A (eval e env) (fun v s₁ => StarOf (model prog w) A E v (fun vs s₂ => wpAny (model prog w) A (call (.type T) ([] ++ vs)) Q E s₂) s₁) E s)
    (he : starEach [.Starred e p] env = [(true, eval e env)] := by rfl) :
    wpAny (model prog w) A (callWith pos (.type T) [] (backTo pos (starEach [.Starred e p] env)) []) Q E s := by
  rw [he]
  exact starType_call rfl (ks_lone h)
end
/-- what a grown base holds beyond the old one goes into the ledger -/
theorem Own.diff {g g' h : Heap} {news : Led} (O : Own g' h news) (sub : Sub g g') : ∃ tl : Led, Own g h (news ++ tl) ∧ ∀ b o, g'.get? b = some o → g.get? b = none → (b, isO o) ∈ tl := by
  refine ⟨(List.range g'.objs.size).filterMap fun b => match g.get? b, g'.get? b with
    | none, some o => some (b, isO o)
    | _, _ => none, ?_, fun b o e hn => ?_⟩
  · have mem : ∀ p ∈ (List.range g'.objs.size).filterMap (fun b => match g.get? b, g'.get? b with
      | none, some o => some (b, isO o)
      | _, _ => none), ∃ o, p = (p.1, isO o) ∧ g.get? p.1 = none ∧ g'.get? p.1 = some o := by
      intro p hp
      obtain ⟨b, _, e⟩ := List.mem_filterMap.mp hp
      split at e
      · rename_i o h1 h2
        cases e
        exact ⟨o, rfl, h1, h2⟩
      · cases e
    have nd : (((List.range g'.objs.size).filterMap fun b => match g.get? b, g'.get? b with
      | none, some o => some (b, isO o)
      | _, _ => none).map (·.1)).Nodup := by
      have : ∀ l : List Nat, l.Nodup → ((l.filterMap fun b => match g.get? b, g'.get? b with
        | none, some o => some (b, isO o)
        | _, _ => none).map (·.1)).Nodup := by
        intro l
        induction l with
        | nil => intro _; exact List.nodup_nil
        | cons b l ih =>
          intro hnd
          obtain ⟨h1, h2⟩ := List.nodup_cons.mp hnd
          rw [List.filterMap_cons]
          split
          · exact ih h2
          · rename_i x e
            rw [List.map_cons, List.nodup_cons]
            refine ⟨fun q => ?_, ih h2⟩
            obtain ⟨p, hp, e2⟩ := List.mem_map.mp q
            obtain ⟨b', hb', e3⟩ := List.mem_filterMap.mp hp
            have f1 : x.1 = b := by
              split at e
              · cases e; rfl
              · cases e
            have f2 : p.1 = b' := by
              split at e3
              · cases e3; rfl
              · cases e3
            rw [f2, f1] at e2
            exact h1 (e2 ▸ hb')
      exact this _ List.nodup_range
    have D := O.down sub
    refine ⟨D.keep, fun p hp => ?_, ?_⟩
    · rcases List.mem_append.mp hp with hp | hp
      · exact D.own p hp
      · obtain ⟨o, e, h1, h2⟩ := mem p hp
        rw [e]
        exact ⟨⟨o, O.keep _ _ h2, rfl⟩, h1⟩
    · rw [List.map_append]
      refine List.nodup_append.mpr ⟨O.nd, nd, fun a ha b hb e => ?_⟩
      obtain ⟨p, hp, rfl⟩ := List.mem_map.mp ha
      obtain ⟨q, hq, rfl⟩ := List.mem_map.mp hb
      obtain ⟨o, _, _, h2⟩ := mem q hq
      have := (O.own p hp).2
      rw [e, h2] at this; cases this
  · refine List.mem_filterMap.mpr ⟨b, List.mem_range.mpr (Heap.lt_size e), ?_⟩
    rw [hn, e]
theorem KeysAt.fresh {g g' g'' : Heap} {vs : List Value} {Gs : List (List Nat)} {tl : Led} (K : KeysAt prog w false g' vs Gs) (fr : ∀ v ∈ vs, Fresh g v) (ht : ∀ b o, g'.get? b = some o → g.get? b = none → (b, isO o) ∈ tl) (hg : ∀ p ∈ tl, At g'' p) : KeysAt prog w false g'' vs Gs := by
  refine ⟨K.1, fun i v k hv hk => ?_⟩
  have x := K.2 i v k hv hk
  obtain ⟨a, rfl, hn⟩ := fr v (List.mem_of_getElem? hv)
  unfold isKey at x ⊢
  rw [if_neg (by decide)] at x ⊢
  obtain ⟨a', e, o, items, n, ho, r⟩ := x
  cases e
  obtain ⟨o', h1, h2⟩ := hg _ (ht _ _ ho hn)
  have h2' : o' = o := h2
  subst h2'
  exact ⟨a, rfl, o', items, n, h1, r⟩
/-- the pieces of n letters -/
theorem grams_eq (a : List Nat) (n : Nat) : grams a n = (List.range (a.length + 1 - n)).map fun i => (a.drop i).take n := by
  unfold grams gram
  refine List.map_congr_left fun i _ => ?_
  rw [List.drop_take]; congr 1; omega
theorem keysGrams {g : Heap} {a : List Nat} {n N : Nat} {acc : List Value} (h : acc.length = N) (hN : N = a.length - (n - 1)) {g0 : Heap} (hp : ∀ j v, acc[j]? = some v → isKey prog w false g ((a.drop j).take n) v ∧ Fresh g0 v) (hn : 1 ≤ n) : KeysAt prog w false g acc (grams a n) := by
  rw [grams_eq]
  refine ⟨by rw [List.length_map, List.length_range]; omega, fun i v k hv hk => ?_⟩
  have := (hp i v hv).1
  rw [List.getElem?_map] at hk
  rcases hr : (List.range (a.length + 1 - n))[i]? with _ | j
  · rw [hr] at hk; cases hk
  · rw [hr] at hk
    have e : j = i := by
      obtain ⟨hlt, e⟩ := List.getElem?_eq_some_iff.mp hr
      rw [List.getElem_range] at e; exact e.symm
    subst e
    cases hk
    exact this
set_option maxHeartbeats 4000000 in
/-- utils.find_ngrams of a word -/
theorem ngrams_ct {A : Around} {s : Shared} {g : Heap} {R : Result → Shared → Prop} {a : List Nat} {n : Nat} {t u : Tok} (G : Gd w g) (O : Own g s.heap []) (rm : Rm 3 A) (hn : n = 2 ∨ n = 3) (ha : a.length ≤ 10)
  (ret : ∀ l vs tl h' t', (∀ g'', (∀ p ∈ tl, At g'' p) → KeysAt prog w false g'' vs (grams a n)) → Own g h' ((l, isL vs) :: tl) → R (.ok (.ret (.ref l))) { s with heap := h', toks := t' }) :
  codeAny (model prog w) A (.call (.ref 83) ⟨[.str (sw a) t, .int n u], []⟩) R s := by
  have hh := rm.hh
  refine enterC (fun L => [("input_list", L + 1)]) (fun L => [(L + 1, isCell (some (.str (sw a) t)))]) G O (by k_is) (by conv => lhs; whnf) (by conv => lhs; whnf) (by conv => lhs; whnf) (by k_is) rm (.of_eq (binds := [("input_list", .str (sw a) t), ("n", .int n u)]) rfl) rfl (fun L => by rfl) (fun L => rfl) (by decide) (fun L h₁ tk S => ?_) rfl rfl rfl
  walk_at "S_go"
  refine starType ?_
  refine lcS (cl := [("input_list", L + 1)]) rfl (by decide) rfl (by decide) rfl ?_
  walk_at "S_go"
  have S₃ := ‹St g L _ _ _›
  refine iterRg (rm.deeper _).hh (S₃.get (.head _)) (by omega) (by omega) S₃ fun I h₅ Si X st S₄ bd _ => ?_
  clear S₃
  have S₅ := S₄.drop2
  clear S₄
  refine ⟨_, _, I, [I], _, _, Si, [], [(L + 1, isCell (some (.str (sw a) t)))], any,
    fun i ys mu => mu = [] ∧ ys.length = i ∧ ∀ j v, ys[j]? = some v → ∃ t : Tok, v = Value.str (sw (a.drop j)) t, rfl, X, by rw [sizeLine_eq]; omega, st, S₅, by simp, bd, ⟨rfl, rfl, by simp⟩, ?_, ?_⟩
  · rintro i v ys m₁ mu₁ g₂ C h₆ tk₆ hi₆ ⟨_, t₁, rfl⟩ ⟨rfl, hl, hy⟩ sub hrest _ S₆
    have G₂ := G.keeps sub
    have hc1 : At g₂ (L + 1, isCell (some (.str (sw a) t))) := hrest _ (by simp)
    clear S₅
    walk_at "S_go"
    refine LcEnd.mk ‹St g₂ C _ _ _› ⟨rfl, by simp [hl], fun j v hv => ?_⟩
    rw [List.getElem?_append] at hv
    split at hv
    · exact hy j v hv
    · have hj := (List.getElem?_eq_some_iff.mp hv).1
      simp only [List.length_cons, List.length_nil] at hj
      have e : j = i := by omega
      subst e
      rw [hl, Nat.sub_self] at hv
      cases hv
      exact ⟨_, by simp; rfl⟩
  · rintro ys mu₁ D h₆ tk₆ ⟨rfl, hl, hy⟩ S₆
    have hl' : ys.length = n := by rw [hl]; omega
    refine starL S₆ (S₆.get (.head _)) (by omega) fun h₇ S₇ => ?_
    clear S₆
    have S₈ := S₇.drop1
    clear S₇
    dsimp only [List.nil_append]
    rcases hn with rfl | rfl
    · obtain ⟨v1, v2, rfl⟩ : ∃ v1 v2, ys = [v1, v2] := by
        match ys, hl' with
        | [v1, v2], _ => exact ⟨v1, v2, rfl⟩
      obtain ⟨t1, rfl⟩ := hy 0 v1 rfl
      obtain ⟨t2, rfl⟩ := hy 1 v2 rfl
      rw [List.drop_zero]
      refine zipS2 S₈ fun z N P ZS g₁ h₉ W hN hP sub Z => ?_
      dsimp only
      walk1
      refine listZip W hh (by omega) Z fun l acc g₂ h₁₀ tk' sub₂ S₉ ha hp => ?_
      obtain ⟨tl, O₂, ht⟩ := Own.diff (St.own1 S₉ (.head _)) (fun b o e => sub₂ b o (sub b o e))
      have hp' : ∀ j v, acc[j]? = some v → isKey prog w false g₂ ((a.drop j).take 2) v ∧ Fresh g v := by rintro j v hv; have := hp j v hv; rw [hP] at this; exact this
      exact ret l acc tl h₁₀ tk' (fun g'' hg => (keysGrams (n := 2) ha hN hp' (by omega)).fresh (fun v hv => by
        obtain ⟨j, hj⟩ := List.getElem?_of_mem hv
        exact (hp' j v hj).2) ht hg) O₂
    · obtain ⟨v1, v2, v3, rfl⟩ : ∃ v1 v2 v3, ys = [v1, v2, v3] := by
        match ys, hl' with
        | [v1, v2, v3], _ => exact ⟨v1, v2, v3, rfl⟩
      obtain ⟨t1, rfl⟩ := hy 0 v1 rfl
      obtain ⟨t2, rfl⟩ := hy 1 v2 rfl
      obtain ⟨t3, rfl⟩ := hy 2 v3 rfl
      rw [List.drop_zero]
      refine zipS3 S₈ fun z N P ZS g₁ h₉ W hN hP sub Z => ?_
      dsimp only
      walk1
      refine listZip W hh (by omega) Z fun l acc g₂ h₁₀ tk' sub₂ S₉ ha hp => ?_
      obtain ⟨tl, O₂, ht⟩ := Own.diff (St.own1 S₉ (.head _)) (fun b o e => sub₂ b o (sub b o e))
      have hp' : ∀ j v, acc[j]? = some v → isKey prog w false g₂ ((a.drop j).take 3) v ∧ Fresh g v := by rintro j v hv; have := hp j v hv; rw [hP] at this; exact this
      exact ret l acc tl h₁₀ tk' (fun g'' hg => (keysGrams (n := 3) ha hN hp' (by omega)).fresh (fun v hv => by
        obtain ⟨j, hj⟩ := List.getElem?_of_mem hv
        exact (hp' j v hj).2) ht hg) O₂
set_option maxHeartbeats 4000000 in
/-- Base._get_sequences of two words, qval 2 or 3 -/
theorem seqq_ct {A : Around} {s : Shared} {g : Heap} {R : Result → Shared → Prop} {x dx : Addr} {at_ : List (Str × Value)} {a b : List Nat} {q : Nat} {ta tb tq : Tok}
  (G : Gd w g) (O : Own g s.heap []) (rm : Rm 4 A) (hx : At g (x, isO (instObj 304 dx))) (hd : At g (dx, isA (("qval", .int q tq) :: at_))) (hq : q = 2 ∨ q = 3) (ha : a.length ≤ 10) (hb : b.length ≤ 10)
  (ret : ∀ l l1 l2 vs1 vs2 tl h' t', (∀ g'', (∀ p ∈ tl, At g'' p) → KeysAt prog w false g'' vs1 (grams a q) ∧ KeysAt prog w false g'' vs2 (grams b q)) →
    Own g h' ((l, isL [.ref l1, .ref l2]) :: (l1, isL vs1) :: (l2, isL vs2) :: tl) → R (.ok (.ret (.ref l))) { s with heap := h', toks := t' }) :
  codeAny (model prog w) A (.call (.ref 165) ⟨[.ref x, .str (sw a) ta, .str (sw b) tb], []⟩) R s := by
  have hh := rm.hh
  refine enterCV (vs := [.str (sw a) ta, .str (sw b) tb]) (bindsV := fun T => [("self", .ref x), ("sequences", T)]) (fun L => [("self", L + 1)]) (fun T L => [(L + 1, isCell (some (.ref x)))]) G O (by k_is) (by conv => lhs; whnf) (by conv => lhs; whnf) (by conv => lhs; whnf) (by k_is) rm rfl (by simp) (fun v => rfl) (fun L => by rfl) (fun T L => rfl) (by decide) (fun T L h₁ tk S => ?_) rfl rfl rfl
  have hq0 : ((q : Int) != 0) = true := by rcases hq with rfl | rfl <;> decide
  have hq1 : ((q : Int) == 1) = false := by rcases hq with rfl | rfl <;> decide
  walk_at "S_go"
  all_goals try (exfalso; omega)
  refine lcS (cl := [("self", L + 1)]) rfl (by decide) rfl (by decide) rfl ?_
  walk_at "S_go"
  have S₃ := ‹St g L _ _ _›
  refine iter_tuple (rm.deeper _).hh (S₃.get (.tail _ (.head _))) S₃ fun I h₅ Si X st S₅ bd _ _ => ?_
  clear S₃
  refine ⟨_, _, I, [I, T], _, _, Si, [], [(L + 1, isCell (some (.ref x))), (T, isT [.str (sw a) ta, .str (sw b) tb])], any,
    fun i ys mu => match i with
      | 0 => mu = [] ∧ ys = []
      | 1 => ∃ l1 vs1 tl, mu = (l1, isL vs1) :: tl ∧ ys = [Value.ref l1] ∧ ∀ g'', (∀ p ∈ tl, At g'' p) → KeysAt prog w false g'' vs1 (grams a q)
      | _ => ∃ l1 l2 vs1 vs2 tl1 tl2, mu = (l2, isL vs2) :: (tl2 ++ (l1, isL vs1) :: tl1) ∧ ys = [Value.ref l1, .ref l2] ∧ ∀ g'', (∀ p ∈ tl2 ++ tl1, At g'' p) → KeysAt prog w false g'' vs1 (grams a q) ∧ KeysAt prog w false g'' vs2 (grams b q),
    rfl, X, by rw [sizeLine_eq]; simp, st, S₅, by simp, bd, ⟨rfl, rfl⟩, ?_, ?_⟩
  · rintro i v ys m₁ mu₁ g₂ C h₆ tk₆ hi₆ hv j sub hrest _ S₆
    have G₂ := G.keeps sub
    have hc1 : At g₂ (L + 1, isCell (some (.ref x))) := hrest _ (by simp)
    have hx2 := hx.keeps sub
    have hd2 := hd.keeps sub
    clear S₅
    match i, j with
    | 0, ⟨e1, e2⟩ =>
      subst e1 e2
      cases hv
      walk_at "S_go"
      have S₇ := ‹St g₂ C _ _ _›
      refine ngrams_ct (G₂.keeps S₇.keep) (Own.refl _) ((rm.deeper _).mono (by omega)) hq ha fun l vs tl h₇ t₇ K O₂ => ?_
      have S₈ := S₇.call O₂
      clear S₇
      dsimp only
      walk_at "S_go"
      exact LcEnd.mk S₈ ⟨l, vs, tl, by simp, rfl, K⟩
    | 1, ⟨l1, vs1, tl, e1, e2, K⟩ =>
      subst e1 e2
      cases hv
      walk_at "S_go"
      have S₇ := ‹St g₂ C _ _ _›
      refine ngrams_ct (G₂.keeps S₇.keep) (Own.refl _) ((rm.deeper _).mono (by omega)) hq hb fun l vs tl2 h₇ t₇ K2 O₂ => ?_
      have S₈ := S₇.call O₂
      clear S₇
      dsimp only
      walk_at "S_go"
      exact LcEnd.mk S₈ ⟨l1, l, vs1, vs, tl, tl2, by simp, rfl, fun g'' hg => ⟨K g'' fun p hp => hg p (List.mem_append_right _ hp), K2 g'' fun p hp => hg p (List.mem_append_left _ hp)⟩⟩
    | i + 2, _ => simp at hi₆; omega
  · rintro ys mu₁ D h₆ tk₆ ⟨l1, l2, vs1, vs2, tl1, tl2, rfl, rfl, K⟩ S₆
    walk_at "S_go"
    refine ret D l1 l2 vs1 vs2 (tl2 ++ tl1) _ _ K ?_
    have O₆ := S₆.o
    refine O₆.sub (fun p hp => by
      simp only [List.mem_cons, List.mem_append, List.cons_append] at hp ⊢
      grind) ?_
    have nd := O₆.nd
    simp only [List.map_cons, List.map_append, List.cons_append, List.nodup_cons, List.mem_cons, List.mem_append, List.nodup_append, not_or] at nd ⊢
    grind
end
section
variable {prog : Program} {w : World}
theorem code169 {g : Heap} (G : Gd w g) : CodeK g 169 167 := by
  refine ⟨_, _, _, _, _, _, _, _, _, G.X 169 _ (by k_is), rfl, rfl, rfl, rfl, rfl, rfl, rfl, by decide⟩
theorem code300 {g : Heap} (G : Gd w g) : CodeK g 300 296 := by
  refine ⟨_, _, _, _, _, _, _, _, _, G.X 300 _ (by k_is), rfl, rfl, rfl, rfl, rfl, rfl, rfl, by decide⟩
abbrev bagAt (q : Nat) (tq : Tok) : List (Str × Value) := [("qval", .int q tq), ("external", .bool true)]
/-- Counter(v) counts the pieces Gs -/
def CtrOf (prog : Program) (w : World) (z : Bool) (gk : Heap) (v : Value) (Gs : List (List Nat)) : Prop :=
  ∀ (A : Around) (s : Shared) (g : Heap) (R : Result → Shared → Prop), Gd w g → Sub gk g → Own g s.heap [] → Rm 5 A →
    (∀ x dx xs h' t', (x == sysModules) = false → CM prog w z gk xs (cntF Gs) → KeysPos xs (cntF Gs) → xs.length ≤ 10 → Own g h' [(x, isCt prog w z dx xs), (dx, isA [])] → R (.ok (.ret (.ref x))) { s with heap := h', toks := t' }) →
    codeAny (model prog w) A (.call (.ref 74) ⟨[v], []⟩) R s
theorem grams_one (a : List Nat) : grams a 1 = a.map fun c => [c] := by
  rw [grams_eq]
  apply List.ext_getElem?
  intro i
  rw [List.getElem?_map, List.getElem?_map]
  by_cases h : i < a.length
  · rw [List.getElem?_range (by omega), List.getElem?_eq_getElem h, Option.map_some, Option.map_some, List.drop_eq_getElem_cons h]
    rfl
  · rw [List.getElem?_eq_none (by simp; omega), List.getElem?_eq_none (by omega)]
    rfl
theorem grams_len (a : List Nat) (q : Nat) : (grams a q).length = a.length + 1 - q := by unfold grams; simp
/-- Base._get_sequences of two words, qval 1, 2 or 3 -/
theorem seqs_ct {A : Around} {s : Shared} {g : Heap} {R : Result → Shared → Prop} {x dx : Addr} {a b : List Nat} {q : Nat} {ta tb tq : Tok}
  (G : Gd w g) (O : Own g s.heap []) (rm : Rm 4 A) (hx : At g (x, isO (instObj 304 dx))) (hd : At g (dx, isA (bagAt q tq))) (hq : q = 1 ∨ q = 2 ∨ q = 3) (ha : a.length ≤ 10) (hb : b.length ≤ 10)
  (ret : ∀ z l v1 v2 tl h' t', (∀ g'', (∀ p ∈ tl, At g'' p) → CtrOf prog w z g'' v1 (grams a q) ∧ CtrOf prog w z g'' v2 (grams b q)) → Own g h' ((l, isL [v1, v2]) :: tl) → R (.ok (.ret (.ref l))) { s with heap := h', toks := t' }) :
  codeAny (model prog w) A (.call (.ref 165) ⟨[.ref x, .str (sw a) ta, .str (sw b) tb], []⟩) R s := by
  rcases hq with rfl | hq
  · refine seq1_ct G O (rm.mono (by omega)) hx hd (.inr (.inr rfl)) fun l h' t' O' => ret true l _ _ [] h' t' (fun g'' _ => ⟨?_, ?_⟩) O'
    · intro A s g R G hk O rm r
      rw [grams_one] at r
      exact ctr_str G hk O rm ha r
    · intro A s g R G hk O rm r
      rw [grams_one] at r
      exact ctr_str G hk O rm hb r
  · refine seqq_ct G O rm hx hd hq ha hb fun l l1 l2 vs1 vs2 tl h' t' K O' => ret false l _ _ ((l1, isL vs1) :: (l2, isL vs2) :: tl) h' t' (fun g'' hg => ?_) O'
    obtain ⟨K1, K2⟩ := K g'' fun p hp => hg p (.tail _ (.tail _ hp))
    have hl1 := hg _ (.head _)
    have hl2 := hg _ (.tail _ (.head _))
    refine ⟨?_, ?_⟩
    · intro A s g R G hk O rm r
      exact ctr_list G hk O rm (hl1.keeps hk) K1 (by rw [grams_len]; omega) r
    · intro A s g R G hk O rm r
      exact ctr_list G hk O rm (hl2.keeps hk) K2 (by rw [grams_len]; omega) r
set_option maxHeartbeats 4000000 in
/-- Base._get_counters of two words -/
theorem getctr_ct {A : Around} {s : Shared} {g : Heap} {R : Result → Shared → Prop} {x dx : Addr} {a b : List Nat} {q : Nat} {ta tb tq : Tok}
  (G : Gd w g) (O : Own g s.heap [(167, isTab)]) (hb : AllBare s.gens) (rm : Rm 8 A) (hx : At g (x, isO (instObj 304 dx))) (hd : At g (dx, isA (bagAt q tq))) (hq : q = 1 ∨ q = 2 ∨ q = 3) (ha : a.length ≤ 10) (hbl : b.length ≤ 10)
  (ret : ∀ z gk tl l c1 d1 xs1 c2 d2 xs2 h' t' gs, AllBare gs → (∀ b o, gk.get? b = some o → (b, isO o) ∈ tl) → Cn prog w z gk gk c1 d1 xs1 (cntF (grams a q)) → Cn prog w z gk gk c2 d2 xs2 (cntF (grams b q)) →
    Own g h' ((l, isL [.ref c1, .ref c2]) :: (167, isTab) :: tl) → R (.ok (.ret (.ref l))) { s with heap := h', toks := t', gens := gs }) :
  codeAny (model prog w) A (.call (.ref 170) ⟨[.ref x, .str (sw a) ta, .str (sw b) tb], []⟩) R s := by
  have hh := rm.hh
  refine enterV (vs := [.str (sw a) ta, .str (sw b) tb]) (bindsV := fun T => [("self", .ref x), ("sequences", T)]) G O (by k_is) (by conv => lhs; whnf) (by conv => lhs; whnf) (by conv => lhs; whnf) (by k_is) rm rfl (by simp) (fun v => locs rfl) (fun T L h₁ tk S => ?_) rfl rfl rfl (by decide)
  walk_at "S_go"
  refine genS (c := 169) (P := 167) (cl := []) (rm.deeper _).hh rfl rfl (by decide) rfl rfl rfl (rm.deeper _).room rfl rfl ?_ (fun _ => rfl)
  walk_at "S_go"
  have S₃ := ‹St g L _ _ _›
  refine iterTupW (S₃.get (.head _)) S₃ fun I h₅ Si W st S₄ bd lt _ => ?_
  have nI := headNe S₄
  have nT := headNe S₄.drop1
  have S₅ := S₄.sub (news' := [(I, any), (167, isTab), (T, isT [.str (sw a) ta, .str (sw b) tb])]) (by simp) (by
    have := S₄.o.nd
    simp only [List.map_cons, List.map_nil, List.nodup_cons, List.mem_cons, List.not_mem_nil, or_false, not_or] at this ⊢
    grind)
  refine ⟨g, _, I, [I, T], _, _, Si, [(T, isT [.str (sw a) ta, .str (sw b) tb])], fun _ y => y = .bool false, rfl, W, st, bd, ?_, G, code169 G, S₅, hb, ?_, ?_⟩
  · have h1 := nI (167, isTab) (by simp)
    have h2 := nT (167, isTab) (by simp)
    simpa using ⟨h1, h2⟩
  · intro code C A' i v t m₂ g₁ hA hD hU hi hv sub hr all hm S'
    have G₁ := G.keeps sub
    clear S₃ S₄ S₅
    match i, hv with
    | 0, hv =>
      cases hv
      walk_at "S_go"
      exact ⟨_, _, rfl, fun _ _ e => e⟩
    | 1, hv =>
      cases hv
      walk_at "S_go"
      exact ⟨_, _, rfl, fun _ _ e => e⟩
    | i + 2, hv => simp at hv
  · intro ag h₆ tk₆ gs hbg U
    clear S S₃ S₄ S₅
    dsimp only
    walk1
    refine allGen U hbg (fun _ _ e => e) (by simp) fun h₇ tk₇ gs₇ S₇ hb₇ => ?_
    replace S₇ : St g L h₇ _ _ := S₇
    clear U
    dsimp only
    repeat' ((fail_if_success (with_reducible show wpAny _ _ (eval (Expr.ListComp _ _ _ _) _) _ _ _)); (first | walk1 | (dsimp only; walk1)); (try dsimp only))
    refine lcS (cl := []) rfl (by decide) rfl (by decide) rfl ?_
    walk_at "S_go"
    refine bmA S₇ G (C := 304) (S₇.at hx) (S₇.at hd) (by k_is) (by k_is) (by k_is) (by k_is) (by k_is) (by decide +kernel) rfl (by k_is) fun qm h₈ S₈ => ?_
    clear S₇
    dsimp only
    refine starM (by k_is) G S₈ (.head _) ?_
    repeat' ((fail_if_success (with_reducible show StarOf _ _ _ _ _ _)); (first | walk1 | (dsimp only; walk1)); (try dsimp only))
    have S₈' := ‹St g L _ _ _›
    refine starT S₈' (S₈'.get (.tail _ (.tail _ (.head _)))) (by simp) fun h₉ S₉ => ?_
    have S₁₀ := S₉.drop1
    refine ⟨G.X.keeps S₉.keep, S₉.get (.head _), ?_⟩
    clear S₉ S₈' S₈
    refine seqs_ct (G.keeps S₁₀.keep) (Own.refl _) ((rm.deeper _).mono (by omega)) (S₁₀.at hx) (S₁₀.at hd) hq ha hbl fun z l v1 v2 tl h₁₁ t₁₁ K O₁ => ?_
    have S₁₁ := S₁₀.call O₁
    clear S₁₀
    obtain ⟨gk, subk, S₁₂, kn⟩ := S₁₁.absorb ((l, isL [v1, v2]) :: tl)
    have tg : ∀ p ∈ tl, At h₁₁ p ∧ g.get? p.1 = none := fun p hp => S₁₁.o.own p (.tail _ (List.mem_append_left _ hp))
    have k0k : Sub (onlyOf h₁₁ (tl.map (·.1))) gk := fun b o e => by
      obtain ⟨e1, hm⟩ := onlyOf_of e
      obtain ⟨p, hp, rfl⟩ := List.mem_map.mp hm
      obtain ⟨o', e2, _⟩ := kn p (.tail _ hp)
      have := S₁₂.keep _ _ e2
      rw [e1] at this; cases this
      exact e2
    have k0n : ∀ b o, (onlyOf h₁₁ (tl.map (·.1))).get? b = some o → g.get? b = none := fun b o e => by
      obtain ⟨_, hm⟩ := onlyOf_of e
      obtain ⟨p, hp, rfl⟩ := List.mem_map.mp hm
      exact (tg p hp).2
    obtain ⟨K1, K2⟩ := K (onlyOf h₁₁ (tl.map (·.1))) fun p hp => by
      obtain ⟨⟨o, e, hP⟩, _⟩ := tg p hp
      exact ⟨o, onlyOf_get e (List.mem_map_of_mem hp), hP⟩
    generalize onlyOf h₁₁ (tl.map (·.1)) = k0 at *
    have hl := kn _ (.head _)
    have Gk := G.keeps subk
    clear S₁₁ kn tg
    dsimp only
    refine iter_list (rm.deeper _).hh (S₁₂.at hl) S₁₂ fun I' h₁₃ Si' X' st' S₁₃ bd' _ _ => ?_
    refine ⟨gk, _, I', [I', l], _, _, Si', [], [(167, isTab), (T, isT [.str (sw a) ta, .str (sw b) tb])], any,
      fun i ys mu => match i with
        | 0 => mu = [] ∧ ys = []
        | 1 => ∃ c1 d1 xs1, mu = [(c1, isCt prog w z d1 xs1), (d1, isA [])] ∧ ys = [Value.ref c1] ∧ (c1 == sysModules) = false ∧ CM prog w z k0 xs1 (cntF (grams a q)) ∧ KeysPos xs1 (cntF (grams a q)) ∧ xs1.length ≤ 10
        | _ => ∃ c1 d1 xs1 c2 d2 xs2, mu = [(c2, isCt prog w z d2 xs2), (d2, isA []), (c1, isCt prog w z d1 xs1), (d1, isA [])] ∧ ys = [Value.ref c1, .ref c2] ∧ ((c1 == sysModules) = false ∧ CM prog w z k0 xs1 (cntF (grams a q)) ∧ KeysPos xs1 (cntF (grams a q)) ∧ xs1.length ≤ 10) ∧
          ((c2 == sysModules) = false ∧ CM prog w z k0 xs2 (cntF (grams b q)) ∧ KeysPos xs2 (cntF (grams b q)) ∧ xs2.length ≤ 10),
      rfl, X', by rw [sizeLine_eq]; simp, st', S₁₃, by simp, bd', ⟨rfl, rfl⟩, ?_, ?_⟩
    · rintro i v ys m₁ mu₁ g₂ C h₁₄ tk₁₄ hi hv j sub hrest _ S₁₄
      have G₂ := Gk.keeps sub
      clear S₁₃ S₁₂
      match i, j with
      | 0, ⟨e1, e2⟩ =>
        subst e1 e2
        cases hv
        walk_at "S_go"
        have S₁₅ := ‹St g₂ C _ _ _›
        refine K1 _ _ _ _ (G₂.keeps S₁₅.keep) (fun b o e => S₁₅.keep b o (sub b o (k0k b o e))) (Own.refl _) ((rm.deeper _).mono (by omega)) fun c1 d1 xs1 h₁₆ t₁₆ hs M P hlen O₂ => ?_
        have S₁₆ := S₁₅.call O₂
        clear S₁₅
        dsimp only
        walk_at "S_go"
        exact LcEnd.mk S₁₆ ⟨c1, d1, xs1, rfl, rfl, hs, M, P, hlen⟩
      | 1, ⟨c1, d1, xs1, e1, e2, F1⟩ =>
        subst e1 e2
        cases hv
        walk_at "S_go"
        have S₁₅ := ‹St g₂ C _ _ _›
        refine K2 _ _ _ _ (G₂.keeps S₁₅.keep) (fun b o e => S₁₅.keep b o (sub b o (k0k b o e))) (Own.refl _) ((rm.deeper _).mono (by omega)) fun c2 d2 xs2 h₁₆ t₁₆ hs M P hlen O₂ => ?_
        have S₁₆ := S₁₅.call O₂
        clear S₁₅
        dsimp only
        walk_at "S_go"
        exact LcEnd.mk S₁₆ ⟨c1, d1, xs1, c2, d2, xs2, rfl, rfl, F1, hs, M, P, hlen⟩
      | i + 2, _ => simp at hi; omega
    · rintro ys mu₁ D h₁₄ tk₁₄ ⟨c1, d1, xs1, c2, d2, xs2, rfl, rfl, ⟨s1, M1, P1, L1⟩, s2, M2, P2, L2⟩ S₁₄
      have O₁₅ : Own gk h₁₄ ([(c2, isCt prog w z d2 xs2), (d2, isA []), (c1, isCt prog w z d1 xs1), (d1, isA [])] ++ [(D, isL [.ref c1, .ref c2]), (167, isTab)]) := S₁₄.o.sub (by simp) (by
        have := S₁₄.o.nd
        simp only [List.map_cons, List.map_nil, List.cons_append, List.nil_append, List.nodup_cons, List.mem_cons, List.not_mem_nil, or_false, not_or] at this ⊢
        grind)
      obtain ⟨tx, O₁₆, htx⟩ := O₁₅.diff subk
      rw [List.append_assoc] at O₁₆
      obtain ⟨md, O₁₇, hmd⟩ := O₁₆.exact
      have O₁₈ : Own g h₁₄ ((D, isL [.ref c1, .ref c2]) :: (167, isTab) :: (md ++ tx)) := O₁₇.sub (fun p hp => by
        simp only [List.mem_cons, List.mem_append, List.cons_append, List.nil_append] at hp ⊢
        grind) (by
        have := O₁₇.nd
        simp only [List.map_cons, List.map_append, List.map_nil, List.cons_append, List.nil_append, List.nodup_cons, List.mem_cons, List.mem_append, List.nodup_append, List.not_mem_nil, or_false, not_or] at this ⊢
        grind)
      have up : Sub k0 (partOf h₁₄ (md ++ tx)) := fun b o e => partOf_get (S₁₄.keep _ _ (k0k _ _ e)) (List.mem_append_right _ (htx _ _ (k0k _ _ e) (k0n _ _ e)))
      have at_ : ∀ p ∈ [(c2, isCt prog w z d2 xs2), (d2, isA []), (c1, isCt prog w z d1 xs1), (d1, isA [])], At (partOf h₁₄ (md ++ tx)) p := fun p hp => by
        obtain ⟨o, e, hP, hm⟩ := hmd p hp
        exact ⟨o, partOf_get e (List.mem_append_left _ hm), hP⟩
      walk_at "S_go"
      refine ret z (partOf h₁₄ (md ++ tx)) (md ++ tx) D c1 d1 xs1 c2 d2 xs2 _ _ _ hb₇ (fun b o e => (partOf_of e).2) ⟨s1, at_ _ (by simp), at_ _ (by simp), M1.keeps up, P1, fun k => ?_, L1⟩ ⟨s2, at_ _ (by simp), at_ _ (by simp), M2.keeps up, P2, fun k => ?_, L2⟩ O₁₈
      · unfold cntF; omega
      · unfold cntF; omega
end
section
variable {prog : Program} {w : World}
theorem cmpBack_ref {Q : Value → Shared → Prop} {u : Addr} {s : Shared} (h : Q (.ref u) s) : PySem.W.CmpBack Q (.ref u) s := h
theorem unmet_sum (ks : List (List Nat)) (nd : ks.Nodup) : ∀ (xs left : List (List Nat)), (∀ k, left.count k < xs.count k → k ∈ ks) →
    (ks.map fun k => max 0 ((xs.count k : Int) - min (xs.count k : Int) (left.count k : Int))).sum = (unmet xs left : Int) := by
  intro xs
  induction xs with
  | nil =>
    intro left _
    have : ∀ l : List (List Nat), (l.map fun k => max 0 ((([] : List (List Nat)).count k : Int) - min (([] : List (List Nat)).count k : Int) (left.count k : Int))).sum = 0 := by
      intro l
      induction l with
      | nil => rfl
      | cons k l ih =>
        rw [List.map_cons, List.sum_cons, ih, List.count_nil]
        have : max (0 : Int) (((0 : Nat) : Int) - min ((0 : Nat) : Int) (left.count k : Int)) = 0 := by omega
        rw [this]; rfl
    rw [this]; rfl
  | cons x r ih =>
    intro left h
    unfold unmet
    by_cases hx : x ∈ left
    · rw [if_pos hx, ← ih (left.erase x) fun k hk => h k ?_]
      · congr 1
        refine List.map_congr_left fun k _ => ?_
        by_cases e : k = x
        · subst e
          have := List.count_pos_iff.mpr hx
          rw [List.count_cons_self, List.count_erase_self]
          omega
        · rw [List.count_cons_of_ne (Ne.symm e), List.count_erase_of_ne e]
      · by_cases e : k = x
        · subst e
          have := List.count_pos_iff.mpr hx
          rw [List.count_erase_self] at hk
          rw [List.count_cons_self]; omega
        · rw [List.count_erase_of_ne e] at hk
          rw [List.count_cons_of_ne (Ne.symm e)]; exact hk
    · rw [if_neg hx]
      have h0 : left.count x = 0 := List.count_eq_zero.mpr hx
      have hxk : x ∈ ks := h x (by rw [h0, List.count_cons_self]; omega)
      have e2 : ∀ k, r.count k ≤ (x :: r).count k := fun k => List.count_le_count_cons
      have := ih left fun k hk => h k (Nat.lt_of_lt_of_le hk (e2 k))
      push_cast
      rw [← this]
      clear this ih h
      induction ks with
      | nil => cases hxk
      | cons k ks ihk =>
        obtain ⟨n1, n2⟩ := List.nodup_cons.mp nd
        rw [List.map_cons, List.sum_cons, List.map_cons, List.sum_cons]
        rcases List.mem_cons.mp hxk with rfl | hxk
        · have same : (ks.map fun k => max 0 (((x :: r).count k : Int) - min ((x :: r).count k : Int) (left.count k : Int))) = ks.map fun k => max 0 ((r.count k : Int) - min (r.count k : Int) (left.count k : Int)) := by
            refine List.map_congr_left fun k hk => ?_
            have e : x ≠ k := fun e => n1 (e ▸ hk)
            rw [List.count_cons_of_ne e]
          rw [same, List.count_cons_self, h0]
          push_cast
          omega
        · have e : x ≠ k := fun e => n1 (e ▸ hxk)
          rw [ihk n2 hxk, List.count_cons_of_ne e]
          omega
theorem count_unmet {z : Bool} {gk : Heap} {zs : KV} {G1 G2 : List (List Nat)} (M : CM prog w z gk zs (fun k => max 0 (cntF G1 k - min (cntF G1 k) (cntF G2 k)))) (P : KeysPos zs (fun k => max 0 (cntF G1 k - min (cntF G1 k) (cntF G2 k)))) :
    ((keysK zs).map fun k => max 0 (cntF G1 k - min (cntF G1 k) (cntF G2 k))).sum = (unmet G1 G2 : Int) := by
  refine unmet_sum (keysK zs) M.keys.nd G1 G2 fun k hk => (P k).mpr ?_
  show max 0 ((G1.count k : Int) - min (G1.count k : Int) (G2.count k : Int)) ≠ 0
  omega
theorem count_unmet' {z : Bool} {gk : Heap} {zs : KV} {G1 G2 : List (List Nat)} (M : CM prog w z gk zs (fun k => max 0 (cntF G2 k - min (cntF G1 k) (cntF G2 k)))) (P : KeysPos zs (fun k => max 0 (cntF G2 k - min (cntF G1 k) (cntF G2 k)))) :
    ((keysK zs).map fun k => max 0 (cntF G2 k - min (cntF G1 k) (cntF G2 k))).sum = (unmet G2 G1 : Int) := by
  have e : (fun k => max 0 (cntF G2 k - min (cntF G1 k) (cntF G2 k))) = fun k => max 0 (cntF G2 k - min (cntF G2 k) (cntF G1 k)) := by
    funext k; omega
  rw [e] at M P ⊢
  exact count_unmet M P
set_option maxHeartbeats 4000000 in
/-- Bag.__call__ of two words -/
theorem bagcall_ct {A : Around} {s : Shared} {g : Heap} {R : Result → Shared → Prop} {x dx : Addr} {a b : List Nat} {q : Nat} {ta tb tq : Tok}
  (G : Gd w g) (O : Own g s.heap [(167, isTab), (296, isTab)]) (hb : AllBare s.gens) (rm : Rm 12 A) (hx : At g (x, isO (instObj 304 dx))) (hd : At g (dx, isA (bagAt q tq))) (hq : q = 1 ∨ q = 2 ∨ q = 3) (ha : a.length ≤ 10) (hbl : b.length ≤ 10)
  (ret : ∀ t h' t' gs, AllBare gs → Own g h' [(167, isTab), (296, isTab)] → R (.ok (.ret (.int (max (unmet (grams a q) (grams b q) : Int) (unmet (grams b q) (grams a q) : Int)) t))) { s with heap := h', toks := t', gens := gs }) :
  codeAny (model prog w) A (.call (.ref 301) ⟨[.ref x, .str (sw a) ta, .str (sw b) tb], []⟩) R s := by
  have hh := rm.hh
  refine enterCV (vs := [.str (sw a) ta, .str (sw b) tb]) (bindsV := fun T => [("self", .ref x), ("sequences", T)]) (fun L => [("intersection", L + 2), ("self", L + 1)]) (fun T L => [(L + 2, isCell none), (L + 1, isCell (some (.ref x)))]) G O (by k_is) (by conv => lhs; whnf) (by conv => lhs; whnf) (by conv => lhs; whnf) (by k_is) rm rfl (by simp) (fun v => rfl) (fun L => by rfl) (fun T L => rfl) (by decide) (fun T L h₁ tk S => ?_) rfl rfl rfl
  walk_at "S_go"
  have S₁ := ‹St g L _ _ _›
  refine bmA S₁ G (C := 304) (S₁.at hx) (S₁.at hd) (by k_is) (by k_is) (by k_is) (by k_is) (by k_is) (by decide +kernel) rfl (by k_is) fun qm h₂ S₂ => ?_
  clear S₁
  dsimp only
  refine starM (by k_is) G S₂ (.head _) ?_
  repeat' ((fail_if_success (with_reducible show StarOf _ _ _ _ _ _)); (first | walk1 | (dsimp only; walk1)); (try dsimp only))
  have S₂' := ‹St g L _ _ _›
  refine starT S₂' (S₂'.get (.tail _ (.tail _ (.tail _ (.head _))))) (by simp) fun h₃ S₃ => ?_
  refine ⟨G.X.keeps S₃.keep, S₃.get (.head _), ?_⟩
  clear S₂ S₂'
  obtain ⟨g₁, b₁, O₁, r₁, all₁, back⟩ := S₃.lend [(167, isTab)] [(L + 2, isCell none), (L + 1, isCell (some (.ref x))), (T, isT [.str (sw a) ta, .str (sw b) tb]), (296, isTab)] (by simp) (by simp) (by
    have := S₃.o.nd
    simp only [List.map_cons, List.map_nil, List.cons_append, List.nil_append, List.nodup_cons, List.mem_cons, List.not_mem_nil, or_false, not_or] at this ⊢
    grind)
  refine getctr_ct (G.keeps b₁) O₁ hb ((rm.deeper _).mono (by omega)) (hx.keeps b₁) (hd.keeps b₁) hq ha hbl fun z gk tl l c1 d1 xs1 c2 d2 xs2 h₅ t₅ gs₅ hb₅ htl X1 X2 O₅ => ?_
  have S₅ := back _ _ O₅
  clear S₃ O₁ r₁ all₁ back b₁
  have S₆ : St g L h₅ _ (((l, isL [.ref c1, .ref c2]) :: tl) ++ [(L + 2, isCell none), (L + 1, isCell (some (.ref x))), (167, isTab), (296, isTab)]) := S₅.sub (fun p hp => by
      simp only [List.mem_cons, List.mem_append, List.cons_append, List.nil_append] at hp ⊢
      grind) (by
    have := S₅.o.nd
    simp only [List.map_cons, List.map_append, List.map_nil, List.cons_append, List.nil_append, List.nodup_cons, List.mem_cons, List.mem_append, List.nodup_append, List.not_mem_nil, or_false, not_or] at this ⊢
    grind)
  obtain ⟨g₂, sub₂, S₇, kn⟩ := S₆.absorb _
  have hgk : Sub gk g₂ := fun b o e => by
    obtain ⟨o', e', hP⟩ := kn _ (.tail _ (htl b o e))
    have hP' : o' = o := hP
    subst hP'
    exact e'
  have Y1 := X1.keeps hgk
  have Y2 := X2.keeps hgk
  have hl := kn _ (.head _)
  have G₂ := G.keeps sub₂
  have hx₂ := hx.keeps sub₂
  have hd₂ := hd.keeps sub₂
  clear S₅ S₆ kn htl X1 X2 O₅
  dsimp only
  walk_at "S_go"
  have S₈ := ‹St g₂ L _ _ _›
  refine bmA S₈ G₂ (C := 304) (S₈.at hx₂) (S₈.at hd₂) (by k_is) (by k_is) (by k_is) (by k_is) (by k_is) (by decide +kernel) rfl (by k_is) fun qm₂ h₉ S₉ => ?_
  clear S₈
  dsimp only
  refine starM (by k_is) G₂ S₉ (.head _) ?_
  repeat' ((fail_if_success (with_reducible show StarOf _ _ _ _ _ _)); (first | walk1 | (dsimp only; walk1)); (try dsimp only))
  have S₉' := ‹St g₂ L _ _ _›
  refine starL S₉' (S₉'.at hl) (by simp) fun h₁₀ S₁₀ => ?_
  refine ⟨G₂.X.keeps S₁₀.keep, S₁₀.get (.head _), ?_⟩
  clear S₉ S₉'
  have S₁₁ := S₁₀.drop1
  clear S₁₀
  refine inter_ct (dx := 0) (G₂.keeps S₁₁.keep) (fun b o e => S₁₁.keep b o (hgk b o e)) (Own.refl _) ((rm.deeper _).mono (by omega)) (Y1.keeps S₁₁.keep) (Y2.keeps S₁₁.keep) fun y dy ys h₁₂ t₁₂ ys0 M0 P0 L0 O₁₂ => ?_
  have S₁₂ := S₁₁.call O₁₂
  clear S₁₁
  have S₁₃ : St g₂ L h₁₂ _ ([(y, isCt prog w z dy ys), (dy, isA [])] ++ [(L + 2, isCell none), (L + 1, isCell (some (.ref x))), (167, isTab), (296, isTab)]) := S₁₂
  obtain ⟨g₃, sub₃, S₁₄, kn⟩ := S₁₃.absorb _
  have hy := kn _ (.head _)
  have hdy := kn _ (.tail _ (.head _))
  have G₃ := G₂.keeps sub₃
  have hx₃ := hx₂.keeps sub₃
  have hd₃ := hd₂.keeps sub₃
  have hl₃ := hl.keeps sub₃
  have hgk₃ : Sub gk g₃ := fun b o e => sub₃ b o (hgk b o e)
  have Z1 := Y1.keeps sub₃
  have Z2 := Y2.keeps sub₃
  clear S₁₂ S₁₃ kn
  dsimp only
  repeat' ((fail_if_success (with_reducible show wpAny _ _ (eval (Expr.GeneratorExp _ _ _ _) _) _ _ _)); (first | walk1 | (dsimp only; walk1)); (try dsimp only))
  refine genS (c := 300) (P := 296) (cl := [("self", L + 1), ("intersection", L + 2)]) (rm.deeper _).hh rfl rfl (by decide) rfl rfl rfl (rm.deeper _).room rfl rfl ?_ (fun _ => rfl)
  walk_at "S_go"
  have S₁₅ := ‹St g₃ L _ _ _›
  have h296 : g₃.get? 296 = none := (S₁₅.o.own (296, isTab) (by simp)).2
  refine iterListW (S₁₅.at hl₃) S₁₅ fun I h₁₆ Si W st S₁₆ bd lt _ => ?_
  have nI := headNe S₁₆
  have S₁₇ := S₁₆.sub (news' := [(I, any), (296, isTab), (L + 2, isCell (some (.ref y))), (L + 1, isCell (some (.ref x))), (167, isTab)]) (by simp) (by
    have := S₁₆.o.nd
    simp only [List.map_cons, List.map_nil, List.nodup_cons, List.mem_cons, List.not_mem_nil, or_false, not_or] at this ⊢
    grind)
  refine ⟨g₃, _, I, [I, l], _, _, Si, [(L + 2, isCell (some (.ref y))), (L + 1, isCell (some (.ref x))), (167, isTab)],
    fun i v => ∃ t, v = Value.int (if i = 0 then (unmet (grams a q) (grams b q) : Int) else (unmet (grams b q) (grams a q) : Int)) t, rfl, W, st, bd, ?_, G₃, code300 G₃, S₁₇, hb₅, ?_, ?_⟩
  · have h1 := nI (296, isTab) (by simp)
    have h2 : (296 : Addr) ≠ l := fun e => by
      obtain ⟨o, e2, _⟩ := hl₃
      rw [← e, h296] at e2; cases e2
    simpa using ⟨h1, h2⟩
  · intro code C A' i v t m₂ g₄ hA hD hU hi hv sub hr all hm S'
    have G₄ := G₃.keeps sub
    have rm' : Rm 8 A' := ⟨hA, by have := rm.d; have h1 : A'.depth ≤ A.depth + 1 + 1 := hD; omega, by have := rm.u; have h1 : A'.units ≤ A.units + 3 + 8 := hU; omega⟩
    have hx₄ := hx₃.keeps sub
    have hd₄ := hd₃.keeps sub
    have hc1 : At g₄ (L + 1, isCell (some (.ref x))) := hr _ (by simp)
    have hc2 : At g₄ (L + 2, isCell (some (.ref y))) := hr _ (by simp)
    have V1 := Z1.keeps sub
    have V2 := Z2.keeps sub
    have hy₄ := hy.keeps sub
    have hdy₄ := hdy.keeps sub
    have hz1 := V1.at_
    have hz2 := V2.at_
    have hgk₄ : Sub gk g₄ := fun b o e => sub b o (hgk₃ b o e)
    have hcl1 : ∀ k, (grams a q).count k ≤ 10 := fun k => Nat.le_trans List.count_le_length (by rw [grams_len]; omega)
    have hcl2 : ∀ k, (grams b q).count k ≤ 10 := fun k => Nat.le_trans List.count_le_length (by rw [grams_len]; omega)
    clear S₁₅ S₁₆ S₁₇
    match i, hv with
    | 0, hv =>
      cases hv
      walk_at "S_go"
      have S₁₈ := ‹St g₄ C _ _ _›
      refine sub_ct (G₄.keeps S₁₈.keep) (fun b o e => S₁₈.keep b o (hgk₄ b o e)) (Own.refl _) (rm'.mono (by omega)) V1.s (V1.at_.keeps S₁₈.keep) V1.M V1.l ys0 (hy₄.keeps S₁₈.keep) (hdy₄.keeps S₁₈.keep) M0 (fun k => ?_) fun u du zs h₁₉ t₁₉ u0 MZ PZ LZ O₁₉ => ?_
      · unfold cntF; omega
      have S₁₉ := S₁₈.call O₁₉
      clear S₁₈
      dsimp only [PySem.W.CmpBack]
      walk_at "S_go"
      have S₂₀ := ‹St g₄ C _ _ _›
      refine count_ct (G₄.keeps S₂₀.keep) (Own.refl _) (rm'.mono (by omega)) (S₂₀.at hx₄) (S₂₀.at hd₄) rfl u0 (S₂₀.get (.head _)) (S₂₀.get (.tail _ (.head _))) MZ (fun k => ?_) LZ fun t₂₀ h₂₁ t₂₁ O₂₁ => ?_
      · have h1 := hcl1 k
        have h2 := hcl2 k
        unfold cntF; omega
      rw [count_unmet MZ PZ]
      have S₂₁ := S₂₀.call0 O₂₁
      clear S₂₀
      dsimp only
      walk_at "S_go"
      exact ⟨_, _, rfl, fun b o e => O₂₁.keep b o (O₁₉.keep b o e)⟩
    | 1, hv =>
      cases hv
      walk_at "S_go"
      have S₁₈ := ‹St g₄ C _ _ _›
      refine sub_ct (G₄.keeps S₁₈.keep) (fun b o e => S₁₈.keep b o (hgk₄ b o e)) (Own.refl _) (rm'.mono (by omega)) V2.s (V2.at_.keeps S₁₈.keep) V2.M V2.l ys0 (hy₄.keeps S₁₈.keep) (hdy₄.keeps S₁₈.keep) M0 (fun k => ?_) fun u du zs h₁₉ t₁₉ u0 MZ PZ LZ O₁₉ => ?_
      · unfold cntF; omega
      have S₁₉ := S₁₈.call O₁₉
      clear S₁₈
      dsimp only [PySem.W.CmpBack]
      walk_at "S_go"
      have S₂₀ := ‹St g₄ C _ _ _›
      refine count_ct (G₄.keeps S₂₀.keep) (Own.refl _) (rm'.mono (by omega)) (S₂₀.at hx₄) (S₂₀.at hd₄) rfl u0 (S₂₀.get (.head _)) (S₂₀.get (.tail _ (.head _))) MZ (fun k => ?_) LZ fun t₂₀ h₂₁ t₂₁ O₂₁ => ?_
      · have h1 := hcl1 k
        have h2 := hcl2 k
        unfold cntF; omega
      rw [count_unmet' MZ PZ]
      have S₂₁ := S₂₀.call0 O₂₁
      clear S₂₀
      dsimp only
      walk_at "S_go"
      exact ⟨_, _, rfl, fun b o e => O₂₁.keep b o (O₁₉.keep b o e)⟩
    | i + 2, hv => simp at hv
  · intro ag h₁₈ tk₁₈ gs hbg U
    dsimp only
    walk1
    refine maxGen (fun i => if i = 0 then (unmet (grams a q) (grams b q) : Int) else (unmet (grams b q) (grams a q) : Int)) U hbg (fun _ _ e => e) (by simp) fun j t h₁₉ tk₁₉ gs₁₉ hj hbest S₁₉ hb₁₉ => ?_
    replace S₁₉ : St g₃ L h₁₉ _ _ := S₁₉
    clear U
    dsimp only
    walk_at "S_go"
    have e : (if j = 0 then (unmet (grams a q) (grams b q) : Int) else (unmet (grams b q) (grams a q) : Int)) = max (unmet (grams a q) (grams b q) : Int) (unmet (grams b q) (grams a q) : Int) := by
      have h0 := hbest 0 (by simp)
      have h1 := hbest 1 (by simp)
      by_cases hj0 : j = 0
      · subst hj0
        simp only [if_true, Nat.one_ne_zero, if_false] at h0 h1 ⊢
        omega
      · simp only [hj0, if_true, Nat.one_ne_zero, if_false] at h0 h1 ⊢
        omega
    rw [e]
    refine ret t _ _ _ hb₁₉ ?_
    have O₂₂ := (S₁₉.o.down sub₃).down sub₂
    exact O₂₂.sub (by simp) (by
      have := O₂₂.nd
      simp only [List.map_cons, List.map_nil, List.nodup_cons, List.mem_cons, List.not_mem_nil, or_false, not_or] at this ⊢
      grind)
end
section
variable {prog : Program} {w : World}
set_option maxHeartbeats 4000000 in
/-- Bag(qval=q) -/
theorem bagnew_ct {A : Around} {s : Shared} {g : Heap} {R : Result → Shared → Prop} {q : Nat} {tq : Tok}
  (G : Gd w g) (O : Own g s.heap []) (rm : Rm 3 A)
  (ret : ∀ x dx h' t', Own g h' [(x, isO (instObj 304 dx)), (dx, isA (bagAt q tq))] → R (.ok (.ret (.ref x))) { s with heap := h', toks := t' }) :
  codeAny (model prog w) A (.call (.ref 304) ⟨[], [("qval", .int q tq)]⟩) R s := by
  have hh := rm.hh
  refine makeS G O (by k_is) (by k_is) (by k_is) fun x dx h₀ O₀ => ?_
  refine enter G O₀ (by k_is) (by conv => lhs; whnf) (by conv => lhs; whnf) (by conv => lhs; whnf) (by k_is) (rm.make _ _ _) (binds_K (binds := [("self", .ref x), ("qval", .int q tq), ("external", .bool true)]) (G.X.keeps O₀.keep) rfl (by k_is) rfl rfl rfl) (locs rfl) (fun L h₁ tk S => ?_) rfl rfl rfl (by decide)
  walk_at "S_go"
  exact ⟨rfl, ret _ _ _ _ (St.o ‹St g L _ _ _›)⟩
set_option maxHeartbeats 4000000 in
/-- Base.distance for Bag -/
theorem bagdist_ct {A : Around} {s : Shared} {g : Heap} {R : Result → Shared → Prop} {x dx : Addr} {a b : List Nat} {q : Nat} {ta tb tq : Tok}
  (G : Gd w g) (O : Own g s.heap [(167, isTab), (296, isTab)]) (hb : AllBare s.gens) (rm : Rm 14 A) (hx : At g (x, isO (instObj 304 dx))) (hd : At g (dx, isA (bagAt q tq))) (hq : q = 1 ∨ q = 2 ∨ q = 3) (ha : a.length ≤ 10) (hbl : b.length ≤ 10)
  (ret : ∀ t h' t' gs, AllBare gs → Own g h' [(167, isTab), (296, isTab)] → R (.ok (.ret (.int (max (unmet (grams a q) (grams b q) : Int) (unmet (grams b q) (grams a q) : Int)) t))) { s with heap := h', toks := t', gens := gs }) :
  codeAny (model prog w) A (.call (.ref 122) ⟨[.ref x, .str (sw a) ta, .str (sw b) tb], []⟩) R s := by
  have hh := rm.hh
  refine enterV (vs := [.str (sw a) ta, .str (sw b) tb]) (bindsV := fun T => [("self", .ref x), ("sequences", T)]) G O (by k_is) (by conv => lhs; whnf) (by conv => lhs; whnf) (by conv => lhs; whnf) (by k_is) rm rfl (by simp) (fun v => locs rfl) (fun T L h₁ tk S => ?_) rfl rfl rfl (by decide)
  walk_at "S_go"
  have S₁ := ‹St g L _ _ _›
  refine callA (G.X.keeps S₁.keep) (hx.keeps S₁.keep) (hd.keeps S₁.keep) (by k_is) (by k_is) (by k_is) ?_
  obtain ⟨g₁, b₁, O₁, r₁, all₁, back⟩ := S₁.lend [(167, isTab), (296, isTab)] [(T, isT [.str (sw a) ta, .str (sw b) tb])] (by simp) (by simp) (by
    have := S₁.o.nd
    simp only [List.map_cons, List.map_nil, List.cons_append, List.nil_append, List.nodup_cons, List.mem_cons, List.not_mem_nil, or_false, not_or] at this ⊢
    grind)
  refine bagcall_ct (G.keeps b₁) O₁ hb ((rm.deeper _).mono (by omega)) (hx.keeps b₁) (hd.keeps b₁) hq ha hbl fun t h₆ t₆ gs₆ hb₆ O₆ => ?_
  have O₇ := (back _ _ O₆).o
  exact ret _ _ _ _ hb₆ (O₇.sub (by simp) (by
    have := O₇.nd
    simp only [List.map_cons, List.map_nil, List.cons_append, List.nil_append, List.nodup_cons, List.mem_cons, List.not_mem_nil, or_false, not_or] at this ⊢
    grind))
end
section
/-- the bag distance by pieces of q letters -/
def bagV (q : Nat) (a b : List Nat) : Int := max (unmet (grams a q) (grams b q) : Int) (unmet (grams b q) (grams a q) : Int)
inductive Steps : Nat → List Nat → List Nat → Prop
  | zero (a : List Nat) : Steps 0 a a
  | succ {n : Nat} {a b c : List Nat} : Steps n a b → Turned b c → Steps (n + 1) a c
theorem bagV_comm (q : Nat) (a b : List Nat) : bagV q a b = bagV q b a := by unfold bagV; omega
end
section
/-- one step between words; s: may it be a swap -/
inductive Op (s : Bool) : List Nat → List Nat → Prop
  | none (x : List Nat) : Op s x x
  | ins (p : List Nat) (c : Nat) (t : List Nat) : Op s (p ++ t) (p ++ c :: t)
  | del (p : List Nat) (c : Nat) (t : List Nat) : Op s (p ++ c :: t) (p ++ t)
  | sub (p : List Nat) (c d : Nat) (t : List Nat) : Op s (p ++ c :: t) (p ++ d :: t)
  | swp (p : List Nat) (c d : Nat) (t : List Nat) (h : s = true) : Op s (p ++ c :: d :: t) (p ++ d :: c :: t)
/-- at most n steps -/
inductive Ch (s : Bool) : Nat → List Nat → List Nat → Prop
  | nil (n : Nat) (x : List Nat) : Ch s n x x
  | step {n : Nat} {x y z : List Nat} : Op s x y → Ch s n y z → Ch s (n + 1) x z
theorem Op.symm {s : Bool} {x y : List Nat} (o : Op s x y) : Op s y x := by
  cases o with
  | none => exact .none _
  | ins p c t => exact .del p c t
  | del p c t => exact .ins p c t
  | sub p c d t => exact .sub p d c t
  | swp p c d t h => exact .swp p d c t h
theorem Op.app {s : Bool} {x y : List Nat} (o : Op s x y) (t : List Nat) : Op s (x ++ t) (y ++ t) := by
  cases o with
  | none => exact .none _
  | ins p c u => simpa using Op.ins (s := s) p c (u ++ t)
  | del p c u => simpa using Op.del (s := s) p c (u ++ t)
  | sub p c d u => simpa using Op.sub (s := s) p c d (u ++ t)
  | swp p c d u h => simpa using Op.swp (s := s) p c d (u ++ t) h
theorem Ch.app {s : Bool} {n : Nat} {x y : List Nat} (o : Ch s n x y) (t : List Nat) : Ch s n (x ++ t) (y ++ t) := by
  induction o with
  | nil n x => exact .nil _ _
  | step h _ ih => exact .step (h.app t) ih
theorem Ch.mono {s : Bool} {n m : Nat} {x y : List Nat} (o : Ch s n x y) (h : n ≤ m) : Ch s m x y := by
  induction o generalizing m with
  | nil n x => exact .nil _ _
  | step o _ ih =>
    obtain ⟨k, rfl⟩ : ∃ k, m = k + 1 := ⟨m - 1, by omega⟩
    exact .step o (ih (by omega))
theorem Ch.trans {s : Bool} {n m : Nat} {x y z : List Nat} (o : Ch s n x y) (o' : Ch s m y z) : Ch s (n + m) x z := by
  induction o with
  | nil n x => exact o'.mono (by omega)
  | step o _ ih =>
    rename_i n _ _ _ _
    have := Ch.step o (ih o')
    exact this.mono (by omega)
theorem Ch.one {s : Bool} {x y : List Nat} (o : Op s x y) : Ch s 1 x y := .step o (.nil 0 _)
theorem Ch.symm {s : Bool} {n : Nat} {x y : List Nat} (o : Ch s n x y) : Ch s n y x := by
  induction o with
  | nil n x => exact .nil _ _
  | step o _ ih => exact ih.trans (.one o.symm)
theorem Ch.dels {s : Bool} (p x : List Nat) : ∀ t : List Nat, Ch s t.length (p ++ t ++ x) (p ++ x)
  | [] => by simpa using Ch.nil 0 _
  | c :: t => by
    have h1 : Op s (p ++ c :: (t ++ x)) (p ++ (t ++ x)) := .del p c (t ++ x)
    have h2 := Ch.dels (s := s) p x t
    rw [List.append_assoc] at h2
    have := Ch.step h1 h2
    simpa using this
theorem Ch.inss {s : Bool} (p x t : List Nat) : Ch s t.length (p ++ x) (p ++ t ++ x) := (Ch.dels p x t).symm
theorem Ch.all {s : Bool} (x y : List Nat) : Ch s (x.length + y.length) x y := by
  have h1 := Ch.dels (s := s) [] [] x
  have h2 := Ch.inss (s := s) [] [] y
  simpa using h1.trans h2

/-! the bag -/
theorem unmet_le {m m' : List (List Nat)} : ∀ {xs ys : List (List Nat)}, (xs ++ m').Perm (ys ++ m) → unmet xs ys ≤ m.length := by
  intro xs
  induction xs generalizing m with
  | nil => intro ys _; simp [unmet]
  | cons x r ih =>
    intro ys h
    unfold unmet
    split
    · rename_i hx
      have h1 : (x :: (r ++ m')).Perm (x :: (ys.erase x ++ m)) := h.trans ((List.perm_cons_erase hx).append_right m)
      exact ih (List.Perm.cons_inv h1)
    · rename_i hx
      have hm : x ∈ m := by
        have : x ∈ ys ++ m := h.subset (by simp)
        rcases List.mem_append.mp this with h | h
        · exact absurd h hx
        · exact h
      have h1 : (x :: (r ++ m')).Perm (x :: (ys ++ m.erase x)) := by
        refine h.trans (((List.perm_cons_erase hm).append_left ys).trans ?_)
        exact List.perm_middle
      have := ih (List.Perm.cons_inv h1)
      have hl := List.length_erase_of_mem hm
      have : 0 < m.length := List.length_pos_of_mem hm
      omega
theorem unmet_ex : ∀ (xs ys : List (List Nat)), ∃ m m' : List (List Nat), m.length = unmet xs ys ∧ (xs ++ m').Perm (ys ++ m)
  | [], ys => ⟨[], ys, by simp [unmet], by simp⟩
  | x :: r, ys => by
    unfold unmet
    split
    · rename_i hx
      obtain ⟨m, m', h1, h2⟩ := unmet_ex r (ys.erase x)
      exact ⟨m, m', h1, (h2.cons x).trans ((List.perm_cons_erase hx).symm.append_right m)⟩
    · obtain ⟨m, m', h1, h2⟩ := unmet_ex r ys
      exact ⟨x :: m, m', by simp [h1], (h2.cons x).trans List.perm_middle.symm⟩
theorem unmet_tri (xs ys zs : List (List Nat)) : unmet xs zs ≤ unmet xs ys + unmet ys zs := by
  obtain ⟨m, m', h1, h2⟩ := unmet_ex xs ys
  obtain ⟨k, k', h3, h4⟩ := unmet_ex ys zs
  rw [← h1, ← h3]
  have h5 : (xs ++ (m' ++ k')).Perm (zs ++ (k ++ m)) := by
    have e1 : ((xs ++ m') ++ k').Perm ((ys ++ m) ++ k') := h2.append_right k'
    have e2 : ((ys ++ m) ++ k').Perm ((ys ++ k') ++ m) := by
      simp only [List.append_assoc]
      exact List.Perm.append_left ys List.perm_append_comm
    have e3 : ((ys ++ k') ++ m).Perm ((zs ++ k) ++ m) := h4.append_right m
    simpa using (e1.trans e2).trans e3
  have := unmet_le h5
  simp at this
  omega
theorem unmet_self (xs : List (List Nat)) : unmet xs xs = 0 := by
  have := unmet_le (xs := xs) (ys := xs) (m := []) (m' := []) (by simp)
  simpa using this
theorem bagV_self (q : Nat) (a : List Nat) : bagV q a a = 0 := by unfold bagV; rw [unmet_self]; rfl
theorem bagV_tri (q : Nat) (a b c : List Nat) : bagV q a c ≤ bagV q a b + bagV q b c := by
  unfold bagV
  have := unmet_tri (grams a q) (grams b q) (grams c q)
  have := unmet_tri (grams c q) (grams b q) (grams a q)
  omega
theorem bagV_nonneg (q : Nat) (a b : List Nat) : 0 ≤ bagV q a b := by unfold bagV; omega
theorem grams_nil {q : Nat} (hq : 1 ≤ q) : grams [] q = [] := by
  unfold grams
  have : ([] : List Nat).length + 1 - q = 0 := by simp; omega
  rw [this]; rfl
theorem grams_short {l : List Nat} {q : Nat} (h : l.length < q) : grams l q = [] := by
  unfold grams
  have : l.length + 1 - q = 0 := by omega
  rw [this]; rfl
theorem grams_cons (c : Nat) (l : List Nat) {q : Nat} (_ : 1 ≤ q) (h : q ≤ l.length + 1) : grams (c :: l) q = (c :: l).take q :: grams l q := by
  unfold grams
  have : (c :: l).length + 1 - q = (l.length + 1 - q) + 1 := by simp; omega
  rw [this, List.range_succ_eq_map, List.map_cons, List.map_map]
  congr 1
  · unfold gram; simp
  · refine List.map_congr_left fun k _ => ?_
    unfold gram
    simp [Nat.succ_add]
theorem grams_app {q : Nat} (hq : 1 ≤ q) (l2 : List Nat) : ∀ l1 : List Nat, ∃ X, grams (l1 ++ l2) q = grams l1 q ++ X ++ grams l2 q ∧ X.length ≤ l1.length ∧ X.length ≤ q - 1
  | [] => ⟨[], by rw [grams_nil hq]; rfl, by simp, by simp⟩
  | c :: l => by
    obtain ⟨X, h1, h2, h3⟩ := grams_app hq l2 l
    by_cases hs : q ≤ l.length + 1
    · refine ⟨X, ?_, by simp; omega, h3⟩
      rw [List.cons_append, grams_cons c (l ++ l2) hq (by simp; omega), grams_cons c l hq hs, h1]
      have : (c :: (l ++ l2)).take q = (c :: l).take q := by
        rw [← List.cons_append, List.take_append_of_le_length (by simpa using hs)]
      rw [this]
      simp
    · rw [grams_short (l := l) (by omega)] at h1
      by_cases hs2 : q ≤ (l ++ l2).length + 1
      · refine ⟨(c :: (l ++ l2)).take q :: X, ?_, by simpa using h2, by simp; omega⟩
        rw [List.cons_append, grams_cons c (l ++ l2) hq hs2, h1, grams_short (l := c :: l) (by simp; omega)]
        simp
      · have hs2' : (l ++ l2).length + 1 < q := by omega
        rw [List.length_append] at hs2'
        refine ⟨[], ?_, by simp, by simp⟩
        rw [grams_short (l := c :: l ++ l2) (by simp; omega), grams_short (l := c :: l) (by simp; omega), grams_short (l := l2) (by omega)]
        rfl
theorem grams_pre {q : Nat} (hq : 1 ≤ q) (v : List Nat) : ∀ m : List Nat, ∃ X, grams (m ++ v) q = X ++ grams v q ∧ X.length ≤ m.length
  | [] => ⟨[], by simp⟩
  | c :: m => by
    obtain ⟨X, h1, h2⟩ := grams_pre hq v m
    by_cases hs : q ≤ (m ++ v).length + 1
    · refine ⟨(c :: (m ++ v)).take q :: X, ?_, by simpa using h2⟩
      rw [List.cons_append, grams_cons c (m ++ v) hq hs, h1]
      rfl
    · have hs2' : (m ++ v).length + 1 < q := by omega
      rw [List.length_append] at hs2'
      refine ⟨[], ?_, by simp⟩
      rw [grams_short (l := c :: m ++ v) (by simp; omega), grams_short (l := v) (by omega)]
      rfl
theorem grams_mid {q : Nat} (hq : 1 ≤ q) (u m v : List Nat) : ∃ X, grams (u ++ (m ++ v)) q = grams u q ++ X ++ grams v q ∧ X.length ≤ m.length + (q - 1) := by
  obtain ⟨X, h1, _, h2⟩ := grams_app hq (m ++ v) u
  obtain ⟨Y, h3, h4⟩ := grams_pre hq v m
  exact ⟨X ++ Y, by rw [h1, h3]; simp, by simp; omega⟩
theorem unmet_mid (u m m' v : List (List Nat)) : unmet (u ++ m ++ v) (u ++ m' ++ v) ≤ m.length := by
  refine unmet_le (m' := m') ?_
  have e1 : ∀ a b : List (List Nat), ((u ++ a ++ v) ++ b).Perm (u ++ (v ++ (a ++ b))) := fun a b => by
    rw [List.append_assoc, List.append_assoc]
    refine List.Perm.append_left u ?_
    rw [← List.append_assoc, ← List.append_assoc]
    exact List.Perm.append_right b List.perm_append_comm
  exact (e1 m m').trans ((List.Perm.append_left u (List.Perm.append_left v List.perm_append_comm)).trans (e1 m' m).symm)
theorem bagV_mid {q : Nat} (hq : 1 ≤ q) (u m m' v : List Nat) {n : Nat} (h : m.length ≤ n) (h' : m'.length ≤ n) : bagV q (u ++ (m ++ v)) (u ++ (m' ++ v)) ≤ n + q - 1 := by
  obtain ⟨X, h1, h2⟩ := grams_mid hq u m v
  obtain ⟨Y, h3, h4⟩ := grams_mid hq u m' v
  unfold bagV
  rw [h1, h3]
  have := unmet_mid (grams u q) X Y (grams v q)
  have := unmet_mid (grams u q) Y X (grams v q)
  omega
theorem bagV_op {q : Nat} (hq : 1 ≤ q) {s : Bool} {a b : List Nat} (o : Op s a b) : bagV q a b ≤ q + (if s = true then 1 else 0) := by
  cases o with
  | none => rw [bagV_self]; split <;> omega
  | ins p c t =>
    have := bagV_mid hq p [] [c] t (n := 1) (by simp) (by simp)
    simp at this; split <;> omega
  | del p c t =>
    have := bagV_mid hq p [c] [] t (n := 1) (by simp) (by simp)
    simp at this; split <;> omega
  | sub p c d t =>
    have := bagV_mid hq p [c] [d] t (n := 1) (by simp) (by simp)
    simp at this; split <;> omega
  | swp p c d t h =>
    have := bagV_mid hq p [c, d] [d, c] t (n := 2) (by simp) (by simp)
    simp at this; rw [if_pos h]; omega
theorem bagV_ch {q : Nat} {K : Int} (hK : 0 ≤ K) {s : Bool} (h1 : ∀ a b, Op s a b → bagV q a b ≤ K) {n : Nat} {a b : List Nat} (o : Ch s n a b) : bagV q a b ≤ K * n := by
  induction o with
  | nil n x => rw [bagV_self]; exact Int.mul_nonneg hK (by omega)
  | step o _ ih =>
    rename_i n x y z _
    have := h1 _ _ o
    have := bagV_tri q x y z
    have e : K * ((n + 1 : Nat) : Int) = K * n + K := by push_cast; rw [Int.mul_add, Int.mul_one]
    omega
theorem grams_letters : ∀ l : List Nat, grams l 1 = l.map fun c => [c]
  | [] => grams_nil (by omega)
  | c :: l => by rw [grams_cons c l (by omega) (by omega), grams_letters l]; simp
theorem bag1_op {s : Bool} {a b : List Nat} (o : Op s a b) : bagV 1 a b ≤ 1 := by
  cases o with
  | none => rw [bagV_self]; decide
  | ins p c t =>
    have := bagV_mid (q := 1) (by omega) p [] [c] t (n := 1) (by simp) (by simp)
    simp at this; omega
  | del p c t =>
    have := bagV_mid (q := 1) (by omega) p [c] [] t (n := 1) (by simp) (by simp)
    simp at this; omega
  | sub p c d t =>
    have := bagV_mid (q := 1) (by omega) p [c] [d] t (n := 1) (by simp) (by simp)
    simp at this; omega
  | swp p c d t h =>
    have e : ((p ++ c :: d :: t).map fun c => [c]).Perm ((p ++ d :: c :: t).map fun c => [c]) := List.Perm.map _ (List.Perm.append_left p (.swap d c t))
    have e1 := unmet_le (xs := grams (p ++ c :: d :: t) 1) (ys := grams (p ++ d :: c :: t) 1) (m := []) (m' := []) (by simpa [grams_letters] using e)
    have e2 := unmet_le (xs := grams (p ++ d :: c :: t) 1) (ys := grams (p ++ c :: d :: t) 1) (m := []) (m' := []) (by simpa [grams_letters] using e.symm)
    unfold bagV
    simp at e1 e2
    omega
end
section
/-! what the tables reckon is a way -/
theorem take_snoc {a : List Nat} {i c : Nat} (h : a[i]? = some c) : a.take (i + 1) = a.take i ++ [c] := by
  rw [List.take_add_one, h]; rfl
theorem Op.end_sub {s : Bool} (x : List Nat) (c d : Nat) : Op s (x ++ [c]) (x ++ [d]) := .sub x c d []
theorem Ch.snoc2 {s : Bool} {n : Nat} {x y : List Nat} (o : Ch s n x y) (c d : Nat) : Ch s (n + 1) (x ++ [c]) (y ++ [d]) := (o.app [c]).trans (.one (.end_sub y c d))
theorem Ch.snocL {s : Bool} {n : Nat} {x y : List Nat} (o : Ch s n x y) (c : Nat) : Ch s (n + 1) (x ++ [c]) y := by
  have h : Op s (x ++ [c]) (x ++ []) := .del x c []
  rw [List.append_nil] at h
  exact .step h o
theorem Ch.snocR {s : Bool} {n : Nat} {x y : List Nat} (o : Ch s n x y) (c : Nat) : Ch s (n + 1) x (y ++ [c]) := (o.symm.snocL c).symm
theorem Ch.iMono {s : Bool} {n : Int} {m : Int} {x y : List Nat} (o : Ch s n.toNat x y) (h : n ≤ m) : Ch s m.toNat x y := o.mono (by omega)
theorem Ch.nilL {s : Bool} (y : List Nat) : Ch s y.length [] y := by simpa using Ch.all (s := s) [] y
theorem Ch.nilR {s : Bool} (y : List Nat) : Ch s y.length y [] := by simpa using Ch.all (s := s) y []
theorem lev_nonneg (a b : List Nat) (i j : Nat) : 0 ≤ lev a b i j := by
  fun_induction lev a b i j <;> omega
theorem osa_nonneg (a b : List Nat) (i j : Nat) : 0 ≤ osa a b i j := by
  fun_induction osa a b i j
  · omega
  · omega
  · rename_i cost base h ih1 ih2 ih3 ih4
    have hc : 0 ≤ cost := by
      show (0 : Int) ≤ if _ then _ else _
      split <;> omega
    have hb : base = min (min (osa a b _ _ + 1) (osa a b _ _ + 1)) (osa a b _ _ + cost) := rfl
    omega
  · rename_i cost base h ih1 ih2 ih3
    have hc : 0 ≤ cost := by
      show (0 : Int) ≤ if _ then _ else _
      split <;> omega
    have hb : base = min (min (osa a b _ _ + 1) (osa a b _ _ + 1)) (osa a b _ _ + cost) := rfl
    omega
theorem diag_ch {s : Bool} {a b : List Nat} {i j : Nat} {n m : Int} (h0 : 0 ≤ n) (hi : i < a.length) (hj : j < b.length) (o : Ch s n.toNat (a.take i) (b.take j)) (h : n + (if a[i]? = b[j]? then 0 else 1) ≤ m) : Ch s m.toNat (a.take (i + 1)) (b.take (j + 1)) := by
  obtain ⟨c, hc⟩ : ∃ c, a[i]? = some c := ⟨a[i], by simp [hi]⟩
  obtain ⟨d, hd⟩ : ∃ d, b[j]? = some d := ⟨b[j], by simp [hj]⟩
  rw [take_snoc hc, take_snoc hd]
  rw [hc, hd] at h
  by_cases e : c = d
  · subst e
    rw [if_pos rfl] at h
    exact (o.app [c]).iMono (by omega)
  · rw [if_neg (by simpa using e)] at h
    exact (o.snoc2 c d).mono (by omega)
theorem del_ch {s : Bool} {a : List Nat} {y : List Nat} {i : Nat} {n m : Int} (h0 : 0 ≤ n) (hi : i < a.length) (o : Ch s n.toNat (a.take i) y) (h : n + 1 ≤ m) : Ch s m.toNat (a.take (i + 1)) y := by
  obtain ⟨c, hc⟩ : ∃ c, a[i]? = some c := ⟨a[i], by simp [hi]⟩
  rw [take_snoc hc]
  exact (o.snocL c).mono (by omega)
theorem ins_ch {s : Bool} {b : List Nat} {x : List Nat} {i : Nat} {n m : Int} (h0 : 0 ≤ n) (hi : i < b.length) (o : Ch s n.toNat x (b.take i)) (h : n + 1 ≤ m) : Ch s m.toNat x (b.take (i + 1)) := (del_ch h0 hi o.symm h).symm
theorem lev_ch (a b : List Nat) : ∀ i j : Nat, i ≤ a.length → j ≤ b.length → Ch false (lev a b i j).toNat (a.take i) (b.take j)
  | 0, j, _, hj => by
    have := Ch.nilL (s := false) (b.take j)
    rw [List.length_take, Nat.min_eq_left hj] at this
    simpa [lev] using this
  | i + 1, 0, hi, _ => by
    have := Ch.nilR (s := false) (a.take (i + 1))
    rw [List.length_take, Nat.min_eq_left hi] at this
    have e : lev a b (i + 1) 0 = ((i + 1 : Nat) : Int) := by simp [lev]
    rw [e]
    simpa using this
  | i + 1, j + 1, hi, hj => by
    have h1 := lev_ch a b i j (by omega) (by omega)
    have h2 := lev_ch a b i (j + 1) (by omega) (by omega)
    have h3 := lev_ch a b (i + 1) j (by omega) (by omega)
    have n1 := lev_nonneg a b i j
    have n2 := lev_nonneg a b i (j + 1)
    have n3 := lev_nonneg a b (i + 1) j
    rw [lev]
    generalize hX : (if a[i]? = b[j]? then (0 : Int) else 1) = X
    rcases Int.le_total (lev a b i j + X) (lev a b i (j + 1) + 1) with h | h
    · rw [Int.min_eq_left h]
      rcases Int.le_total (lev a b i j + X) (lev a b (i + 1) j + 1) with h' | h'
      · rw [Int.min_eq_left h']
        exact diag_ch n1 (by omega) (by omega) h1 (by rw [hX]; omega)
      · rw [Int.min_eq_right h']
        exact ins_ch n3 (by omega) h3 (by omega)
    · rw [Int.min_eq_right h]
      rcases Int.le_total (lev a b i (j + 1) + 1) (lev a b (i + 1) j + 1) with h' | h'
      · rw [Int.min_eq_left h']
        exact del_ch n2 (by omega) h2 (by omega)
      · rw [Int.min_eq_right h']
        exact ins_ch n3 (by omega) h3 (by omega)
theorem swap_ch {a b : List Nat} {i j i1 j1 c d : Nat} {n m : Int} (h0 : 0 ≤ n) (hc : a[i]? = some c) (hd : b[j]? = some d) (hi1 : i1 < i) (hj1 : j1 < j) (hc1 : a[i1]? = some d) (hd1 : b[j1]? = some c)
  (o : Ch true n.toNat (a.take i1) (b.take j1)) (h : n + (i - i1 - 1) + 1 + (j - j1 - 1) ≤ m) : Ch true m.toNat (a.take (i + 1)) (b.take (j + 1)) := by
  have e : ∀ (l : List Nat) (k p x y : Nat), k < p → l[k]? = some x → l[p]? = some y → ∃ U, U.length = p - k - 1 ∧ l.take (p + 1) = l.take k ++ x :: (U ++ [y]) := by
    intro l k p x y hk hx hy
    refine ⟨(l.take p).drop (k + 1), ?_, ?_⟩
    · have := (List.getElem?_eq_some_iff.mp hy).1
      simp; omega
    · rw [take_snoc hy]
      have e1 : l.take p = (l.take p).take (k + 1) ++ (l.take p).drop (k + 1) := (List.take_append_drop _ _).symm
      have e2 : (l.take p).take (k + 1) = l.take k ++ [x] := by
        rw [List.take_take, Nat.min_eq_left (by omega), take_snoc hx]
      rw [e2] at e1
      generalize (l.take p).drop (k + 1) = D at e1 ⊢
      rw [e1]
      simp
  obtain ⟨U, lU, eU⟩ := e a i1 i d c hi1 hc1 hc
  obtain ⟨V, lV, eV⟩ := e b j1 j c d hj1 hd1 hd
  rw [eU, eV]
  have s1 : Ch true U.length (a.take i1 ++ d :: (U ++ [c])) (a.take i1 ++ d :: c :: []) := by
    have := Ch.dels (s := true) (a.take i1 ++ [d]) [c] U
    simpa using this
  have s2 : Ch true 1 (a.take i1 ++ d :: c :: []) (a.take i1 ++ c :: d :: []) := .one (.swp _ _ _ _ rfl)
  have s3 : Ch true V.length (a.take i1 ++ c :: d :: []) (a.take i1 ++ c :: (V ++ [d])) := by
    have := Ch.inss (s := true) (a.take i1 ++ [c]) [d] V
    simpa using this
  have s4 := o.app (c :: (V ++ [d]))
  exact (((s1.trans s2).trans s3).trans s4).mono (by omega)
theorem osa_ch (a b : List Nat) : ∀ i j : Nat, i ≤ a.length → j ≤ b.length → Ch true (osa a b i j).toNat (a.take i) (b.take j)
  | 0, j, _, hj => by
    have := Ch.nilL (s := true) (b.take j)
    rw [List.length_take, Nat.min_eq_left hj] at this
    simpa [osa] using this
  | i + 1, 0, hi, _ => by
    have := Ch.nilR (s := true) (a.take (i + 1))
    rw [List.length_take, Nat.min_eq_left hi] at this
    have e : osa a b (i + 1) 0 = ((i + 1 : Nat) : Int) := by simp [osa]
    rw [e]
    simpa using this
  | i + 1, j + 1, hi, hj => by
    have h1 := osa_ch a b i j (by omega) (by omega)
    have h2 := osa_ch a b i (j + 1) (by omega) (by omega)
    have h3 := osa_ch a b (i + 1) j (by omega) (by omega)
    have h4 := osa_ch a b (i - 1) (j - 1) (by omega) (by omega)
    have n1 := osa_nonneg a b i j
    have n2 := osa_nonneg a b i (j + 1)
    have n3 := osa_nonneg a b (i + 1) j
    have n4 := osa_nonneg a b (i - 1) (j - 1)
    rw [osa]
    generalize hX : (if a[i]? = b[j]? then (0 : Int) else 1) = X
    have base : Ch true (min (min (osa a b i (j + 1) + 1) (osa a b (i + 1) j + 1)) (osa a b i j + X)).toNat (a.take (i + 1)) (b.take (j + 1)) := by
      rcases Int.le_total (osa a b i (j + 1) + 1) (osa a b (i + 1) j + 1) with h | h
      · rw [Int.min_eq_left h]
        rcases Int.le_total (osa a b i (j + 1) + 1) (osa a b i j + X) with h' | h'
        · rw [Int.min_eq_left h']
          exact del_ch n2 (by omega) h2 (by omega)
        · rw [Int.min_eq_right h']
          exact diag_ch n1 (by omega) (by omega) h1 (by rw [hX]; omega)
      · rw [Int.min_eq_right h]
        rcases Int.le_total (osa a b (i + 1) j + 1) (osa a b i j + X) with h' | h'
        · rw [Int.min_eq_left h']
          exact ins_ch n3 (by omega) h3 (by omega)
        · rw [Int.min_eq_right h']
          exact diag_ch n1 (by omega) (by omega) h1 (by rw [hX]; omega)
    generalize hB : min (min (osa a b i (j + 1) + 1) (osa a b (i + 1) j + 1)) (osa a b i j + X) = B at base ⊢
    split
    · rename_i hc
      obtain ⟨c1, c2, c3, c4⟩ := hc
      rcases Int.le_total B (osa a b (i - 1) (j - 1) + X) with h | h
      · rw [Int.min_eq_left h]; exact base
      · rw [Int.min_eq_right h]
        obtain ⟨c, hc⟩ : ∃ c, a[i]? = some c := ⟨a[i]'(by omega), List.getElem?_eq_getElem _⟩
        obtain ⟨d, hd⟩ : ∃ d, b[j]? = some d := ⟨b[j]'(by omega), List.getElem?_eq_getElem _⟩
        by_cases e : c = d
        · subst e
          have hX0 : X = 0 := by rw [← hX, hc, hd, if_pos rfl]
          have e1 : Ch true (osa a b (i - 1) (j - 1)).toNat (a.take (i - 1 + 1)) (b.take (j - 1 + 1)) := diag_ch n4 (by omega) (by omega) h4 (by rw [c4, ← c3, hc, hd, if_pos rfl]; omega)
          have e2 : Ch true (osa a b (i - 1) (j - 1) + X).toNat (a.take (i - 1 + 1 + 1)) (b.take (j - 1 + 1 + 1)) := diag_ch n4 (by omega) (by omega) e1 (by
            rw [show i - 1 + 1 = i by omega, show j - 1 + 1 = j by omega, hc, hd, if_pos rfl]; omega)
          rw [show i - 1 + 1 = i by omega, show j - 1 + 1 = j by omega] at e2
          exact e2
        · have hX1 : X = 1 := by rw [← hX, hc, hd, if_neg (by simpa using e)]
          exact swap_ch n4 hc hd (i1 := i - 1) (j1 := j - 1) (by omega) (by omega) (c4.trans hd) (c3.symm.trans hc) h4 (by omega)
    · exact base
  termination_by i j => i + j
theorem lastI_at {a : List Nat} {c : Nat} : ∀ {i : Nat}, lastI a c i ≠ 0 → a[lastI a c i - 1]? = some c
  | 0, h => absurd rfl h
  | i + 1, h => by
    unfold lastI at h ⊢
    split
    · rename_i e; simpa using e
    · rename_i e
      rw [if_neg e] at h
      exact lastI_at h
theorem dl_nonneg (a b : List Nat) (M : Int) (hM : 0 ≤ M) : ∀ i j : Nat, 0 ≤ dl a b M i j
  | 0, j => by rw [dl_0']; omega
  | i + 1, 0 => by rw [dl_0]; omega
  | i + 1, j + 1 => by
    have h1 := dl_nonneg a b M hM i j
    have h2 := dl_nonneg a b M hM i (j + 1)
    have h3 := dl_nonneg a b M hM (i + 1) j
    have l1 := lastI_le a (b.getD j 0) i
    have l2 := lastI_le b (a.getD i 0) j
    have h4 := dl_nonneg a b M hM (lastI a (b.getD j 0) i - 1) (lastI b (a.getD i 0) j - 1)
    rw [dl]
    generalize dl a b M (lastI a (b.getD j 0) i - 1) (lastI b (a.getD i 0) j - 1) = Z at h4 ⊢
    split <;> split <;> omega
  termination_by i j => i + j
  decreasing_by
    all_goals first
      | omega
      | (have := lastI_le a (b.getD j 0) i; have := lastI_le b (a.getD i 0) j; omega)
theorem dl_ch (a b : List Nat) (M : Int) (hM : (a.length : Int) + b.length ≤ M) : ∀ i j : Nat, i ≤ a.length → j ≤ b.length → Ch true (dl a b M i j).toNat (a.take i) (b.take j)
  | 0, j, _, hj => by
    have := Ch.nilL (s := true) (b.take j)
    rw [List.length_take, Nat.min_eq_left hj] at this
    rw [dl_0']
    simpa using this
  | i + 1, 0, hi, _ => by
    have := Ch.nilR (s := true) (a.take (i + 1))
    rw [List.length_take, Nat.min_eq_left hi] at this
    rw [dl_0]
    simpa using this
  | i + 1, j + 1, hi, hj => by
    have l1 := lastI_le a (b.getD j 0) i
    have l2 := lastI_le b (a.getD i 0) j
    have h1 := dl_ch a b M hM i j (by omega) (by omega)
    have h2 := dl_ch a b M hM i (j + 1) (by omega) (by omega)
    have h3 := dl_ch a b M hM (i + 1) j (by omega) (by omega)
    have h4 := dl_ch a b M hM (lastI a (b.getD j 0) i - 1) (lastI b (a.getD i 0) j - 1) (by omega) (by omega)
    have n1 := dl_nonneg a b M (by omega) i j
    have n2 := dl_nonneg a b M (by omega) i (j + 1)
    have n3 := dl_nonneg a b M (by omega) (i + 1) j
    have n4 := dl_nonneg a b M (by omega) (lastI a (b.getD j 0) i - 1) (lastI b (a.getD i 0) j - 1)
    obtain ⟨c, hc⟩ : ∃ c, a[i]? = some c := ⟨a[i]'(by omega), List.getElem?_eq_getElem _⟩
    obtain ⟨d, hd⟩ : ∃ d, b[j]? = some d := ⟨b[j]'(by omega), List.getElem?_eq_getElem _⟩
    have g1 : a.getD i 0 = c := by simp [List.getD, hc]
    have g2 : b.getD j 0 = d := by simp [List.getD, hd]
    rw [dl, g1, g2]
    rw [g2] at l1
    rw [g1] at l2
    rw [g1, g2] at h4 n4
    have k1 := lastI_at (a := a) (c := d) (i := i)
    have k2 := lastI_at (a := b) (c := c) (i := j)
    generalize lastI a d i = i1 at *
    generalize lastI b c j = j1 at *
    have last : Ch true ((if i1 = 0 ∨ j1 = 0 then M else dl a b M (i1 - 1) (j1 - 1)) + (((i : Int) + 1) - (i1 : Int)) - 1 + (((j : Int) + 1) - (j1 : Int))).toNat (a.take (i + 1)) (b.take (j + 1)) := by
      split
      · have := Ch.all (s := true) (a.take (i + 1)) (b.take (j + 1))
        rw [List.length_take, List.length_take] at this
        refine this.mono ?_
        have := Nat.min_le_left (i + 1) a.length
        have := Nat.min_le_left (j + 1) b.length
        omega
      · rename_i hz
        exact swap_ch n4 hc hd (i1 := i1 - 1) (j1 := j1 - 1) (by omega) (by omega) (k1 (by omega)) (k2 (by omega)) h4 (by omega)
    generalize ((if i1 = 0 ∨ j1 = 0 then M else dl a b M (i1 - 1) (j1 - 1)) + (((i : Int) + 1) - (i1 : Int)) - 1 + (((j : Int) + 1) - (j1 : Int))) = Z at last ⊢
    generalize hX : (if a[i]? = b[j]? then (0 : Int) else 1) = X
    have base : Ch true (min (min (dl a b M i j + X) (dl a b M (i + 1) j + 1)) (dl a b M i (j + 1) + 1)).toNat (a.take (i + 1)) (b.take (j + 1)) := by
      rcases Int.le_total (dl a b M i j + X) (dl a b M (i + 1) j + 1) with h | h
      · rw [Int.min_eq_left h]
        rcases Int.le_total (dl a b M i j + X) (dl a b M i (j + 1) + 1) with h' | h'
        · rw [Int.min_eq_left h']
          exact diag_ch n1 (by omega) (by omega) h1 (by rw [hX]; omega)
        · rw [Int.min_eq_right h']
          exact del_ch n2 (by omega) h2 (by omega)
      · rw [Int.min_eq_right h]
        rcases Int.le_total (dl a b M (i + 1) j + 1) (dl a b M i (j + 1) + 1) with h' | h'
        · rw [Int.min_eq_left h']
          exact ins_ch n3 (by omega) h3 (by omega)
        · rw [Int.min_eq_right h']
          exact del_ch n2 (by omega) h2 (by omega)
    rcases Int.le_total (min (min (dl a b M i j + X) (dl a b M (i + 1) j + 1)) (dl a b M i (j + 1) + 1)) Z with h | h
    · rw [Int.min_eq_left h]; exact base
    · rw [Int.min_eq_right h]; exact last
  termination_by i j => i + j
  decreasing_by
    all_goals first
      | omega
      | (have := lastI_le a (b.getD j 0) i; have := lastI_le b (a.getD i 0) j; omega)
theorem levV_ch (a b : List Nat) : Ch false (levV a b).toNat a b := by
  unfold levV
  split
  · rename_i h; rw [h]; exact .nil _ _
  · split
    · rename_i h
      rcases h with h | h
      · rw [h]; exact (Ch.nilL b).mono (by simp)
      · rw [h]; exact (Ch.nilR a).mono (by simp)
    · have := lev_ch a b a.length b.length (Nat.le_refl _) (Nat.le_refl _)
      rwa [List.take_length, List.take_length] at this
theorem damV_ch (r : Bool) (a b : List Nat) : Ch true (damV r a b).toNat a b := by
  unfold damV
  split
  · rename_i h; rw [h]; exact .nil _ _
  · split
    · rename_i h
      rcases h with h | h
      · rw [h]; exact (Ch.nilL b).mono (by simp)
      · rw [h]; exact (Ch.nilR a).mono (by simp)
    · split
      · have := osa_ch a b a.length b.length (Nat.le_refl _) (Nat.le_refl _)
        rwa [List.take_length, List.take_length] at this
      · have := dl_ch a b ((a.length : Int) + (b.length : Int)) (Int.le_refl _) a.length b.length (Nat.le_refl _) (Nat.le_refl _)
        rwa [List.take_length, List.take_length] at this
theorem levV_nonneg (a b : List Nat) : 0 ≤ levV a b := by
  unfold levV
  have := lev_nonneg a b a.length b.length
  split
  · omega
  · split <;> omega
theorem damV_nonneg (r : Bool) (a b : List Nat) : 0 ≤ damV r a b := by
  unfold damV
  have := osa_nonneg a b a.length b.length
  have := dl_nonneg a b ((a.length : Int) + (b.length : Int)) (by omega) a.length b.length
  split
  · omega
  · split
    · omega
    · split <;> omega
theorem far_lev {q : Nat} {a b : List Nat} (hq : 1 ≤ q) : bagV q a b ≤ q * levV a b := by
  have h := bagV_ch (q := q) (K := q) (by omega) (s := false) (fun a b o => by have := bagV_op hq o; simpa using this) (levV_ch a b)
  rwa [Int.toNat_of_nonneg (levV_nonneg a b)] at h
theorem far_dam {q : Nat} {a b : List Nat} (r : Bool) (hq : 1 ≤ q) : bagV q a b ≤ (q + 1) * damV r a b := by
  have h := bagV_ch (q := q) (K := q + 1) (by omega) (s := true) (fun a b o => by have := bagV_op hq o; simpa using this) (damV_ch r a b)
  rwa [Int.toNat_of_nonneg (damV_nonneg r a b)] at h
theorem one_dam {a b : List Nat} (r : Bool) : bagV 1 a b ≤ damV r a b := by
  have h := bagV_ch (q := 1) (K := 1) (by omega) (s := true) (fun a b o => bag1_op o) (damV_ch r a b)
  rw [Int.toNat_of_nonneg (damV_nonneg r a b)] at h
  omega
end
section
/-! the tables reckon no more than any way of laying the words side by side; k: 0 no swaps, 1 of neighbours, 2 with letters between -/
inductive G (k : Nat) : Nat → List Nat → List Nat → Prop
  | nil (n : Nat) : G k n [] []
  | del {n : Nat} {x y : List Nat} (c : Nat) : G k n x y → G k (n + 1) (c :: x) y
  | ins {n : Nat} {x y : List Nat} (c : Nat) : G k n x y → G k (n + 1) x (c :: y)
  | sub {n : Nat} {x y : List Nat} (c d : Nat) : G k n x y → G k (n + 1) (c :: x) (d :: y)
  | same {n : Nat} {x y : List Nat} (c : Nat) : G k n x y → G k n (c :: x) (c :: y)
  | blk {n : Nat} {x y : List Nat} (c d : Nat) (U V : List Nat) (h1 : 1 ≤ k) (h2 : k = 1 → U = [] ∧ V = []) : G k n x y → G k (n + U.length + 1 + V.length) (d :: (U ++ c :: x)) (c :: (V ++ d :: y))
theorem G.mono {k n m : Nat} {x y : List Nat} (g : G k n x y) (h : n ≤ m) : G k m x y := by
  induction g generalizing m with
  | nil n => exact .nil m
  | del c _ ih =>
    obtain ⟨r, rfl⟩ : ∃ r, m = r + 1 := ⟨m - 1, by omega⟩
    exact .del c (ih (by omega))
  | ins c _ ih =>
    obtain ⟨r, rfl⟩ : ∃ r, m = r + 1 := ⟨m - 1, by omega⟩
    exact .ins c (ih (by omega))
  | sub c d _ ih =>
    obtain ⟨r, rfl⟩ : ∃ r, m = r + 1 := ⟨m - 1, by omega⟩
    exact .sub c d (ih (by omega))
  | same c _ ih => exact .same c (ih h)
  | blk c d U V h1 h2 _ ih =>
    obtain ⟨r, rfl⟩ : ∃ r, m = r + U.length + 1 + V.length := ⟨m - U.length - 1 - V.length, by omega⟩
    exact .blk c d U V h1 h2 (ih (by omega))
theorem G.up {k k' n : Nat} {x y : List Nat} (g : G k n x y) (h : k ≤ k') : G k' n x y := by
  induction g with
  | nil n => exact .nil _
  | del c _ ih => exact .del c ih
  | ins c _ ih => exact .ins c ih
  | sub c d _ ih => exact .sub c d ih
  | same c _ ih => exact .same c ih
  | blk c d U V h1 h2 _ ih => exact .blk c d U V (by omega) (fun e => h2 (by omega)) ih
theorem G.refl {k : Nat} : ∀ x : List Nat, G k 0 x x
  | [] => .nil 0
  | c :: x => .same c (G.refl x)
theorem G.symm {k n : Nat} {x y : List Nat} (g : G k n x y) : G k n y x := by
  induction g with
  | nil n => exact .nil _
  | del c _ ih => exact .ins c ih
  | ins c _ ih => exact .del c ih
  | sub c d _ ih => exact .sub d c ih
  | same c _ ih => exact .same c ih
  | blk c d U V h1 h2 _ ih => exact (G.blk d c V U h1 (fun e => (h2 e).symm) ih).mono (by omega)
theorem G.app {k n m : Nat} {x y x' y' : List Nat} (g : G k n x y) (g' : G k m x' y') : G k (n + m) (x ++ x') (y ++ y') := by
  induction g with
  | nil n => exact g'.mono (by omega)
  | del c _ ih => exact (G.del c ih).mono (by omega)
  | ins c _ ih => exact (G.ins c ih).mono (by omega)
  | sub c d _ ih => exact (G.sub c d ih).mono (by omega)
  | same c _ ih => exact .same c ih
  | blk c d U V h1 h2 _ ih =>
    have := G.blk c d U V h1 h2 ih
    simp only [List.cons_append, List.append_assoc] at this ⊢
    exact this.mono (by omega)
theorem G.pre {k n : Nat} {x y : List Nat} (p : List Nat) (g : G k n x y) : G k n (p ++ x) (p ++ y) := by simpa using (G.refl p).app g
theorem G.len {k n : Nat} {x y : List Nat} (g : G k n x y) : x.length ≤ y.length + n ∧ y.length ≤ x.length + n := by
  induction g <;> simp only [List.length_cons, List.length_append, List.length_nil] <;> omega
theorem G.comp {n m : Nat} {x y z : List Nat} : G 0 n x y → G 0 m y z → G 0 (n + m) x z
  | .blk c d U V h1 h2 g, _ => absurd h1 (by omega)
  | _, .blk c d U V h1 h2 g => absurd h1 (by omega)
  | .nil _, .nil _ => .nil _
  | .del c g, g' => (G.del c (G.comp g g')).mono (by omega)
  | g, .ins c g' => (G.ins c (G.comp g g')).mono (by omega)
  | .ins c g, .del _ g' => (G.comp g g').mono (by omega)
  | .ins c g, .sub _ d g' => (G.ins d (G.comp g g')).mono (by omega)
  | .ins c g, .same _ g' => (G.ins c (G.comp g g')).mono (by omega)
  | .sub c d g, .del _ g' => (G.del c (G.comp g g')).mono (by omega)
  | .sub c d g, .sub _ e g' => (G.sub c e (G.comp g g')).mono (by omega)
  | .sub c d g, .same _ g' => (G.sub c d (G.comp g g')).mono (by omega)
  | .same c g, .del _ g' => (G.del c (G.comp g g')).mono (by omega)
  | .same c g, .sub _ d g' => (G.sub c d (G.comp g g')).mono (by omega)
  | .same c g, .same _ g' => .same c (G.comp g g')
  termination_by x.length + y.length + z.length
theorem Op.g {s : Bool} {k : Nat} {x y : List Nat} (o : Op s x y) (h : s = true → 1 ≤ k) : G k 1 x y := by
  cases o with
  | none => exact (G.refl _).mono (by omega)
  | ins p c t => exact .pre p (.ins c (.refl t))
  | del p c t => exact .pre p (.del c (.refl t))
  | sub p c d t => exact .pre p (.sub c d (.refl t))
  | swp p c d t hs =>
    have := G.blk (k := k) d c [] [] (h hs) (fun _ => ⟨rfl, rfl⟩) (G.refl t)
    exact .pre p this
theorem Op.g2 {s : Bool} {x y : List Nat} (o : Op s x y) : G 0 2 x y := by
  cases o with
  | none => exact (G.refl _).mono (by omega)
  | ins p c t => exact (G.pre p (.ins c (.refl t))).mono (by omega)
  | del p c t => exact (G.pre p (.del c (.refl t))).mono (by omega)
  | sub p c d t => exact (G.pre p (.sub c d (.refl t))).mono (by omega)
  | swp p c d t hs => exact .pre p (.sub c d (.sub d c (.refl t)))
theorem Op.rev {s : Bool} {x y : List Nat} (o : Op s x y) : Op s x.reverse y.reverse := by
  cases o with
  | none => exact .none _
  | ins p c t => simpa using Op.ins (s := s) t.reverse c p.reverse
  | del p c t => simpa using Op.del (s := s) t.reverse c p.reverse
  | sub p c d t => simpa using Op.sub (s := s) t.reverse c d p.reverse
  | swp p c d t h => simpa using Op.swp (s := s) t.reverse d c p.reverse h
theorem Op.cases {x y : List Nat} (o : Op true x y) : Op false x y ∨ ∃ p c d t, x = p ++ c :: d :: t ∧ y = p ++ d :: c :: t := by
  cases o with
  | none => exact .inl (.none _)
  | ins p c t => exact .inl (.ins p c t)
  | del p c t => exact .inl (.del p c t)
  | sub p c d t => exact .inl (.sub p c d t)
  | swp p c d t h => exact .inr ⟨p, c, d, t, rfl, rfl⟩
/-- a swap behind an altered head -/
theorem swap_head {P P' S : List Nat} (c d : Nat) (o : Op true P P') : G 2 2 (P ++ c :: d :: S) (P' ++ d :: c :: S) := by
  have h := G.blk (k := 2) d c [] [] (by omega) (fun _ => ⟨rfl, rfl⟩) (G.refl S)
  exact (o.g (k := 2) (fun _ => by omega)).app h
theorem swap_tail {P S S' : List Nat} (c d : Nat) (o : Op true S S') : G 2 2 (P ++ c :: d :: S) (P ++ d :: c :: S') :=
  .pre P (G.blk (k := 2) d c [] [] (by omega) (fun _ => ⟨rfl, rfl⟩) (o.g (k := 2) (fun _ => by omega)))
theorem split2 {P P2 S R : List Nat} {d c : Nat} (h : P ++ d :: c :: S = P2 ++ R) :
  (∃ cs, P = P2 ++ cs ∧ R = cs ++ d :: c :: S) ∨ (P2 = P ++ [d] ∧ R = c :: S) ∨ (∃ as, P2 = P ++ d :: c :: as ∧ S = as ++ R) := by
  rcases List.append_eq_append_iff.mp h with ⟨as, h1, h2⟩ | ⟨cs, h1, h2⟩
  · match as, h1, h2 with
    | [], h1, h2 => exact .inl ⟨[], by simpa using h1.symm, by simpa using h2.symm⟩
    | [x], h1, h2 =>
      simp only [List.cons_append, List.nil_append, List.cons.injEq] at h2
      exact .inr (.inl ⟨by rw [h1, h2.1], h2.2.symm⟩)
    | x :: y :: as, h1, h2 =>
      simp only [List.cons_append, List.cons.injEq] at h2
      exact .inr (.inr ⟨as, by rw [h1, h2.1, h2.2.1], h2.2.2⟩)
  · exact .inl ⟨cs, h1, h2⟩
theorem swap_op {P S z : List Nat} (c d : Nat) (o : Op true (P ++ d :: c :: S) z) : G 2 2 (P ++ c :: d :: S) z := by
  generalize hy : P ++ d :: c :: S = y at o
  cases o with
  | none =>
    subst hy
    exact swap_head c d (.none P)
  | ins P2 e T =>
    rcases split2 hy with ⟨cs, rfl, rfl⟩ | ⟨rfl, rfl⟩ | ⟨as, rfl, rfl⟩
    · have := swap_head (S := S) c d (Op.ins (s := true) P2 e cs)
      simpa using this
    · have : G 2 2 (P ++ c :: d :: S) (P ++ d :: e :: c :: S) := .pre P (G.blk (k := 2) d c [] [e] (by omega) (fun h => absurd h (by omega)) (G.refl S))
      simpa using this
    · have := swap_tail (P := P) c d (Op.ins (s := true) as e T)
      simpa using this
  | del P2 e T =>
    rcases split2 hy with ⟨cs, rfl, h⟩ | ⟨rfl, h⟩ | ⟨as, rfl, rfl⟩
    · match cs, h with
      | [], h =>
        simp only [List.nil_append, List.cons.injEq] at h
        obtain ⟨rfl, rfl⟩ := h
        have : G 2 2 (P2 ++ c :: e :: S) (P2 ++ c :: S) := .pre P2 (.same c (G.mono (.del e (G.refl S)) (by omega)))
        simpa using this
      | f :: cs, h =>
        simp only [List.cons_append, List.cons.injEq] at h
        obtain ⟨rfl, rfl⟩ := h
        have := swap_head (S := S) c d (Op.del (s := true) P2 e cs)
        simpa using this
    · simp only [List.cons.injEq] at h
      obtain ⟨rfl, rfl⟩ := h
      have : G 2 2 (P ++ e :: d :: T) (P ++ d :: T) := .pre P (G.mono (.del e (G.refl _)) (by omega))
      simpa using this
    · have := swap_tail (P := P) c d (Op.del (s := true) as e T)
      simpa using this
  | sub P2 e f T =>
    rcases split2 hy with ⟨cs, rfl, h⟩ | ⟨rfl, h⟩ | ⟨as, rfl, rfl⟩
    · match cs, h with
      | [], h =>
        simp only [List.nil_append, List.cons.injEq] at h
        obtain ⟨rfl, rfl⟩ := h
        have : G 2 2 (P2 ++ c :: e :: S) (P2 ++ f :: c :: S) := .pre P2 (.sub c f (.sub e c (G.refl S)))
        simpa using this
      | x :: cs, h =>
        simp only [List.cons_append, List.cons.injEq] at h
        obtain ⟨rfl, rfl⟩ := h
        have := swap_head (S := S) c d (Op.sub (s := true) P2 e f cs)
        simpa using this
    · simp only [List.cons.injEq] at h
      obtain ⟨rfl, rfl⟩ := h
      have : G 2 2 (P ++ e :: d :: T) (P ++ d :: f :: T) := .pre P (.sub e d (.sub d f (G.refl _)))
      simpa using this
    · have := swap_tail (P := P) c d (Op.sub (s := true) as e f T)
      simpa using this
  | swp P2 e f T _ =>
    rcases split2 hy with ⟨cs, rfl, h⟩ | ⟨rfl, h⟩ | ⟨as, rfl, rfl⟩
    · match cs, h with
      | [], h =>
        simp only [List.nil_append, List.cons.injEq] at h
        obtain ⟨rfl, rfl, rfl⟩ := h
        have : G 2 2 (P2 ++ f :: e :: T) (P2 ++ f :: e :: T) := (G.refl _).mono (by omega)
        simpa using this
      | [x], h =>
        simp only [List.cons_append, List.nil_append, List.cons.injEq] at h
        obtain ⟨rfl, rfl, rfl⟩ := h
        have : G 2 2 (P2 ++ e :: c :: f :: S) (P2 ++ f :: e :: c :: S) := .pre P2 (.ins f (.same e (.same c (.del f (G.refl S)))))
        simpa using this
      | x :: y :: cs, h =>
        simp only [List.cons_append, List.cons.injEq] at h
        obtain ⟨rfl, rfl, rfl⟩ := h
        have := swap_head (S := S) c d (Op.swp (s := true) P2 e f cs rfl)
        simpa using this
    · simp only [List.cons.injEq] at h
      obtain ⟨rfl, rfl⟩ := h
      have : G 2 2 (P ++ e :: d :: f :: T) (P ++ d :: f :: e :: T) := .pre P (.del e (.same d (.same f (.ins e (G.refl _)))))
      simpa using this
    · have := swap_tail (P := P) c d (Op.swp (s := true) as e f T rfl)
      simpa using this
theorem two_ops {x y z : List Nat} (o : Op true x y) (o' : Op true y z) : G 2 2 x z := by
  rcases o.cases with f | ⟨p, c, d, t, rfl, rfl⟩
  · rcases o'.cases with f' | ⟨p, c, d, t, rfl, rfl⟩
    · exact (G.comp (f.g (k := 0) (fun h => absurd h (by decide))) (f'.g (k := 0) (fun h => absurd h (by decide)))).up (by omega)
    · exact (swap_op (P := p) (S := t) d c o.symm).symm
  · exact swap_op c d o'
/-! the tables -/
def pre (a : List Nat) (i : Nat) : List Nat := (a.take i).reverse
theorem pre_len {a : List Nat} {i : Nat} (h : i ≤ a.length) : (pre a i).length = i := by unfold pre; simp [Nat.min_eq_left h]
theorem pre_nil {a : List Nat} {i : Nat} (h : i ≤ a.length) (e : pre a i = []) : i = 0 := by
  have := pre_len h
  rw [e] at this; exact this.symm
theorem pre_cons {a x : List Nat} {i c : Nat} (h : i ≤ a.length) (e : pre a i = c :: x) : ∃ r, i = r + 1 ∧ a[r]? = some c ∧ pre a r = x := by
  have hl := pre_len h
  rw [e] at hl
  obtain ⟨r, rfl⟩ : ∃ r, i = r + 1 := ⟨i - 1, by simp at hl; omega⟩
  have hc : a[r]? = some (a[r]'(by omega)) := List.getElem?_eq_getElem _
  unfold pre at e
  rw [take_snoc hc] at e
  simp only [List.reverse_append, List.reverse_cons, List.reverse_nil, List.nil_append, List.cons_append, List.cons.injEq] at e
  exact ⟨r, rfl, by rw [hc, e.1], e.2⟩
theorem pre_app {a x : List Nat} : ∀ {U : List Nat} {i : Nat}, i ≤ a.length → pre a i = U ++ x → ∃ r, i = r + U.length ∧ pre a r = x
  | [], i, _, e => ⟨i, rfl, e⟩
  | c :: U, i, h, e => by
    obtain ⟨r, rfl, _, e2⟩ := pre_cons h e
    obtain ⟨r', rfl, e4⟩ := pre_app (U := U) (by omega) e2
    exact ⟨r', by simp; omega, e4⟩
theorem lev_0 (a b : List Nat) (i : Nat) : lev a b i 0 = i := by cases i <;> simp [lev]
theorem lev_0' (a b : List Nat) (j : Nat) : lev a b 0 j = j := by simp [lev]
theorem lev_le {a b : List Nat} {n : Nat} {x y : List Nat} (g : G 0 n x y) : ∀ i j, i ≤ a.length → j ≤ b.length → pre a i = x → pre b j = y → lev a b i j ≤ n := by
  induction g with
  | nil n =>
    intro i j hi hj ea eb
    rw [pre_nil hi ea, lev_0']
    have := pre_nil hj eb
    omega
  | del c _ ih =>
    intro i j hi hj ea eb
    obtain ⟨r, rfl, _, e1⟩ := pre_cons hi ea
    have := ih r j (by omega) hj e1 eb
    cases j with
    | zero => rw [lev_0] at this ⊢; omega
    | succ j => rw [lev]; omega
  | ins c _ ih =>
    intro i j hi hj ea eb
    obtain ⟨r, rfl, _, e1⟩ := pre_cons hj eb
    have := ih i r hi (by omega) ea e1
    cases i with
    | zero => rw [lev_0'] at this ⊢; omega
    | succ i => rw [lev]; omega
  | sub c d _ ih =>
    intro i j hi hj ea eb
    obtain ⟨r, rfl, _, e1⟩ := pre_cons hi ea
    obtain ⟨r', rfl, _, e2⟩ := pre_cons hj eb
    have := ih r r' (by omega) (by omega) e1 e2
    rw [lev]
    split <;> omega
  | same c _ ih =>
    intro i j hi hj ea eb
    obtain ⟨r, rfl, c1, e1⟩ := pre_cons hi ea
    obtain ⟨r', rfl, c2, e2⟩ := pre_cons hj eb
    have := ih r r' (by omega) (by omega) e1 e2
    rw [lev, c1, c2, if_pos rfl]
    omega
  | blk c d U V h1 h2 _ ih => exact absurd h1 (by omega)
theorem osa_le {a b : List Nat} {n : Nat} {x y : List Nat} (g : G 1 n x y) : ∀ i j, i ≤ a.length → j ≤ b.length → pre a i = x → pre b j = y → osa a b i j ≤ n := by
  have step : ∀ i j, osa a b (i + 1) (j + 1) ≤ osa a b i (j + 1) + 1 ∧ osa a b (i + 1) (j + 1) ≤ osa a b (i + 1) j + 1 ∧ osa a b (i + 1) (j + 1) ≤ osa a b i j + (if a[i]? = b[j]? then 0 else 1) ∧
      (1 ≤ i → 1 ≤ j → a[i]? = b[j - 1]? → a[i - 1]? = b[j]? → osa a b (i + 1) (j + 1) ≤ osa a b (i - 1) (j - 1) + (if a[i]? = b[j]? then 0 else 1)) := by
    intro i j
    rw [osa]
    generalize (if a[i]? = b[j]? then (0 : Int) else 1) = X
    refine ⟨?_, ?_, ?_, ?_⟩
    · split <;> omega
    · split <;> omega
    · split <;> omega
    · intro h1 h2 h3 h4
      rw [if_pos ⟨h1, h2, h3, h4⟩]
      omega
  induction g with
  | nil n =>
    intro i j hi hj ea eb
    rw [pre_nil hi ea, osa_0']
    have := pre_nil hj eb
    omega
  | del c _ ih =>
    intro i j hi hj ea eb
    obtain ⟨r, rfl, _, e1⟩ := pre_cons hi ea
    have := ih r j (by omega) hj e1 eb
    cases j with
    | zero => rw [osa_0] at this ⊢; omega
    | succ j => have := (step r j).1; omega
  | ins c _ ih =>
    intro i j hi hj ea eb
    obtain ⟨r, rfl, _, e1⟩ := pre_cons hj eb
    have := ih i r hi (by omega) ea e1
    cases i with
    | zero => rw [osa_0'] at this ⊢; omega
    | succ i => have := (step i r).2.1; omega
  | sub c d _ ih =>
    intro i j hi hj ea eb
    obtain ⟨r, rfl, _, e1⟩ := pre_cons hi ea
    obtain ⟨r', rfl, _, e2⟩ := pre_cons hj eb
    have := ih r r' (by omega) (by omega) e1 e2
    have := (step r r').2.2.1
    split at this <;> omega
  | same c _ ih =>
    intro i j hi hj ea eb
    obtain ⟨r, rfl, c1, e1⟩ := pre_cons hi ea
    obtain ⟨r', rfl, c2, e2⟩ := pre_cons hj eb
    have := ih r r' (by omega) (by omega) e1 e2
    have h := (step r r').2.2.1
    rw [c1, c2, if_pos rfl] at h
    omega
  | blk c d U V h1 h2 _ ih =>
    intro i j hi hj ea eb
    obtain ⟨rfl, rfl⟩ := h2 rfl
    obtain ⟨r, rfl, c1, e1⟩ := pre_cons hi ea
    obtain ⟨r', rfl, c2, e2⟩ := pre_cons hj eb
    obtain ⟨p, rfl, c3, e3⟩ := pre_cons (by omega) e1
    obtain ⟨p', rfl, c4, e4⟩ := pre_cons (by omega) e2
    have := ih p p' (by omega) (by omega) e3 e4
    have h := (step (p + 1) (p' + 1)).2.2.2 (by omega) (by omega) (by rw [c1]; exact c4.symm) (by rw [c2]; exact c3)
    simp only [Nat.add_sub_cancel] at h
    simp only [List.length_nil]
    split at h <;> omega
theorem lastI_ge {a : List Nat} {c p : Nat} (hc : a[p]? = some c) : ∀ {i : Nat}, p < i → p + 1 ≤ lastI a c i
  | 0, h => absurd h (by omega)
  | i + 1, h => by
    unfold lastI
    split
    · omega
    · rename_i hn
      refine lastI_ge hc (i := i) ?_
      have : p ≠ i := fun e => hn (e ▸ hc)
      omega
theorem dl_le {a b : List Nat} {M : Int} {n : Nat} {x y : List Nat} (g : G 2 n x y) : ∀ i j, i ≤ a.length → j ≤ b.length → pre a i = x → pre b j = y → dl a b M i j ≤ n := by
  have step : ∀ i j, dl a b M (i + 1) (j + 1) ≤ dl a b M i (j + 1) + 1 ∧ dl a b M (i + 1) (j + 1) ≤ dl a b M (i + 1) j + 1 ∧ dl a b M (i + 1) (j + 1) ≤ dl a b M i j + (if a[i]? = b[j]? then 0 else 1) := by
    intro i j
    rw [dl]
    generalize (if a[i]? = b[j]? then (0 : Int) else 1) = X
    refine ⟨?_, ?_, ?_⟩ <;> omega
  have lipL : ∀ i j, dl a b M (i + 1) j ≤ dl a b M i j + 1 := by
    intro i j
    cases j with
    | zero => rw [dl_0, dl_0]; omega
    | succ j => exact (step i j).1
  have lipR : ∀ i j, dl a b M i (j + 1) ≤ dl a b M i j + 1 := by
    intro i j
    cases i with
    | zero => rw [dl_0', dl_0']; omega
    | succ i => exact (step i j).2.1
  have lipL' : ∀ k i j, dl a b M (i + k) j ≤ dl a b M i j + k := by
    intro k
    induction k with
    | zero => intro i j; simp
    | succ k ih => intro i j; have := ih i j; have := lipL (i + k) j; rw [← Nat.add_assoc]; omega
  have lipR' : ∀ k i j, dl a b M i (j + k) ≤ dl a b M i j + k := by
    intro k
    induction k with
    | zero => intro i j; simp
    | succ k ih => intro i j; have := ih i j; have := lipR i (j + k); rw [← Nat.add_assoc]; omega
  induction g with
  | nil n =>
    intro i j hi hj ea eb
    rw [pre_nil hi ea, dl_0']
    have := pre_nil hj eb
    omega
  | del c _ ih =>
    intro i j hi hj ea eb
    obtain ⟨r, rfl, _, e1⟩ := pre_cons hi ea
    have := ih r j (by omega) hj e1 eb
    have := lipL r j
    omega
  | ins c _ ih =>
    intro i j hi hj ea eb
    obtain ⟨r, rfl, _, e1⟩ := pre_cons hj eb
    have := ih i r hi (by omega) ea e1
    have := lipR i r
    omega
  | sub c d _ ih =>
    intro i j hi hj ea eb
    obtain ⟨r, rfl, _, e1⟩ := pre_cons hi ea
    obtain ⟨r', rfl, _, e2⟩ := pre_cons hj eb
    have := ih r r' (by omega) (by omega) e1 e2
    have := (step r r').2.2
    split at this <;> omega
  | same c _ ih =>
    intro i j hi hj ea eb
    obtain ⟨r, rfl, c1, e1⟩ := pre_cons hi ea
    obtain ⟨r', rfl, c2, e2⟩ := pre_cons hj eb
    have := ih r r' (by omega) (by omega) e1 e2
    have h := (step r r').2.2
    rw [c1, c2, if_pos rfl] at h
    omega
  | blk c d U V h1 h2 _ ih =>
    intro i j hi hj ea eb
    obtain ⟨r, rfl, c1, e1⟩ := pre_cons hi ea
    obtain ⟨r', rfl, c2, e2⟩ := pre_cons hj eb
    obtain ⟨t, rfl, e5⟩ := pre_app (by omega) e1
    obtain ⟨t', rfl, e6⟩ := pre_app (by omega) e2
    obtain ⟨p, rfl, c3, e3⟩ := pre_cons (by omega) e5
    obtain ⟨p', rfl, c4, e4⟩ := pre_cons (by omega) e6
    have hI := ih p p' (by omega) (by omega) e3 e4
    have g1 : a.getD (p + 1 + U.length) 0 = d := by simp [List.getD, c1]
    have g2 : b.getD (p' + 1 + V.length) 0 = c := by simp [List.getD, c2]
    have k1 := lastI_ge c3 (i := p + 1 + U.length) (by omega)
    have k2 := lastI_ge c4 (i := p' + 1 + V.length) (by omega)
    have k3 := lastI_le a c (p + 1 + U.length)
    have k4 := lastI_le b d (p' + 1 + V.length)
    rw [dl, g1, g2]
    generalize lastI a c (p + 1 + U.length) = i1 at *
    generalize lastI b d (p' + 1 + V.length) = j1 at *
    have hz : ¬ (i1 = 0 ∨ j1 = 0) := by omega
    rw [if_neg hz]
    have s1 := lipL' (i1 - 1 - p) p (j1 - 1)
    have s2 := lipR' (j1 - 1 - p') p p'
    rw [show p + (i1 - 1 - p) = i1 - 1 by omega] at s1
    rw [show p' + (j1 - 1 - p') = j1 - 1 by omega] at s2
    generalize dl a b M (i1 - 1) (j1 - 1) = Z at *
    omega
theorem pre_all (a : List Nat) : pre a a.length = a.reverse := by unfold pre; rw [List.take_length]
theorem levV_le {a b : List Nat} {n : Nat} (g : G 0 n a.reverse b.reverse) : levV a b ≤ n := by
  have hl := g.len
  simp only [List.length_reverse] at hl
  unfold levV
  split
  · omega
  · split
    · rename_i h
      rcases h with h | h <;> (rw [h] at hl ⊢; simp only [List.length_nil] at *; omega)
    · exact lev_le g _ _ (Nat.le_refl _) (Nat.le_refl _) (pre_all a) (pre_all b)
theorem damV_le {r : Bool} {a b : List Nat} {n : Nat} (g : G (if r = true then 1 else 2) n a.reverse b.reverse) : damV r a b ≤ n := by
  have hl := g.len
  simp only [List.length_reverse] at hl
  unfold damV
  split
  · omega
  · split
    · rename_i h
      rcases h with h | h <;> (rw [h] at hl ⊢; simp only [List.length_nil] at *; omega)
    · split
      · rename_i hr
        rw [if_pos hr] at g
        exact osa_le g _ _ (Nat.le_refl _) (Nat.le_refl _) (pre_all a) (pre_all b)
      · rename_i hr
        rw [if_neg hr] at g
        exact dl_le g _ _ (Nat.le_refl _) (Nat.le_refl _) (pre_all a) (pre_all b)
theorem Turned.op {x y : List Nat} (t : Turned x y) : Op true x y := by
  obtain ⟨p, c, hp, e⟩ := t
  by_cases h1 : p < x.length
  · have hx : x = x.take p ++ x[p] :: x.drop (p + 1) := by rw [← List.drop_eq_getElem_cons h1, List.take_append_drop]
    rcases e with e | e | e | e
    · have := Op.ins (s := true) (x.take p) c (x.drop p)
      rw [List.take_append_drop] at this
      rw [e]; simpa using this
    · have := Op.del (s := true) (x.take p) x[p] (x.drop (p + 1))
      rw [← hx] at this
      rw [e]; exact this
    · have := Op.sub (s := true) (x.take p) x[p] c (x.drop (p + 1))
      rw [← hx] at this
      rw [e]; simpa using this
    · have t1 : x.take (p + 1) = x.take p ++ [x[p]] := take_snoc (List.getElem?_eq_getElem h1)
      have lp : (x.take p).length = p := by simp; omega
      have e1 : (x.take (p + 1)).drop p = [x[p]] := by
        rw [t1, List.drop_append_of_le_length (by omega), List.drop_of_length_le (by omega)]; rfl
      by_cases h2 : p + 1 < x.length
      · have t2 : x.take (p + 2) = x.take (p + 1) ++ [x[p + 1]] := take_snoc (List.getElem?_eq_getElem h2)
        have lp2 : (x.take (p + 1)).length = p + 1 := by simp; omega
        have e2 : (x.take (p + 2)).drop (p + 1) = [x[p + 1]] := by
          rw [t2, List.drop_append_of_le_length (by omega), List.drop_of_length_le (by omega)]; rfl
        have hx2 : x = x.take p ++ x[p] :: x[p + 1] :: x.drop (p + 2) := by
          rw [← List.drop_eq_getElem_cons h2]; exact hx
        have := Op.swp (s := true) (x.take p) x[p] x[p + 1] (x.drop (p + 2)) rfl
        rw [← hx2] at this
        rw [e, e1, e2]; simpa using this
      · have e2 : (x.take (p + 2)).drop (p + 1) = [] := List.drop_of_length_le (by simp; omega)
        have e3 : x.drop (p + 2) = [] := List.drop_of_length_le (by omega)
        have e4 : x.drop (p + 1) = [] := List.drop_of_length_le (by omega)
        rw [e4] at hx
        rw [e, e1, e2, e3, List.append_nil, List.append_nil, ← hx]
        exact .none x
  · have t0 : x.take p = x := List.take_of_length_le (by omega)
    have d0 : x.drop p = [] := List.drop_of_length_le (by omega)
    have d1 : x.drop (p + 1) = [] := List.drop_of_length_le (by omega)
    have d2 : x.drop (p + 2) = [] := List.drop_of_length_le (by omega)
    have i1 := Op.ins (s := true) x c []
    rw [List.append_nil] at i1
    rcases e with e | e | e | e
    · rw [e, t0, d0, List.append_nil]; exact i1
    · rw [e, t0, d1, List.append_nil]; exact .none x
    · rw [e, t0, d1, List.append_nil]; exact i1
    · have e1 : (x.take (p + 2)).drop (p + 1) = [] := List.drop_of_length_le (by simp; omega)
      have e2 : (x.take (p + 1)).drop p = [] := List.drop_of_length_le (by simp; omega)
      rw [e, t0, e1, e2, d2]; simpa using Op.none (s := true) x
theorem Steps.g2 {n : Nat} {a b : List Nat} (s : Steps n a b) : G 0 (2 * n) a.reverse b.reverse := by
  induction s with
  | zero a => exact G.refl _
  | succ _ t ih => exact (G.comp ih t.op.rev.g2).mono (by omega)
theorem steps_lev {n : Nat} {a b : List Nat} (s : Steps n a b) : levV a b ≤ 2 * n := by
  have := levV_le s.g2
  omega
theorem turned_dam {a b : List Nat} (r : Bool) (s : Turned a b) : damV r a b ≤ 1 := damV_le (n := 1) (s.op.rev.g fun _ => by cases r <;> simp)
theorem turned_tight {a b : List Nat} (s : Turned a b) : damV true a b ≤ 1 := turned_dam true s
theorem damV_self (r : Bool) (a : List Nat) : damV r a a = 0 := by unfold damV; rw [if_pos rfl]
theorem steps_free {n : Nat} {a b : List Nat} (hn : n ≤ 2) (s : Steps n a b) : damV false a b ≤ n := by
  cases s with
  | zero a => rw [damV_self]; omega
  | succ s1 t1 =>
    cases s1 with
    | zero a => exact turned_dam false t1
    | succ s2 t2 =>
      cases s2 with
      | zero a => exact damV_le (n := 2) (two_ops t2.op.rev t1.op.rev)
      | succ s3 _ => omega
end
section
/-- the words of the law's second half -/
def wW (q : Nat) : List Nat := (List.range (2 * q + 2)).map fun k => 100 + k
def wChg (q : Nat) : List Nat := (wW q).take q ++ [97] ++ (wW q).drop (q + 1)
def wSht (q : Nat) : List Nat := (wW q).take q ++ (wW q).drop (q + 1)
def wSwp (q : Nat) : List Nat := (wW q).take q ++ [100 + (q + 1)] ++ [100 + q] ++ (wW q).drop (q + 2)
def wBth (q : Nat) : List Nat := (wW q).take q ++ [97, 98] ++ (wW q).drop (q + 2)
section
variable {q : Nat} (hq : q = 1 ∨ q = 2 ∨ q = 3)
include hq
theorem wW_len : (wW q).length ≤ 8 := by rcases hq with rfl | rfl | rfl <;> decide
theorem wChg_len : (wChg q).length ≤ 8 := by rcases hq with rfl | rfl | rfl <;> decide
theorem wSht_len : (wSht q).length ≤ 8 := by rcases hq with rfl | rfl | rfl <;> decide
theorem wSwp_len : (wSwp q).length ≤ 8 := by rcases hq with rfl | rfl | rfl <;> decide
theorem wBth_len : (wBth q).length ≤ 8 := by rcases hq with rfl | rfl | rfl <;> decide
theorem bag_chg : bagV q (wW q) (wChg q) = q := by rcases hq with rfl | rfl | rfl <;> decide
theorem bag_sht : bagV q (wW q) (wSht q) = q := by rcases hq with rfl | rfl | rfl <;> decide
theorem bag_sht' : bagV q (wSht q) (wW q) = q := by rcases hq with rfl | rfl | rfl <;> decide
theorem bag_swp : bagV q (wW q) (wSwp q) = if 1 < q then q + 1 else 0 := by rcases hq with rfl | rfl | rfl <;> decide
theorem chg_op : Op false (wW q) (wChg q) := by
  have h : wW q = (wW q).take q ++ (100 + q) :: (wW q).drop (q + 1) := by rcases hq with rfl | rfl | rfl <;> decide
  have := Op.sub (s := false) ((wW q).take q) (100 + q) 97 ((wW q).drop (q + 1))
  rw [← h] at this
  unfold wChg
  simpa using this
theorem sht_op : Op false (wW q) (wSht q) := by
  have h : wW q = (wW q).take q ++ (100 + q) :: (wW q).drop (q + 1) := by rcases hq with rfl | rfl | rfl <;> decide
  have := Op.del (s := false) ((wW q).take q) (100 + q) ((wW q).drop (q + 1))
  rw [← h] at this
  exact this
theorem swp_op : Op true (wW q) (wSwp q) := by
  have h : wW q = (wW q).take q ++ (100 + q) :: (100 + (q + 1)) :: (wW q).drop (q + 2) := by rcases hq with rfl | rfl | rfl <;> decide
  have := Op.swp (s := true) ((wW q).take q) (100 + q) (100 + (q + 1)) ((wW q).drop (q + 2)) rfl
  rw [← h] at this
  unfold wSwp
  simpa using this
theorem bth_g : G 0 2 (wW q).reverse (wBth q).reverse := by
  have h : wW q = (wW q).take q ++ (100 + q) :: (100 + (q + 1)) :: (wW q).drop (q + 2) := by rcases hq with rfl | rfl | rfl <;> decide
  have h1 := Op.sub (s := false) ((wW q).take q) (100 + q) 97 ((100 + (q + 1)) :: (wW q).drop (q + 2))
  have h2 := Op.sub (s := false) ((wW q).take q ++ [97]) (100 + (q + 1)) 98 ((wW q).drop (q + 2))
  rw [← h] at h1
  have h3 : (wW q).take q ++ [97] ++ (100 + (q + 1)) :: (wW q).drop (q + 2) = (wW q).take q ++ 97 :: (100 + (q + 1)) :: (wW q).drop (q + 2) := by simp
  rw [h3] at h2
  have h4 : (wW q).take q ++ [97] ++ 98 :: (wW q).drop (q + 2) = wBth q := by unfold wBth; simp
  rw [h4] at h2
  have n0 : ∀ h : false = true, 1 ≤ 0 := fun h => absurd h (by decide)
  exact G.comp (h1.rev.g n0) (h2.rev.g n0)
theorem lev_of {a b : List Nat} (o : Op false a b) (h : bagV q a b = q) : levV a b = 1 := by
  have h1 := levV_le (o.rev.g (k := 0) fun h => absurd h (by decide))
  have h2 := far_lev (q := q) (a := a) (b := b) (by omega)
  have h3 := levV_nonneg a b
  have h4 : levV a b ≠ 0 := fun e => by
    rw [h, e] at h2
    omega
  omega
theorem lev_chg : levV (wW q) (wChg q) = 1 := lev_of hq (chg_op hq) (bag_chg hq)
theorem lev_sht : levV (wW q) (wSht q) = 1 := lev_of hq (sht_op hq) (bag_sht hq)
theorem lev_sht' : levV (wSht q) (wW q) = 1 := lev_of hq (sht_op hq).symm (bag_sht' hq)
theorem bag2_swp : bagV 2 (wW q) (wSwp q) = 3 := by rcases hq with rfl | rfl | rfl <;> decide
theorem bag1_bth : bagV 1 (wW q) (wBth q) = 2 := by rcases hq with rfl | rfl | rfl <;> decide
theorem dam_swp (r : Bool) : damV r (wW q) (wSwp q) = 1 := by
  have h1 : damV r (wW q) (wSwp q) ≤ (1 : Nat) := damV_le ((swp_op hq).rev.g fun _ => by cases r <;> simp)
  have h2 := far_dam (q := 2) (a := wW q) (b := wSwp q) r (by omega)
  rw [bag2_swp hq] at h2
  omega
theorem dam_bth (r : Bool) : damV r (wW q) (wBth q) = 2 := by
  have h1 : damV r (wW q) (wBth q) ≤ (2 : Nat) := damV_le ((bth_g hq).up (by omega))
  have h2 := one_dam (a := wW q) (b := wBth q) r
  rw [bag1_bth hq] at h2
  omega
end
end
section
variable {prog : Program} {w : World}
abbrev lawEnv (L : Addr) : Env := envX "law" (fs (st 17)) L 335 (.ref 334) [("second", L + 2), ("first", L + 1)]
theorem viaQ {α : Type} {M : Model} {A : Around} {t : Sem α} {Q : α → Shared → Prop} {E : Value → Shared → Prop} {s : Shared} (P : (α → Shared → Prop) → Prop) (H : ∀ Q, P Q → wpAny M A t Q E s) (h : P Q) : wpAny M A t Q E s := H Q h
theorem truthyLo {A : Around} {s : Shared} {E : Value → Shared → Prop} {sc : Addr} {vs : List Value} {Q : Bool → Shared → Prop} (hl : At s.heap (sc, isLo vs)) (hlen : vs.length ≤ 1000) (h : ∀ tk, Q (decide (vs ≠ [])) { s with toks := tk }) : wpAny (model prog w) A (truthy (.ref sc)) Q E s := by
  have hL : s.heap.IsList sc vs.toArray := by
    obtain ⟨o, ho, hc, n, hd⟩ := hl
    exact ⟨o, ho, hc, n, hd⟩
  refine wpAny_truthy_list hL (by rw [List.size_toArray]; omega) ?_
  have e : decide (vs ≠ []) = !vs.toArray.isEmpty := by
    cases vs <;> simp
  rw [← e]
  exact h _
theorem Turned.len {x y : List Nat} (t : Turned x y) : y.length ≤ x.length + 1 := by
  obtain ⟨p, c, hp, e | e | e | e⟩ := t <;> subst e <;> simp only [List.length_append, List.length_take, List.length_drop, List.length_cons, List.length_nil] <;> omega
theorem bagdistS {A : Around} {s : Shared} {g : Heap} {L : Addr} {m : Str → Option Value} {rest : Led} {R : Result → Shared → Prop} {x dx : Addr} {a b : List Nat} {q : Nat} {ta tb tq : Tok}
  (G : Gd w g) (S : St g L s.heap m ((x, isO (instObj 304 dx)) :: (dx, isA (bagAt q tq)) :: (rest ++ [(167, isTab), (296, isTab)]))) (hb : AllBare s.gens) (rm : Rm 14 A) (hq : q = 1 ∨ q = 2 ∨ q = 3) (ha : a.length ≤ 10) (hbl : b.length ≤ 10)
  (ret : ∀ t h' t' gs, AllBare gs → St g L h' m (rest ++ [(167, isTab), (296, isTab)]) → R (.ok (.ret (.int (bagV q a b) t))) { s with heap := h', toks := t', gens := gs }) :
  codeAny (model prog w) A (.call (.ref 122) ⟨[.ref x, .str (sw a) ta, .str (sw b) tb], []⟩) R s := by
  obtain ⟨g₁, b₁, O₁, r₁, all₁, back⟩ := S.lend [(167, isTab), (296, isTab)] ((x, isO (instObj 304 dx)) :: (dx, isA (bagAt q tq)) :: rest) (by simp) (fun p hp => by
    simp only [List.mem_cons, List.mem_append] at hp ⊢
    grind) (by
    have := S.o.nd
    simp only [List.map_cons, List.map_append, List.map_nil, List.cons_append, List.nil_append, List.nodup_cons, List.mem_cons, List.mem_append, List.nodup_append, List.not_mem_nil, or_false, not_or] at this ⊢
    grind)
  refine bagdist_ct (G.keeps b₁) O₁ hb rm (r₁ _ (.head _)) (r₁ _ (.tail _ (.head _))) hq ha hbl fun t h' t' gs hb' O' => ?_
  have S' := back _ _ O'
  refine ret t h' t' gs hb' (S'.sub (fun p hp => by
    simp only [List.mem_cons, List.mem_append, List.cons_append, List.nil_append] at hp ⊢
    grind) (by
    have := S'.o.nd
    simp only [List.map_cons, List.map_append, List.map_nil, List.cons_append, List.nil_append, List.nodup_cons, List.mem_cons, List.mem_append, List.nodup_append, List.not_mem_nil, or_false, not_or] at this ⊢
    grind))
theorem bag_ct' {A : Around} {s : Shared} {g : Heap} {R : Result → Shared → Prop} {a b : List Nat} {ta tb tq : Tok} {q : Nat}
  (G : Gd w g) (O : Own g s.heap []) (ha : a.length ≤ 10) (hb : b.length ≤ 10) (hq : 1 ≤ q) (hq3 : q ≤ 3) (rm : Rm 3 A)
  (ret : ∀ t h' t', Own g h' [] → R (.ok (.ret (.int (bagV q a b) t))) { s with heap := h', toks := t' }) :
  codeAny (model prog w) A (.call (.ref 330) ⟨[.str (sw a) ta, .str (sw b) tb, .int q tq], []⟩) R s := bag_ct G O ha hb hq hq3 rm ret
end
section
variable {prog : Program} {w : World}
set_option maxHeartbeats 8000000 in
/-- the law from its last draw on -/
theorem law13 {A : Around} {s : Shared} {g : Heap} {L : Addr} {m : Str → Option Value} {Q : Flow → Shared → Prop} {told at_ : Addr} {vs : List Value} {ns : List Int} {k : Int} {tkk : Tok} {q : Nat} {t1 t2 t3 t4 t5 : Tok}
  (G : Gd w g) (rm : Rm 19 (A.deeper (lawEnv L))) (hq : q = 1 ∨ q = 2 ∨ q = 3) (hl : At g (told, isLo vs)) (hi : IntsAre vs ns) (hn : 0 < ns.length) (hlen : ns.length ≤ 63) (lk : 0 ≤ k) (uk : k ≤ 40)
  (S : St g L s.heap m [(at_, isL [.int k tkk]), (167, isTab), (296, isTab)])
  (e1 : m "told" = some (.ref told)) (e2 : m "at" = some (.ref at_)) (e3 : m "word" = some (.str (sw (wW q)) t1)) (e4 : m "changed" = some (.str (sw (wChg q)) t2)) (e5 : m "shorter" = some (.str (sw (wSht q)) t3)) (e6 : m "swapped" = some (.str (sw (wSwp q)) t4)) (e7 : m "both" = some (.str (sw (wBth q)) t5))
  (ret : ∀ h' t', Own g h' [(167, isTab), (296, isTab)] → Q (.ret (.bool true)) { s with heap := h', toks := t' }) :
  wpAny (model prog w) (A.deeper (lawEnv L)) (execs ((fb (st 17)).drop 13) (lawEnv L)) Q FalseE s := by
  unfold lawEnv at *
  generalize hS : fs (st 17) = scp at *
  conv at hS => lhs; whnf
  generalize hB : (fb (st 17)).drop 13 = body at *
  conv at hB => lhs; whnf
  subst hS hB
  have hh := rm.hh
  walk_at "S_go"
  obtain ⟨g₁, b₁, O₁, _, c₁, k₁⟩ := S.lend1
  refine drawn_ct (G.keeps b₁) O₁ (hl.keeps b₁) hi hn hlen (by omega) (by omega) (by omega) (rm.mono (by omega)) fun r tr tka h₅ t₅ lo up O₂ => ?_
  have S₅ := k₁ _ _ O₂
  clear S k₁ O₂ O₁ c₁ b₁
  have hr : r = 0 ∨ r = 1 ∨ r = 2 ∨ r = 3 := by omega
  dsimp only
  have l1 := wW_len hq
  have l2 := wChg_len hq
  have l3 := wSht_len hq
  have l4 := wSwp_len hq
  have l5 := wBth_len hq
  have n1 := lev_chg hq
  have n2 := lev_sht hq
  have n3 := lev_sht' hq
  have n4 := dam_swp hq
  have n5 := dam_bth hq
  generalize wW q = W at *
  generalize wChg q = Chg at *
  generalize wSht q = Sht at *
  generalize wSwp q = Swp at *
  generalize wBth q = Bth at *
  clear hq hl hi hn hlen lk uk
  rcases hr with rfl | rfl | rfl | rfl
  iterate 3
    · walk_at "S_go"
      have S₆ := ‹St g L _ _ _›
      refine wpAny_call ?_
      refine levnew_ct (G.keeps S₆.keep) (Own.refl _) (rm.mono (by omega)) fun x₂ d₂ tq₂ h₇ t₇ O => ?_
      have S₇ := S₆.call2 O
      clear S₆ O
      dsimp only
      walk_at "S_go"
      have S₈ : St g L _ _ (_ :: (x₂, isO (instObj 244 d₂)) :: (d₂, isA (levAt tq₂)) :: _) := ‹St g L _ _ _›
      refine levdist_ct (G.keeps S₈.keep) (Own.refl _) (rm.mono (by omega)) (S₈.get (.tail _ (.head _))) (S₈.get (.tail _ (.tail _ (.head _)))) (by omega) (by omega) fun t₂ h₉ t₉ O => ?_
      have S₉ := (S₈.call0 O).drop1.drop1.drop1
      clear S₈ O
      simp only [n1, n2, n3]
      walk_at "S_go"
      exact ret _ _ ‹St g L _ _ _›.drop1.o
  · walk_at "S_go"
    have S₆ := ‹St g L _ _ _›
    refine damnewkw_ct (G.keeps S₆.keep) (Own.refl _) (rm.mono (by omega)) fun x₂ d₂ tq₂ h₇ t₇ O => ?_
    have S₇ := S₆.call2 O
    clear S₆ O
    dsimp only
    walk_at "S_go"
    refine wpAny_call ?_
    refine damnew_ct (G.keeps S₇.keep) (Own.refl _) (rm.mono (by omega)) fun x₃ d₃ tq₃ h₈ t₈ O => ?_
    have S₈ := S₇.call2 O
    clear S₇ O
    dsimp only
    walk_at "S_go"
    have S₉ : St g L _ _ (_ :: (x₃, isO (instObj 285 d₃)) :: (d₃, isA (damAt tq₃ true)) :: (x₂, isO (instObj 285 d₂)) :: (d₂, isA (damAt tq₂ false)) :: _) := ‹St g L _ _ _›
    refine damdist_ct (G.keeps S₉.keep) (Own.refl _) (rm.mono (by omega)) (S₉.get (.tail _ (.tail _ (.tail _ (.head _))))) (S₉.get (.tail _ (.tail _ (.tail _ (.tail _ (.head _)))))) (by omega) (by omega) fun u₁ h₉ t₉ O => ?_
    have S₁₀ := S₉.call0 O
    clear S₉ O
    rw [n4 false]
    dsimp only
    walk_at "S_go"
    have S₁₁ : St g L _ _ (_ :: (x₃, isO (instObj 285 d₃)) :: (d₃, isA (damAt tq₃ true)) :: (x₂, isO (instObj 285 d₂)) :: (d₂, isA (damAt tq₂ false)) :: _) := ‹St g L _ _ _›
    refine damdist_ct (G.keeps S₁₁.keep) (Own.refl _) (rm.mono (by omega)) (S₁₁.get (.tail _ (.head _))) (S₁₁.get (.tail _ (.tail _ (.head _)))) (by omega) (by omega) fun u₂ h₁₀ t₁₀ O => ?_
    have S₁₂ := S₁₁.call0 O
    clear S₁₁ O
    rw [n4 true]
    dsimp only
    walk_at "S_go"
    have S₁₃ : St g L _ _ (_ :: (x₃, isO (instObj 285 d₃)) :: (d₃, isA (damAt tq₃ true)) :: (x₂, isO (instObj 285 d₂)) :: (d₂, isA (damAt tq₂ false)) :: _) := ‹St g L _ _ _›
    refine damdist_ct (G.keeps S₁₃.keep) (Own.refl _) (rm.mono (by omega)) (S₁₃.get (.tail _ (.tail _ (.tail _ (.head _))))) (S₁₃.get (.tail _ (.tail _ (.tail _ (.tail _ (.head _)))))) (by omega) (by omega) fun u₃ h₁₁ t₁₁ O => ?_
    have S₁₄ := S₁₃.call0 O
    clear S₁₃ O
    rw [n5 false]
    dsimp only
    walk_at "S_go"
    have S₁₅ : St g L _ _ (_ :: (x₃, isO (instObj 285 d₃)) :: (d₃, isA (damAt tq₃ true)) :: (x₂, isO (instObj 285 d₂)) :: (d₂, isA (damAt tq₂ false)) :: _) := ‹St g L _ _ _›
    refine damdist_ct (G.keeps S₁₅.keep) (Own.refl _) (rm.mono (by omega)) (S₁₅.get (.tail _ (.head _))) (S₁₅.get (.tail _ (.tail _ (.head _)))) (by omega) (by omega) fun u₄ h₁₂ t₁₂ O => ?_
    have S₁₆ := (S₁₅.call0 O).drop1.drop1.drop1.drop1.drop1
    clear S₁₅ O
    rw [n5 true]
    dsimp only
    walk_at "S_go"
    exact ret _ _ ‹St g L _ _ _›.drop1.o
end
section
variable {prog : Program} {w : World}
set_option maxHeartbeats 8000000 in
/-- the law from its loop over words on -/
theorem law12 {A : Around} {s : Shared} {g : Heap} {L : Addr} {m : Str → Option Value} {Q : Flow → Shared → Prop} {told at_ : Addr} {vs : List Value} {ns : List Int} {k : Int} {tkk : Tok} {q : Nat} {t0 t1 t2 t3 t4 t5 : Tok}
  (G : Gd w g) (rm : Rm 19 (A.deeper (lawEnv L))) (hb : AllBare s.gens) (hq : q = 1 ∨ q = 2 ∨ q = 3) (hl : At g (told, isLo vs)) (hi : IntsAre vs ns) (hn : 0 < ns.length) (hlen : ns.length ≤ 63) (lk : 0 ≤ k) (uk : k ≤ 40)
  (S : St g L s.heap m [(at_, isL [.int k tkk]), (167, isTab), (296, isTab)])
  (e0 : m "q" = some (.int q t0)) (e1 : m "told" = some (.ref told)) (e2 : m "at" = some (.ref at_)) (e3 : m "word" = some (.str (sw (wW q)) t1)) (e4 : m "changed" = some (.str (sw (wChg q)) t2)) (e5 : m "shorter" = some (.str (sw (wSht q)) t3)) (e6 : m "swapped" = some (.str (sw (wSwp q)) t4)) (e7 : m "both" = some (.str (sw (wBth q)) t5))
  (ret : ∀ h' t' gs, AllBare gs → Own g h' [(167, isTab), (296, isTab)] → Q (.ret (.bool true)) { s with heap := h', toks := t', gens := gs }) :
  wpAny (model prog w) (A.deeper (lawEnv L)) (execs ((fb (st 17)).drop 12) (lawEnv L)) Q FalseE s := by
  unfold lawEnv at *
  generalize hS : fs (st 17) = scp at *
  conv at hS => lhs; whnf
  generalize hB : (fb (st 17)).drop 12 = body at *
  conv at hB => lhs; whnf
  subst hS hB
  have hh := rm.hh
  repeat' ((fail_if_success (with_reducible show wpAny _ _ (exec (Stmt.For _ _ _ _ _) _) _ _ _)); (first | walk1 | (dsimp only; walk1)); (try dsimp only))
  refine forG_S ?_ (by intro _; rfl)
  repeat' ((fail_if_success (with_reducible show wpAny _ _ (eval (Expr.IfExp _ _ _ _) _) _ _ _)); (first | walk1 | (dsimp only; walk1)); (try dsimp only))
  rename_i T1 _ T2 _ T3 h₃ S₃
  refine viaQ (fun Q => ∀ p tp tk', p = (if 1 < q then (q : Int) + 1 else 0) → Q (.int p tp) { s with heap := h₃, toks := tk' }) (fun Q hQ => ?_) ?_
  · walk_at "S_go"
    · exact hQ _ _ _ (by rw [if_pos (by omega)])
    · exact hQ _ _ _ (by rw [if_neg (by omega)])
  intro p4 tp4 tk₃ hp4
  walk_at "S_go"
  rename_i T4 _ T5 h₄ S₄
  have b1 := bag_chg hq
  have b2 := bag_sht hq
  have b3 := bag_sht' hq
  have b4 := bag_swp hq
  have l1 := wW_len hq
  have l2 := wChg_len hq
  have l3 := wSht_len hq
  have l4 := wSwp_len hq
  refine tupLoopG (mu := [(167, isTab), (296, isTab)]) (rest := [(T5, isT [.ref T1, .ref T2, .ref T3, .ref T4]), (T4, isT [.str (sw (wW q)) t1, .str (sw (wSwp q)) t4, .int p4 tp4]), (T3, isT [.str (sw (wSht q)) t3, .str (sw (wW q)) t1, .int q t0]), (T2, isT [.str (sw (wW q)) t1, .str (sw (wSht q)) t3, .int q t0]), (T1, isT [.str (sw (wW q)) t1, .str (sw (wChg q)) t2, .int q t0]), (at_, isL [.int k tkk])])
    (fun i m mu => mu = [(167, isTab), (296, isTab)] ∧ m "q" = some (.int q t0) ∧ m "told" = some (.ref told) ∧ m "at" = some (.ref at_) ∧ m "word" = some (.str (sw (wW q)) t1) ∧ m "changed" = some (.str (sw (wChg q)) t2) ∧ m "shorter" = some (.str (sw (wSht q)) t3) ∧ m "swapped" = some (.str (sw (wSwp q)) t4) ∧ m "both" = some (.str (sw (wBth q)) t5))
    hh (S₄.get (.head _)) (S₄.neL (.head _)) (by
      have nd := S₄.o.nd
      simp only [List.map_cons, List.map_nil, List.cons_append, List.nil_append, List.append_nil, List.nodup_cons, List.mem_cons, List.not_mem_nil, or_false, not_or, List.nodup_nil, and_true, not_false_eq_true] at nd
      intro p hp
      simp only [List.mem_cons, List.not_mem_nil, or_false] at hp
      rcases hp with rfl | rfl
      · exact fun e => by grind
      · exact fun e => by grind) hb (S₄.sub (by simp) (by
      have nd := S₄.o.nd
      simp only [List.map_cons, List.map_nil, List.cons_append, List.nil_append, List.append_nil, List.nodup_cons, List.mem_cons, List.not_mem_nil, or_false, not_or, List.nodup_nil, and_true, not_false_eq_true] at nd ⊢
      grind)) ⟨rfl, e0, e1, e2, e3, e4, e5, e6, e7⟩ ?_ ?_
  · rintro i v m₁ mu₁ g₁ h₅ tk₅ gs hb₁ hv ⟨rfl, f0, f1, f2, f3, f4, f5, f6, f7⟩ sub at₁ _ S₅
    clear S₄
    have G₁ := G.keeps sub
    obtain ⟨T, x, y, p, tx, ty, tp, rfl, hT, hx, hy, hres⟩ : ∃ T x y p tx ty tp, v = .ref T ∧ At g₁ (T, isT [.str (sw x) tx, .str (sw y) ty, .int p tp]) ∧ x.length ≤ 10 ∧ y.length ≤ 10 ∧ bagV q x y = p := by
      match i, hv with
      | 0, hv => exact ⟨T1, wW q, wChg q, q, t1, t2, t0, by simpa using hv.symm, at₁ _ (by simp), by omega, by omega, b1⟩
      | 1, hv => exact ⟨T2, wW q, wSht q, q, t1, t3, t0, by simpa using hv.symm, at₁ _ (by simp), by omega, by omega, b2⟩
      | 2, hv => exact ⟨T3, wSht q, wW q, q, t3, t1, t0, by simpa using hv.symm, at₁ _ (by simp), by omega, by omega, b3⟩
      | 3, hv => exact ⟨T4, wW q, wSwp q, p4, t1, t4, tp4, by simpa using hv.symm, at₁ _ (by simp), by omega, by omega, by rw [b4, hp4]; split <;> simp⟩
    clear hv at₁ b1 b2 b3 b4 hp4
    walk_at "S_go"
    have S₆ := ‹St g₁ L _ _ _›
    refine bagnew_ct (G₁.keeps S₆.keep) (Own.refl _) (rm.mono (by omega)) fun x₁ d₁ h₇ t₇ O => ?_
    have S₇ := S₆.call2 O
    clear S₆ O
    dsimp only
    walk_at "S_go"
    have S₈ : St g₁ L _ _ ((x₁, isO (instObj 304 d₁)) :: (d₁, isA (bagAt q t0)) :: ([] ++ [(167, isTab), (296, isTab)])) := ‹St g₁ L _ _ _›
    refine bagdistS G₁ S₈ hb₁ (rm.mono (by omega)) hq hx hy fun u h₉ t₉ gs₉ hb₉ S₉ => ?_
    clear S₈
    rw [hres]
    dsimp only
    walk_at "S_go"
    · exact absurd rfl ‹_ ≠ _›
    · exact TurnEndG.next hb₉ S₉ ⟨rfl, f0, f1, f2, f3, f4, f5, f6, f7⟩
  · rintro m₁ mu₁ h₅ tk₅ gs hb₁ ⟨rfl, f0, f1, f2, f3, f4, f5, f6, f7⟩ S₅
    clear S₄
    have S₆ : St g L h₅ m₁ [(at_, isL [.int k tkk]), (167, isTab), (296, isTab)] := S₅.sub (by simp) (by
      have nd := S₅.o.nd
      simp only [List.map_cons, List.map_nil, List.cons_append, List.nil_append, List.append_nil, List.nodup_cons, List.mem_cons, List.not_mem_nil, or_false, not_or, List.nodup_nil, and_true, not_false_eq_true] at nd ⊢
      grind)
    exact law13 G rm hq hl hi hn hlen lk uk S₆ f1 f2 f3 f4 f5 f6 f7 (fun h' t' O => ret h' t' gs hb₁ O)
end
section
variable {prog : Program} {w : World}
set_option maxHeartbeats 8000000 in
/-- the law from its words on -/
theorem law9 {A : Around} {s : Shared} {g : Heap} {L : Addr} {m : Str → Option Value} {Q : Flow → Shared → Prop} {told at_ : Addr} {vs : List Value} {ns : List Int} {k : Int} {tkk : Tok} {q : Nat} {t0 : Tok}
  (G : Gd w g) (rm : Rm 19 (A.deeper (lawEnv L))) (hb : AllBare s.gens) (hq : q = 1 ∨ q = 2 ∨ q = 3) (hl : At g (told, isLo vs)) (hi : IntsAre vs ns) (hn : 0 < ns.length) (hlen : ns.length ≤ 63) (lk : 0 ≤ k) (uk : k ≤ 40)
  (S : St g L s.heap m [(at_, isL [.int k tkk]), (167, isTab), (296, isTab)])
  (e0 : m "q" = some (.int q t0)) (e1 : m "told" = some (.ref told)) (e2 : m "at" = some (.ref at_))
  (ret : ∀ h' t' gs, AllBare gs → Own g h' [(167, isTab), (296, isTab)] → Q (.ret (.bool true)) { s with heap := h', toks := t', gens := gs }) :
  wpAny (model prog w) (A.deeper (lawEnv L)) (execs ((fb (st 17)).drop 9) (lawEnv L)) Q FalseE s := by
  unfold lawEnv at *
  generalize hS : fs (st 17) = scp at *
  conv at hS => lhs; whnf
  generalize hB : (fb (st 17)).drop 9 = body at *
  conv at hB => lhs; whnf
  subst hS hB
  have hh := rm.hh
  repeat' ((fail_if_success (with_reducible show wpAny _ _ (eval (Expr.ListComp _ _ _ _) _) _ _ _)); (first | walk1 | (dsimp only; walk1)); (try dsimp only))
  refine lcS (cl := []) rfl (by decide) rfl (by decide) rfl ?_
  walk_at "S_go"
  have S₁ := ‹St g L _ _ _›
  refine iterRg hh (S₁.get (.head _)) (by omega) (by omega) S₁ fun I₂ h₃ Si₂ X₂ st₃ S₂ bd₂ _ => ?_
  have S₃ := S₂.drop2
  clear S₁ S₂
  refine ⟨g, m, I₂, [I₂], _, _, Si₂, [], [(at_, isL [.int k tkk]), (167, isTab), (296, isTab)], any,
    fun i ys mu => mu = [] ∧ StrsAre ys ((((List.range i).map fun k => 100 + k)).map fun c => sw [c]), rfl, X₂, by rw [sizeLine_eq]; omega, st₃, S₃, by simp, bd₂, ⟨rfl, .nil⟩, ?_, ?_⟩
  · rintro i v ys m₆ mu₆ g₆ C h₄ tk₄ hi₄ ⟨_, tv, rfl⟩ ⟨rfl, hs⟩ sub hrest _ S₄
    have G₆ := G.keeps sub
    clear S₃
    walk_at "S_go"
    have S₅ := ‹St g₆ C _ _ _›
    have ei : (100 + (0 + (i : Int))).toNat = 100 + i := by omega
    rw [ei]
    refine LcEnd.mk S₅ ⟨rfl, ?_⟩
    rw [List.range_succ, List.map_append, List.map_append]
    exact strs_snoc hs _ _
  · rintro ys mu₆ D₂ h₄ tk₄ ⟨rfl, hs⟩ S₄
    clear S₃
    have eN : ((2 * (q : Int) + 2 - 0).toNat) = 2 * q + 2 := by omega
    rw [eN] at hs
    obtain ⟨W, hW⟩ : ∃ W : List Nat, W = wW q := ⟨_, rfl⟩
    have lW : W.length = 2 * q + 2 := by rw [hW]; simp [wW]
    have hs' : StrsAre ys (W.map fun c => sw [c]) := by rw [hW]; exact hs
    clear hs
    have w1 : W[((q : Int)).toNat]? = some (100 + q) := by rw [hW, Int.toNat_natCast]; unfold wW; rw [List.getElem?_map, List.getElem?_range (by omega)]; rfl
    have w2 : W[((q : Int) + 1).toNat]? = some (100 + (q + 1)) := by rw [hW, show ((q : Int) + 1).toNat = q + 1 by omega]; unfold wW; rw [List.getElem?_map, List.getElem?_range (by omega)]; rfl
    repeat' ((fail_if_success (with_reducible show wpAny _ _ (execs (Stmt.For _ _ _ _ _ :: _) _) _ _ _)); (first | walk1 | (dsimp only; walk1)); (try dsimp only))
    have S₅ := ‹St g L _ _ _›
    subst hW
    have n1 : (q : Int).toNat = q := by omega
    have n2 : ((q : Int) + 1).toNat = q + 1 := by omega
    have n3 : ((q : Int) + 2).toNat = q + 2 := by omega
    simp only [n1, n2, n3] at S₅
    have S₆ := S₅.drop1.drop1.drop1
    exact law12 G rm hb hq hl hi hn hlen lk uk S₆ e0 e1 e2 rfl rfl rfl rfl rfl ret
end
section
variable {prog : Program} {w : World}
set_option maxHeartbeats 8000000 in
/-- the law from Damerau's distances on -/
theorem law7 {A : Around} {s : Shared} {g : Heap} {L : Addr} {m : Str → Option Value} {Q : Flow → Shared → Prop} {told at_ : Addr} {vs : List Value} {ns : List Int} {k : Int} {tkk : Tok} {q mn : Nat} {a b : List Nat} {t0 t1 t2 ta tb tr₂ : Tok}
  (G : Gd w g) (rm : Rm 19 (A.deeper (lawEnv L))) (hb : AllBare s.gens) (hq : q = 1 ∨ q = 2 ∨ q = 3) (hl : At g (told, isLo vs)) (hi : IntsAre vs ns) (hn : 0 < ns.length) (hlen : ns.length ≤ 63) (lk : 0 ≤ k) (uk : k ≤ 40)
  (S : St g L s.heap m [(at_, isL [.int k tkk]), (L + 2, isCell (some (.str (sw b) tb))), (L + 1, isCell (some (.str (sw a) ta))), (167, isTab), (296, isTab)])
  (e0 : m "q" = some (.int q t0)) (e1 : m "told" = some (.ref told)) (e2 : m "at" = some (.ref at_)) (e3 : m "many" = some (.int mn tr₂)) (e4 : m "far" = some (.int (bagV q a b) t1)) (e5 : m "changes" = some (.int (levV a b) t2))
  (la' : a.length ≤ 10) (lb' : b.length ≤ 10) (mn3 : mn < 3)
  (F3 : bagV q a b ≤ (q + 1) * damV false a b) (F4 : bagV q a b ≤ (q + 1) * damV true a b) (F5 : 0 < mn → damV false a b ≤ mn ∧ levV a b ≤ 2 * mn) (F6 : mn = 1 → damV true a b ≤ 1)
  (ret : ∀ h' t' gs, AllBare gs → Own g h' [(167, isTab), (296, isTab)] → Q (.ret (.bool true)) { s with heap := h', toks := t', gens := gs }) :
  wpAny (model prog w) (A.deeper (lawEnv L)) (execs ((fb (st 17)).drop 7) (lawEnv L)) Q FalseE s := by
  unfold lawEnv at *
  generalize hS : fs (st 17) = scp at *
  conv at hS => lhs; whnf
  generalize hB : (fb (st 17)).drop 7 = body at *
  conv at hB => lhs; whnf
  subst hS hB
  have hh := rm.hh
  repeat' ((fail_if_success (with_reducible show wpAny _ _ (eval (Expr.ListComp _ _ _ _) _) _ _ _)); (first | walk1 | (dsimp only; walk1)); (try dsimp only))
  refine lcS (cl := [("second", L + 2), ("first", L + 1)]) rfl (by decide) rfl (by decide) rfl ?_
  walk_at "S_go"
  rename_i T₃ h₂₅ S₂₅
  refine iter_tuple hh (S₂₅.get (.head _)) S₂₅ fun I h₂₆ Si X st₂₆ S₂₆ bd _ _ => ?_
  clear S₂₅
  refine ⟨g, m, I, [I, T₃], _, _, Si, [], [(T₃, isT [.bool false, .bool true]), (at_, isL [.int k tkk]), (L + 2, isCell (some (.str (sw b) tb))), (L + 1, isCell (some (.str (sw a) ta))), (167, isTab), (296, isTab)], any,
    fun i ys mu => mu = [] ∧ match i with
      | 0 => ys = []
      | 1 => ∃ t, ys = [Value.int (damV false a b) t]
      | _ => ∃ t u, ys = [Value.int (damV false a b) t, .int (damV true a b) u], rfl, X, by rw [sizeLine_eq]; simp, st₂₆, S₂₆, by simp, bd, ⟨rfl, rfl⟩, ?_, ?_⟩
  · rintro i v ys m₄ mu₄ g₄ C h₂₇ tk₂₇ hi₂₇ hv ⟨rfl, j⟩ sub hrest _ S₂₇
    have G₄ := G.keeps sub
    have hc1 : At g₄ (L + 1, isCell (some (.str (sw a) ta))) := hrest _ (by simp)
    have hc2 : At g₄ (L + 2, isCell (some (.str (sw b) tb))) := hrest _ (by simp)
    clear S₂₆
    obtain ⟨r, rfl, hr⟩ : ∃ r : Bool, v = .bool r ∧ ((i = 0 ∧ r = false) ∨ (i = 1 ∧ r = true)) := by
      match i, hv with
      | 0, hv => cases hv; exact ⟨false, rfl, .inl ⟨rfl, rfl⟩⟩
      | 1, hv => cases hv; exact ⟨true, rfl, .inr ⟨rfl, rfl⟩⟩
    clear hv
    walk_at "S_go"
    have S₂₈ := ‹St g₄ C _ _ _›
    refine damnewkw_ct (G₄.keeps S₂₈.keep) (Own.refl _) (rm.mono (by omega)) fun x₅ d₅ tq₅ h₂₉ t₂₉ O => ?_
    have S₂₉ := S₂₈.call2 O
    clear S₂₈ O
    dsimp only
    walk_at "S_go"
    have S₃₀ : St g₄ C _ _ [(x₅, isO (instObj 285 d₅)), (d₅, isA (damAt tq₅ r))] := ‹St g₄ C _ _ _›
    refine damdist_ct (G₄.keeps S₃₀.keep) (Own.refl _) (rm.mono (by omega)) (S₃₀.get (.head _)) (S₃₀.get (.tail _ (.head _))) la' lb' fun t₆ h₃₁ t₃₁ O => ?_
    have S₃₁ := (S₃₀.call0 O).drop1.drop1
    dsimp only
    walk_at "S_go"
    rcases hr with ⟨rfl, rfl⟩ | ⟨rfl, rfl⟩
    · subst j
      exact LcEnd.mk S₃₁ ⟨rfl, t₆, rfl⟩
    · obtain ⟨t, e⟩ := j
      subst e
      exact LcEnd.mk S₃₁ ⟨rfl, t, t₆, rfl⟩
  · rintro ys mu₄ D h₂₇ tk₂₇ ⟨rfl, t₅', u₅, rfl⟩ S₂₇
    clear S₂₆
    generalize damV false a b = dF at *
    generalize damV true a b = dT at *
    generalize bagV q a b = bg at *
    generalize levV a b = lv at *
    repeat' ((fail_if_success (with_reducible show wpAny _ _ (exec (Stmt.If _ _ _ _) _) _ _ _)); (first | walk1 | (dsimp only; walk1)); (try dsimp only))
    rename_i _ _ _ _ h₂₈ tk₂₈ S₂₈0
    obtain ⟨m5, S₂₈, g1, g2, g3, g4, g5, g6, g7, g8⟩ : ∃ (m5 : Str → Option Value), St g L h₂₈ m5 [(at_, isL [.int k tkk]), (L + 2, isCell (some (.str (sw b) tb))), (L + 1, isCell (some (.str (sw a) ta))), (167, isTab), (296, isTab)] ∧
      m5 "many" = some (.int mn tr₂) ∧ m5 "q" = some (.int q t0) ∧ m5 "told" = some (.ref told) ∧ m5 "at" = some (.ref at_) ∧ m5 "far" = some (.int bg t1) ∧ m5 "changes" = some (.int lv t2) ∧
      m5 "fewer" = some (.int dF t₅') ∧ m5 "bound" = some (.int dT u₅) := by
      refine ⟨_, S₂₈0.drop1.drop1, ?_, ?_, ?_, ?_, ?_, ?_, ?_, ?_⟩
      · exact e3
      · exact e0
      · exact e1
      · exact e2
      · exact e4
      · exact e5
      · rfl
      · rfl
    clear S₂₈0 e0 e1 e2 e3 e4 e5
    refine viaQ (fun Q => ∀ tk', Q Flow.next { s with heap := h₂₈, toks := tk' }) (fun Q hQ => ?_) ?_
    · walk_at "S_go"
      all_goals first
        | exact hQ _
        | (exfalso; omega)
        | (exfalso; rcases Nat.eq_zero_or_pos mn with h0 | h0
           · omega
           · have := F5 h0; omega)
        | (exfalso; have := F6 (by omega); omega)
    intro tk₃₀
    clear F3 F4 F5 F6
    dsimp only
    have S₂₉ : St g L h₂₈ m5 [(at_, isL [.int k tkk]), (167, isTab), (296, isTab)] := S₂₈.sub (by simp) (by
      have nd := S₂₈.o.nd
      simp only [List.map_cons, List.map_nil, List.cons_append, List.nil_append, List.append_nil, List.nodup_cons, List.mem_cons, List.not_mem_nil, or_false, not_or, List.nodup_nil, and_true, not_false_eq_true] at nd ⊢
      grind)
    exact law9 G rm hb hq hl hi hn hlen lk uk S₂₉ g2 g3 g4 ret
end
section
variable {prog : Program} {w : World}
set_option maxHeartbeats 8000000 in
/-- the law from the bag's distance on -/
theorem law4 {A : Around} {s : Shared} {g : Heap} {L : Addr} {m : Str → Option Value} {Q : Flow → Shared → Prop} {told at_ : Addr} {vs : List Value} {ns : List Int} {k : Int} {tkk : Tok} {q mn : Nat} {a b y0 : List Nat} {t₅ ta tb tr₂ : Tok}
  (G : Gd w g) (rm : Rm 19 (A.deeper (lawEnv L))) (hb : AllBare s.gens) (hq : q = 1 ∨ q = 2 ∨ q = 3) (hl : At g (told, isLo vs)) (hi : IntsAre vs ns) (hn : 0 < ns.length) (hlen : ns.length ≤ 63) (lk : 0 ≤ k) (uk : k ≤ 40)
  (S : St g L s.heap m [(at_, isL [.int k tkk]), (L + 2, isCell (some (.str (sw b) tb))), (L + 1, isCell (some (.str (sw a) ta))), (167, isTab), (296, isTab)])
  (f3 : m "q" = some (.int q t₅)) (f1 : m "told" = some (.ref told)) (f2 : m "at" = some (.ref at_)) (f4 : m "many" = some (.int mn tr₂))
  (la' : a.length ≤ 10) (lb' : b.length ≤ 10) (mn3 : mn < 3) (hst : Steps mn y0 b) (hy0 : 0 < mn → y0 = a)
  (ret : ∀ h' t' gs, AllBare gs → Own g h' [(167, isTab), (296, isTab)] → Q (.ret (.bool true)) { s with heap := h', toks := t', gens := gs }) :
  wpAny (model prog w) (A.deeper (lawEnv L)) (execs ((fb (st 17)).drop 4) (lawEnv L)) Q FalseE s := by
  unfold lawEnv at *
  generalize hS : fs (st 17) = scp at *
  conv at hS => lhs; whnf
  generalize hB : (fb (st 17)).drop 4 = body at *
  conv at hB => lhs; whnf
  subst hS hB
  have hh := rm.hh
  have hq1 : 1 ≤ q := by omega
  have F1 := far_lev (q := q) (a := a) (b := b) hq1
  have F2 := bagV_comm q b a
  have F3 := far_dam (q := q) (a := a) (b := b) false hq1
  have F4 := far_dam (q := q) (a := a) (b := b) true hq1
  have F5 : 0 < mn → damV false a b ≤ mn ∧ levV a b ≤ 2 * mn := fun h0 => by
    rw [hy0 h0] at hst
    exact ⟨steps_free (by omega) hst, steps_lev hst⟩
  have F6 : mn = 1 → damV true a b ≤ 1 := fun h0 => by
    rw [h0, hy0 (by omega)] at hst
    cases hst with
    | succ s1 t1 =>
      cases s1
      exact turned_tight t1
  clear hst hy0
  have S₁₃ : St g L s.heap m ([(at_, isL [.int k tkk]), (L + 2, isCell (some (.str (sw b) tb))), (L + 1, isCell (some (.str (sw a) ta)))] ++ [(167, isTab), (296, isTab)]) := S
  clear S
  walk_at "S_go"
  refine bagnew_ct (G.keeps S₁₃.keep) (Own.refl _) (rm.mono (by omega)) fun x₁ d₁ h₁₃ t₁₃ O => ?_
  have S₁₄ := S₁₃.call2 O
  clear S₁₃ O
  dsimp only
  walk_at "S_go"
  have S₁₄' : St g L _ _ ((x₁, isO (instObj 304 d₁)) :: (d₁, isA (bagAt q t₅)) :: ([(at_, isL [.int k tkk]), (L + 2, isCell (some (.str (sw b) tb))), (L + 1, isCell (some (.str (sw a) ta)))] ++ [(167, isTab), (296, isTab)])) := ‹St g L _ _ _›
  refine bagdistS G S₁₄' hb (rm.mono (by omega)) hq la' lb' fun t₁ h₁₅ t₁₅ gs₁₅ hb₁₅ S₁₅ => ?_
  dsimp only
  walk_at "S_go"
  have S₁₆ : St g L _ _ [(at_, isL [.int k tkk]), (L + 2, isCell (some (.str (sw b) tb))), (L + 1, isCell (some (.str (sw a) ta))), (167, isTab), (296, isTab)] := ‹St g L _ _ _›
  refine wpAny_call ?_
  refine levnew_ct (G.keeps S₁₆.keep) (Own.refl _) (rm.mono (by omega)) fun x₂ d₂ tq₂ h₁₇ t₁₇ O => ?_
  have S₁₇ := S₁₆.call2 O
  clear S₁₆ O
  dsimp only
  walk_at "S_go"
  have S₁₈ : St g L _ _ ((x₂, isO (instObj 244 d₂)) :: (d₂, isA (levAt tq₂)) :: _) := ‹St g L _ _ _›
  refine levdist_ct (G.keeps S₁₈.keep) (Own.refl _) (rm.mono (by omega)) (S₁₈.get (.head _)) (S₁₈.get (.tail _ (.head _))) (by omega) (by omega) fun t₂ h₁₉ t₁₉ O => ?_
  have S₁₉ := (S₁₈.call0 O).drop1.drop1
  clear S₁₈ O
  dsimp only
  repeat' ((fail_if_success (with_reducible show codeAny _ _ (.call (.ref 330) _) _ _)); (first | walk1 | (dsimp only; walk1)); (try dsimp only))
  rename_i h₂₀ tk₂₀ S₂₀0
  obtain ⟨m3, S₂₀, g1, g2, g3, g4, g5, g6⟩ : ∃ (m3 : Str → Option Value), St g L h₂₀ m3 ([(at_, isL [.int k tkk]), (L + 2, isCell (some (.str (sw b) tb))), (L + 1, isCell (some (.str (sw a) ta)))] ++ [(167, isTab), (296, isTab)]) ∧
    m3 "many" = some (.int mn tr₂) ∧ m3 "q" = some (.int q t₅) ∧ m3 "told" = some (.ref told) ∧ m3 "at" = some (.ref at_) ∧ m3 "far" = some (.int (bagV q a b) t₁) ∧ m3 "changes" = some (.int (levV a b) t₂) := by
    refine ⟨_, S₂₀0, ?_, ?_, ?_, ?_, ?_, ?_⟩
    · exact f4
    · exact f3
    · exact f1
    · exact f2
    · rfl
    · rfl
  clear S₂₀0 f1 f2 f3 f4
  refine bag_ct' (G.keeps S₂₀.keep) (Own.refl _) la' lb' hq1 (by omega) (rm.mono (by omega)) fun t₃ h₂₁ t₂₁ O => ?_
  have S₂₁ := S₂₀.call0 O
  clear S₂₀ O
  dsimp only
  walk_at "S_go"
  all_goals try (exfalso; first | exact absurd rfl ‹_ ≠ _› | omega)
  refine bagnew_ct (G.keeps S₂₁.keep) (Own.refl _) (rm.mono (by omega)) fun x₃ d₃ h₂₂ t₂₂ O => ?_
  have S₂₂ := S₂₁.call2 O
  clear S₂₁ O
  dsimp only
  walk_at "S_go"
  have S₂₃ : St g L _ _ ((x₃, isO (instObj 304 d₃)) :: (d₃, isA (bagAt q t₅)) :: ([(at_, isL [.int k tkk]), (L + 2, isCell (some (.str (sw b) tb))), (L + 1, isCell (some (.str (sw a) ta)))] ++ [(167, isTab), (296, isTab)])) := ‹St g L _ _ _›
  refine bagdistS G S₂₃ hb₁₅ (rm.mono (by omega)) hq lb' la' fun t₄ h₂₄ t₂₄ gs₂₄ hb₂₄ S₂₄ => ?_
  clear S₂₃
  rw [F2]
  dsimp only
  repeat' ((fail_if_success (with_reducible show wpAny _ _ (execs (Stmt.Assign _ _ _ :: _) _) _ _ _)); (first | walk1 | (dsimp only; walk1)); (try dsimp only))
  all_goals try (exfalso; first | exact absurd rfl ‹_ ≠ _› | omega)
  exact law7 G rm hb₂₄ hq hl hi hn hlen lk uk S₂₄ g2 g3 g4 g1 g5 g6 la' lb' mn3 F3 F4 F5 F6 ret
end
section
variable {prog : Program} {w : World}
set_option maxHeartbeats 8000000 in
/-- the law -/
theorem law_ct {A : Around} {s : Shared} {g : Heap} {R : Result → Shared → Prop} {sc : Addr} {vs : List Value} {ns : List Int}
  (G : Gd w g) (O : Own g s.heap [(167, isTab), (296, isTab)]) (hb : AllBare s.gens) (rm : Rm 20 A) (hl : At g (sc, isLo vs)) (hi : IntsAre vs ns) (hlen : ns.length ≤ 63)
  (ret : ∀ h' t' gs, AllBare gs → Own g h' [(167, isTab), (296, isTab)] → R (.ok (.ret (.bool true))) { s with heap := h', toks := t', gens := gs }) :
  codeAny (model prog w) A (.call (.ref 335) ⟨[.ref sc], []⟩) R s := by
  have hh := rm.hh
  refine enterC (fun L => [("second", L + 2), ("first", L + 1)]) (fun L => [(L + 2, isCell none), (L + 1, isCell none)]) G O (by k_is) (by conv => lhs; whnf) (by conv => lhs; whnf) (by conv => lhs; whnf) (by k_is) rm (.of_eq (binds := [("script", .ref sc)]) rfl) rfl (fun L => by rfl) (fun L => rfl) (by decide) (fun L h₁ tk S => ?_) rfl rfl rfl
  repeat' ((fail_if_success (with_reducible show wpAny _ _ (eval (Expr.BoolOp _ _ _) _) _ _ _)); (first | walk1 | (dsimp only; walk1)); (try dsimp only))
  obtain ⟨m0, S0, hm0⟩ : ∃ m0 : Str → Option Value, St g L h₁ m0 [(L + 2, isCell none), (L + 1, isCell none), (167, isTab), (296, isTab)] ∧ m0 "script" = some (.ref sc) := ⟨_, S, rfl⟩
  clear S
  refine viaQ (fun Q => ∀ told g' vs' ns' h' tk', Sub g g' → At g' (told, isLo vs') → IntsAre vs' ns' → 0 < ns'.length → ns'.length ≤ 63 → St g' L h' m0 [(L + 2, isCell none), (L + 1, isCell none), (167, isTab), (296, isTab)] → Q (.ref told) { s with heap := h', toks := tk' }) (fun Q hQ => ?_) ?_
  · walk_at "S_go"
    refine truthyLo (S0.at hl) (by rw [hi.length]; omega) fun tk₁ => ?_
    by_cases hv : vs = []
    · rw [if_neg (by simp [hv])]
      walk_at "S_go"
      rename_i nl hh₁ S₁
      have S₁' : St g L hh₁ m0 ([(nl, isL [.int 3 tk₁, .int 1 (tk₁ + 1), .int 4 (tk₁ + 1 + 1)])] ++ [(L + 2, isCell none), (L + 1, isCell none), (167, isTab), (296, isTab)]) := S₁
      obtain ⟨g', sub', S₁'', kn⟩ := S₁'.absorb _
      have hnl : At g' (nl, isLo [.int 3 tk₁, .int 1 (tk₁ + 1), .int 4 (tk₁ + 1 + 1)]) := (kn _ (.head _)).mono fun o ⟨n, e⟩ => by rw [e]; exact ⟨rfl, n, rfl⟩
      exact hQ nl g' _ [3, 1, 4] _ _ sub' hnl (.cons _ _ (.cons _ _ (.cons _ _ .nil))) (by simp) (by simp) S₁''
    · rw [if_pos (by simp [hv])]
      exact hQ sc g vs ns _ _ (fun _ _ e => e) hl hi (by rw [← hi.length]; exact List.length_pos_iff.mpr hv) hlen S0
  intro told g' vs' ns' h₂ tk₂ sub₂ hl' hi' hn hlen' S₂
  have G₂ := G.keeps sub₂
  clear S0 hl hi hlen
  walk_at "S_go"
  rename_i at_ _ T _ _ _ _ _ h₃ tk₃ S₃
  have S₄ := S₃.drop1
  clear S₃
  obtain ⟨g₁, b₁, O₁, _, c₁, k₁⟩ := S₄.lend1
  refine drawn_ct (G₂.keeps b₁) O₁ (hl'.keeps b₁) hi' hn hlen' (by omega) (by omega) (by omega) ((rm.deeper _).mono (by omega)) fun r₁ tr₁ tka h₅ t₅ lo₁ up₁ O₂ => ?_
  have S₅ := k₁ _ _ O₂
  clear S₄ k₁ O₂ O₁ c₁ b₁
  obtain ⟨q, hq⟩ : ∃ q : Nat, 1 + r₁ = (q : Int) := ⟨(1 + r₁).toNat, by omega⟩
  have hq3 : q = 1 ∨ q = 2 ∨ q = 3 := by omega
  dsimp only
  walk_at "S_go"
  simp only [hq]
  obtain ⟨g₁, b₁, O₁, _, c₁, k₁⟩ := S₅.lend1
  refine word_ct (G₂.keeps b₁) O₁ (hl'.keeps b₁) hi' hn hlen' (by omega) (by omega) ((rm.deeper _).mono (by omega)) fun a ta tkb h₆ t₆ la O₂ => ?_
  have S₆ := k₁ _ _ O₂
  clear S₅ k₁ O₂ O₁ c₁ b₁
  dsimp only
  walk_at "S_go"
  obtain ⟨g₁, b₁, O₁, _, c₁, k₁⟩ := S₆.lend1
  refine drawn_ct (G₂.keeps b₁) O₁ (hl'.keeps b₁) hi' hn hlen' (by omega) (by omega) (by omega) ((rm.deeper _).mono (by omega)) fun r₂ tr₂ tkc h₇ t₇ lo₂ up₂ O₂ => ?_
  have S₇ := k₁ _ _ O₂
  clear S₆ k₁ O₂ O₁ c₁ b₁
  obtain ⟨mn, rfl⟩ : ∃ mn : Nat, r₂ = (mn : Int) := ⟨r₂.toNat, by omega⟩
  dsimp only
  repeat' ((fail_if_success (with_reducible show wpAny _ _ (eval (Expr.IfExp _ _ _ _) _) _ _ _)); (first | walk1 | (dsimp only; walk1)); (try dsimp only))
  rename_i T₂ _ _ _ _ _ _ h₈ tk₈ S₈0
  obtain ⟨m1, S₈, e1, e2, e3, e4⟩ : ∃ (m1 : Str → Option Value), St g' L h₈ m1 [(at_, isL [.int (0 + 1 + 1 + (a.length : Int) + 1) tkc]), (L + 2, isCell none), (L + 1, isCell (some (.str (sw a) ta))), (167, isTab), (296, isTab)] ∧
      m1 "many" = some (.int mn tr₂) ∧ m1 "q" = some (.int q t₅) ∧ m1 "told" = some (.ref told) ∧ m1 "at" = some (.ref at_) := ⟨_, S₈0.drop1, rfl, rfl, rfl, rfl⟩
  clear S₈0
  have mn3 : mn < 3 := by omega
  refine viaQ (fun Q => ∀ y ty k tkk h' tk', (0 < mn → y = a) → y.length ≤ 6 → 0 ≤ k → k ≤ 20 → St g' L h' m1 [(at_, isL [.int k tkk]), (L + 2, isCell none), (L + 1, isCell (some (.str (sw a) ta))), (167, isTab), (296, isTab)] → Q (.str (sw y) ty) { s with heap := h', toks := tk' }) (fun Q hQ => ?_) ?_
  · walk_at "S_go"
    · exact hQ a ta (0 + 1 + 1 + (a.length : Int) + 1) tkc _ _ (fun _ => rfl) la (by omega) (by omega) ‹St g' L _ _ _›
    · have S₉ := ‹St g' L _ _ _›
      obtain ⟨g₁, b₁, O₁, _, c₁, k₁⟩ := S₉.lend1
      refine word_ct (G₂.keeps b₁) O₁ (hl'.keeps b₁) hi' hn hlen' (by omega) (by omega) ((rm.deeper _).mono (by omega)) fun y ty tkd h₁₀ t₁₀ ly O₂ => ?_
      have S₁₀ := k₁ _ _ O₂
      clear S₉ k₁ O₂ O₁ c₁ b₁
      dsimp only
      walk_at "S_go"
      exact hQ y ty (0 + 1 + 1 + (a.length : Int) + 1 + 1 + (y.length : Int)) tkd _ _ (fun h0 => by omega) ly (by omega) (by omega) ‹St g' L _ _ _›
  intro y0 ty0 k0 tkk0 h₁₀ tk₁₀ hy0 ly0 lk0 uk0 S₁₀
  clear S₈
  walk_at "S_go"
  refine forG_S ?_ (by intro _; rfl)
  walk_at "S_go"
  rename_i _ _ rg h₁₁ tk₁₁ S₁₁
  refine rgLoop (mu := [(at_, isL [.int k0 tkk0]), (L + 2, isCell (some (.str (sw y0) ty0)))]) (rest := [(L + 1, isCell (some (.str (sw a) ta))), (167, isTab), (296, isTab)])
    (fun i m mu => ∃ y ty k tkk, mu = [(at_, isL [.int k tkk]), (L + 2, isCell (some (.str (sw y) ty)))] ∧ Steps i y0 y ∧ y.length ≤ 6 + i ∧ k = k0 + 3 * i ∧ m "told" = some (.ref told) ∧ m "at" = some (.ref at_) ∧ m "q" = some (.int q t₅) ∧ m "many" = some (.int mn tr₂))
    (rm.deeper _).hh (S₁₁.get (.head _)) (by omega) (by omega) rfl rfl (S₁₁.sub (by simp) (by
      have := S₁₁.o.nd
      simp only [List.map_cons, List.map_nil, List.cons_append, List.nil_append, List.nodup_cons, List.mem_cons, List.not_mem_nil, or_false, not_or] at this ⊢
      grind)) ⟨y0, ty0, k0, tkk0, rfl, .zero _, ly0, by omega, e3, e4, e2, e1⟩ ?_ ?_
  · rintro i t m₂ mu₂ g₂ h₁₂ tk₁₂ hi₂ ⟨y, ty, k, tkk, rfl, st, ly, ek, f1, f2, f3, f4⟩ sub₃ at₃ _ S₁₂
    have G₃ := G₂.keeps sub₃
    clear S₁₁
    walk_at "S_go"
    have S₁₃ := ‹St g₂ L _ _ _›
    obtain ⟨g₁, b₁, O₁, _, c₁, k₁⟩ := S₁₃.lend1
    refine turned_ct (G₃.keeps b₁) O₁ ((hl'.keeps sub₃).keeps b₁) hi' hn hlen' (by omega) (by omega) (by omega) ((rm.deeper _).mono (by omega)) fun y2 ty2 tkd h₁₄ t₁₄ tu O₂ => ?_
    have S₁₄ := k₁ _ _ O₂
    clear S₁₃ k₁ O₂ O₁ c₁ b₁
    dsimp only
    walk_at "S_go"
    have S₁₅ := ‹St g₂ L _ _ _›
    exact TurnEnd.next S₁₅ ⟨y2, ty2, k + 1 + 1 + 1, tkd, rfl, .succ st tu, Nat.le_trans tu.len (by omega), by push_cast; omega, f1, f2, f3, f4⟩
  · rintro m₂ mu₂ h₁₂ tk₁₂ ⟨b, tb, k, tkk, rfl, st, lb, ek, f1, f2, f3, f4⟩ S₁₂
    clear S₁₁
    have eN : (((mn : Int) - 0).toNat) = mn := by omega
    rw [eN] at st lb ek
    have S₁₃ : St g' L h₁₂ m₂ [(at_, isL [.int k tkk]), (L + 2, isCell (some (.str (sw b) tb))), (L + 1, isCell (some (.str (sw a) ta))), (167, isTab), (296, isTab)] := S₁₂
    clear S₁₂
    exact law4 G₂ (rm.deeper _) hb hq3 hl' hi' hn hlen' (by omega) (by omega) S₁₃ f3 f1 f2 f4 (by omega) (by omega) mn3 st hy0 (fun h' t' gs hbg O => ret h' t' gs hbg (O.down sub₂))
end
section
def K2 (P : Params) : Frag := KT1 ++ K1 P
def A2 : List Addr := [167, 296, 2, 3, 15, 17, 18, 20, 21, 22, 29, 30, 31, 33, 34, 36, 37, 38, 40, 41, 43, 44, 45, 48, 49, 50, 53, 54, 55, 57, 58, 60, 61, 62, 65, 66, 67, 70, 71, 72, 73, 74, 75, 76, 79, 82, 83, 91, 92, 94, 95, 97, 98, 99, 101, 102, 104, 105, 106, 108, 109, 111, 112, 113, 114, 115, 116, 118, 119, 121, 122, 123, 125, 126, 128, 129, 130, 132, 133, 135, 136, 137, 139, 140, 142, 143, 144, 146, 147, 149, 150, 151, 153, 154, 156, 157, 158, 159, 160, 161, 164, 165, 166, 169, 170, 171, 173, 174, 176, 177, 178, 180, 181, 183, 184, 185, 187, 188, 190, 191, 192, 194, 195, 197, 198, 199, 200, 201, 202, 203, 206, 213, 214, 216, 217, 219, 220, 221, 223, 224, 226, 227, 228, 230, 231, 233, 234, 235, 237, 238, 240, 241, 242, 243, 244, 247, 254, 255, 257, 258, 260, 261, 262, 264, 265, 267, 268, 269, 271, 272, 274, 275, 276, 278, 279, 281, 282, 283, 284, 285, 288, 295, 297, 298, 300, 301, 302, 303, 304, 307, 309, 310, 312, 313, 314, 317, 318, 319, 321, 322, 324, 325, 326, 329, 330, 331, 334, 335]
theorem k1_off {P : Params} {a : Addr} {o : Obj} (e : (K1 P).lookup a = some o) : a ∉ [167, 296] := by
  intro h
  simp only [List.mem_cons, List.not_mem_nil, or_false] at h
  rcases h with rfl | rfl
  · rw [show (K1 P).lookup 167 = none from rfl] at e; cases e
  · rw [show (K1 P).lookup 296 = none from rfl] at e; cases e
theorem k2_of {P : Params} {a : Addr} (h : a ∉ [167, 296]) : (K2 P).lookup a = (K1 P).lookup a := by
  simp only [List.mem_cons, List.not_mem_nil, or_false, not_or] at h
  have h1 : (a == 167) = false := by simpa using h.1
  have h2 : (a == 296) = false := by simpa using h.2
  show List.lookup a ((167, _) :: (296, _) :: K1 P) = _
  rw [List.lookup_cons, h1]
  show List.lookup a ((296, _) :: K1 P) = _
  rw [List.lookup_cons, h2]
theorem hide_ns {h : Heap} {a : Addr} {m : Str → Option Value} (x : h.Ns a m) (ha : a ∉ [167, 296]) : (hideAll h [167, 296]).Ns a m :=
  let ⟨o, es, ep, e, r⟩ := x; ⟨o, es, ep, hideAll_get _ e ha, r⟩
theorem hide_gd {w : World} {p : Program} {loose : List Str} {mean : ExcName → Option Value} {mg mb : Str → Option Value} {h : Heap} (T : Top p loose mean mg mb h) (X : (K2 w.params).In h) : Gd w (hideAll h [167, 296]) := by
  have t1 : h.get? 167 = some { cls := .none, dict := none, data := .fields (List.toArray []), slots := List.toArray [] } := X _ _ rfl
  have t2 : h.get? 296 = some { cls := .none, dict := none, data := .fields (List.toArray []), slots := List.toArray [] } := X _ _ rfl
  refine ⟨fun a o e => ?_, ⟨p, loose, mg, mb, hide_ns T.g (by decide), hide_ns T.b (by decide), ?_, T.builtins, T.free⟩, ?_⟩
  · have ha := k1_off e
    exact hideAll_get _ (X a o ((k2_of ha).trans e)) ha
  · obtain ⟨mc, n, hm⟩ := T.nolimit
    exact ⟨mc, hide_ns n (by decide), hm⟩
  · obtain ⟨bm, ob, B⟩ := bmod_of_top T
    refine ⟨mg, bm, ob, hide_ns B.ns (by decide), B.name, B.ne, hideAll_get _ B.obj fun q => ?_, B.cls, B.dict, B.data⟩
    have hb := B.obj
    simp only [List.mem_cons, List.not_mem_nil, or_false] at q
    rcases q with rfl | rfl
    · rw [t1] at hb; cases hb; exact absurd B.cls (by simp)
    · rw [t2] at hb; cases hb; exact absurd B.cls (by simp)
theorem tab_code {w : World} {h : Heap} (X : (K2 w.params).In h) : isCodeTable h 167 ∧ isCodeTable h 296 := by
  constructor
  · refine ⟨169, _, _, X 169 _ rfl, rfl, rfl, rfl⟩
  · refine ⟨300, _, _, X 300 _ rfl, rfl, rfl, rfl⟩
theorem law_post (args : List WData) : PySem.Challenge.rw_ag5025_01.row.toRowW.claim.post args (.bool true) args = true := by
  exact postW_of (by wrow_shape) (by wtm_val) (by w_fin)
theorem law_raises (args : List WData) (cls : ExcName) : PySem.Challenge.rw_ag5025_01.row.toRowW.claim.raises args cls = false := by rfl
set_option maxHeartbeats 4000000 in
theorem law_walk {q : Program} {loose : List Str} {XP : (Str → Option Value) → Heap → Prop} {d : DefRec} {kwd : List (Str × Expr)} {e : ∀ P, A2 = (K2 P).map (·.1)} (hn : d.name = Str.ofString "law") :
  WalkO q loose XP (kHook K2 A2 e).says PySem.Challenge.rw_ag5025_01.row.toRowW d kwd (fun f vs => PySem.call f vs) := by
  intro w s₀ s₁ mg mb G Y fa o pm cd doc dV kV ho hd hcd hD hmg hg args vals as hpre hlay hrd hwl hlo
  have KX := kIn_of Y
  have T := G.T
  rw [hn] at hmg
  clear Y hcd hD ho hd
  wrow_args hpre hlay hrd hwl hlo
  rename_i ns _ _ _ _ _ _ _ lst vs _ hL _ _ _ hI _ hlen _
  have X1 : (K1 w.params).In s₁.heap := fun a o e => KX a o ((k2_of (k1_off e)).trans e)
  have e335 : mg (Str.ofString "law") = some (.ref 335) := mg_of X1 T.g (by rfl)
  rw [e335] at hmg
  cases hmg
  have t1 : s₁.heap.get? 167 = some { cls := .none, dict := none, data := .fields (List.toArray []), slots := List.toArray [] } := KX _ _ rfl
  have t2 : s₁.heap.get? 296 = some { cls := .none, dict := none, data := .fields (List.toArray []), slots := List.toArray [] } := KX _ _ rfl
  have GG := hide_gd T KX
  have hl : At (hideAll s₁.heap [167, 296]) (lst, isLo vs) := by
    obtain ⟨o, ho, hc, n, hd⟩ := hL
    refine ⟨o, hideAll_get _ ho fun q => ?_, hc, n, hd⟩
    simp only [List.mem_cons, List.not_mem_nil, or_false] at q
    rcases q with rfl | rfl
    · rw [t1] at ho; cases ho; exact absurd hc (by simp)
    · rw [t2] at ho; cases ho; exact absurd hc (by simp)
  have O : Own (hideAll s₁.heap [167, 296]) s₁.heap [(167, isTab), (296, isTab)] := by
    refine ⟨fun b o e => of_hideAll _ e, fun p hp => ?_, by decide⟩
    simp only [List.mem_cons, List.not_mem_nil, or_false] at hp
    rcases hp with rfl | rfl
    · exact ⟨⟨_, t1, #[], rfl, trivial⟩, hideAll_none _ (by decide)⟩
    · exact ⟨⟨_, t2, #[], rfl, trivial⟩, hideAll_none _ (by decide)⟩
  have rm : Rm 20 callerA := ⟨rfl, by decide, by decide⟩
  refine enter_call ?_
  refine law_ct GG O (.of_eq hg) rm hl hI (by omega) fun h' t' gs hbg O' => ?_
  obtain ⟨c1, c2⟩ := tab_code KX
  refine ⟨.inl ⟨_, .bool true, [], rfl, fun _ => law_raises _ _, .bool true, law_post _, fun _ => ⟨.nil, by simp⟩⟩, ⟨fun b o e => ?_, fun b o e => ?_⟩, rfl, hbg⟩
  · by_cases h1 : b = 167
    · subst h1
      rw [t1] at e
      cases e
      obtain ⟨_, e2, ps, rfl, _⟩ := (O'.own (167, isTab) (.head _)).1
      exact .inr (.inl ⟨c1, rfl, #[], ps, rfl, by simpa using e2⟩)
    · by_cases h2 : b = 296
      · subst h2
        rw [t2] at e
        cases e
        obtain ⟨_, e2, ps, rfl, _⟩ := (O'.own (296, isTab) (.tail _ (.head _))).1
        exact .inr (.inl ⟨c2, rfl, #[], ps, rfl, by simpa using e2⟩)
      · exact .inl (O'.keep b o (hideAll_get _ e (by simp [h1, h2])))
  · by_cases h1 : b = 167
    · subst h1
      obtain ⟨_, e2, _⟩ := (O'.own (167, isTab) (.head _)).1
      exact ⟨_, e2⟩
    · by_cases h2 : b = 296
      · subst h2
        obtain ⟨_, e2, _⟩ := (O'.own (296, isTab) (.tail _ (.head _))).1
        exact ⟨_, e2⟩
      · exact ⟨o, O'.keep b o (hideAll_get _ e (by simp [h1, h2]))⟩
end
end Mine
set_option maxHeartbeats 8000000 in
theorem PySem.Challenge.cw_ag5025_01_holds : PySem.Challenge.rw_ag5025_01.Holds := by
  w_on
  o_law
  o_head (kHook Mine.K2 Mine.A2 (fun _ => by kernel_rfl))
  (case hw => w_witness2)
  exact Mine.law_walk rfl
