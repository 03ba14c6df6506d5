import PyProof.Rows.All
import PyProof.CodeObjX
import PyProof.CompFree
import PyProof.DictCompW
import PyProof.RangeFor
import PyProof.GenArm
import PyProof.GenQ
import PyProof.ListNew
import PyProof.Rows.AttrNodeAny
import PyProof.Rows.StrTemp
import KE.KSlice
import KE.KDictList
import Wide.FinOn
import OpenK.AllK
import Wide.All
import Lean
import PySem.Challenge.RW_eq0019_01
set_option linter.unusedVariables false
section
open PySem PySem.W PyProof.Rows
set_option Elab.async false
set_option maxRecDepth 100000
namespace DescLaw
def topAt (i : Nat) : Stmt := (PySem.Challenge.pw_eq0019_01.main.body[i]?).getD (.Pass default)
def methAt (i j : Nat) : Stmt := match topAt i with
  | .ClassDef _ _ _ b _ _ _ _ _ _ _ => (b[j]?).getD (.Pass default)
  | s => s
def defArgs : Stmt → Arguments
  | .FunctionDef _ a _ _ _ _ _ _ _ _ => a
  | _ => { posonlyargs := [], args := [], vararg := none, kwonlyargs := [], kw_defaults := [], kwarg := none, defaults := [] }
def defBody : Stmt → List Stmt
  | .FunctionDef _ _ b _ _ _ _ _ _ _ => b
  | _ => []
def defScope : Stmt → Scope
  | .FunctionDef _ _ _ _ _ _ s _ _ _ => s
  | _ => { kind := .function, names := [], isGenerator := false, isCoroutine := false, more := [] }
abbrev C_JSONPath : Addr := 143
abbrev f_DatumInContext_wrap : Addr := 161
abbrev f_DatumInContext__init_ : Addr := 172
abbrev f_DatumInContext_value : Addr := 179
abbrev C_DatumInContext : Addr := 212
abbrev f_Root_find : Addr := 230
abbrev C_Root : Addr := 275
abbrev f_This_find : Addr := 291
abbrev C_This : Addr := 336
abbrev f_Child__init_ : Addr := 352
abbrev f_Child_find : Addr := 357
abbrev C_Child : Addr := 430
abbrev f_Descendants__init_ : Addr := 446
abbrev f_Descendants_find : Addr := 451
abbrev C_Descendants : Addr := 515
abbrev f__Union__init_ : Addr := 531
abbrev f__Union_find : Addr := 545
abbrev C_Union : Addr := 576
abbrev f_Fields__init_ : Addr := 592
abbrev f_Fields_compliant_constructor : Addr := 599
abbrev f_Fields_is_wildcard_on_array : Addr := 609
abbrev f_Fields_get_field_datum : Addr := 616
abbrev f_Fields_reified_fields : Addr := 626
abbrev f_Fields_find : Addr := 633
abbrev f_Fields_find_base : Addr := 645
abbrev C_Fields : Addr := 704
abbrev f_Wildcard_find : Addr := 728
abbrev C_Wildcard : Addr := 780
abbrev f_Index__init_ : Addr := 796
abbrev f_Index_find : Addr := 803
abbrev f_Index_find_base : Addr := 817
abbrev C_Index : Addr := 881
abbrev f_Slice__init_ : Addr := 898
abbrev f_Slice_find : Addr := 914
abbrev C_Slice : Addr := 952
abbrev f__find_array_elements : Addr := 959
abbrev f__law_next : Addr := 987
abbrev f__law_document : Addr := 992
abbrev f__law_step : Addr := 999
abbrev f__law_address : Addr := 1006
abbrev f__law_told : Addr := 1011
abbrev f__law_often : Addr := 1016
abbrev f__law_all : Addr := 1023
abbrev f__law_path : Addr := 1030
def K (P : Params) : Frag := [
  (nat_lit 2, { cls := .none, dict := none, data := .dict [⟨PyData.keyHash P (Str.ofString "\x69mport.loaded._sre"), .str (Str.ofString "\x69mport.loaded._sre") 183, (.bool true)⟩, ⟨PyData.keyHash P (Str.ofString "class._frozen_\x69mportlib.BuiltinImporter"), .str (Str.ofString "class._frozen_\x69mportlib.BuiltinImporter") 185, (.ref 14)⟩, ⟨PyData.keyHash P (Str.ofString "watched.\x69mport"), .str (Str.ofString "watched.\x69mport") 206, (.ref 18)⟩, ⟨PyData.keyHash P (Str.ofString "class._frozen_\x69mportlib.ModuleSpec"), .str (Str.ofString "class._frozen_\x69mportlib.ModuleSpec") 216, (.ref 22)⟩, ⟨PyData.keyHash P (Str.ofString "sys.modules.booked-epoch"), .str (Str.ofString "sys.modules.booked-epoch") 245, (.int (3) 0)⟩, ⟨PyData.keyHash P (Str.ofString "\x69mport.later-laid._sre"), .str (Str.ofString "\x69mport.later-laid._sre") 270, (.bool true)⟩, ⟨PyData.keyHash P (Str.ofString "watched.library"), .str (Str.ofString "watched.library") 272, (.ref 27)⟩, ⟨PyData.keyHash P (Str.ofString "watched.library-objects"), .str (Str.ofString "watched.library-objects") 0, (.str (Str.ofString "\x0c") 0)⟩, ⟨PyData.keyHash P (Str.ofString "watched.library-deep._sre"), .str (Str.ofString "watched.library-deep._sre") 273, (.str (Str.ofString "\x04\x00\x00\x0b\x04\x00\x00\x0b\x04\x00\x00\x03\x04\x00\x00\x0b\x08\x04dict\x02") 0)⟩].toArray 9, slots := [].toArray }),
  (nat_lit 3, { cls := (.type "dict"), dict := none, data := .dict [⟨PyData.keyHash P (Str.ofString "__name__"), .str (Str.ofString "__name__") 165, (.str (Str.ofString "law_eq0019_01") 1553)⟩, ⟨PyData.keyHash P (Str.ofString "__doc__"), .str (Str.ofString "__doc__") 166, .none⟩, ⟨PyData.keyHash P (Str.ofString "__package__"), .str (Str.ofString "__package__") 167, .none⟩, ⟨PyData.keyHash P (Str.ofString "__loader__"), .str (Str.ofString "__loader__") 168, (.builtin "__main__.__loader__#opaque")⟩, ⟨PyData.keyHash P (Str.ofString "__spec__"), .str (Str.ofString "__spec__") 169, .none⟩, ⟨PyData.keyHash P (Str.ofString "__annotations__"), .str (Str.ofString "__annotations__") 170, (.ref 6)⟩, ⟨PyData.keyHash P (Str.ofString "__builtins__"), .str (Str.ofString "__builtins__") 171, (.ref 4)⟩, ⟨PyData.keyHash P (Str.ofString "__file__"), .str (Str.ofString "__file__") 173, (.str (Str.ofString "/claim/cut.py") 172)⟩, ⟨PyData.keyHash P (Str.ofString "__cached__"), .str (Str.ofString "__cached__") 174, .none⟩, ⟨PyData.keyHash P (Str.ofString "_sre"), .str (Str.ofString "_sre") 275, (.ref 12)⟩, ⟨PyData.keyHash P (Str.ofString "_wall"), .str (Str.ofString "_wall") 288, (.ref 38)⟩, ⟨PyData.keyHash P (Str.ofString "_Mark"), .str (Str.ofString "_Mark") 319, (.ref 55)⟩, ⟨PyData.keyHash P (Str.ofString "NOT_SET"), .str (Str.ofString "NOT_SET") 325, (.ref 61)⟩, ⟨PyData.keyHash P (Str.ofString "LIST_KEY"), .str (Str.ofString "LIST_KEY") 331, (.ref 64)⟩, ⟨PyData.keyHash P (Str.ofString "_PLAIN_FIELD"), .str (Str.ofString "_PLAIN_FIELD") 383, (.ref 70)⟩, ⟨PyData.keyHash P (Str.ofString "JSONPath"), .str (Str.ofString "JSONPath") 482, (.ref 143)⟩, ⟨PyData.keyHash P (Str.ofString "DatumInContext"), .str (Str.ofString "DatumInContext") 577, (.ref 212)⟩, ⟨PyData.keyHash P (Str.ofString "Root"), .str (Str.ofString "Root") 648, (.ref 275)⟩, ⟨PyData.keyHash P (Str.ofString "This"), .str (Str.ofString "This") 719, (.ref 336)⟩, ⟨PyData.keyHash P (Str.ofString "Child"), .str (Str.ofString "Child") 841, (.ref 430)⟩, ⟨PyData.keyHash P (Str.ofString "Descendants"), .str (Str.ofString "Descendants") 944, (.ref 515)⟩, ⟨PyData.keyHash P (Str.ofString "_Union"), .str (Str.ofString "_Union") 1015, (.ref 576)⟩, ⟨PyData.keyHash P (Str.ofString "Fields"), .str (Str.ofString "Fields") 1193, (.ref 704)⟩, ⟨PyData.keyHash P (Str.ofString "Wildcard"), .str (Str.ofString "Wildcard") 1290, (.ref 780)⟩, ⟨PyData.keyHash P (Str.ofString "Index"), .str (Str.ofString "Index") 1417, (.ref 881)⟩, ⟨PyData.keyHash P (Str.ofString "Slice"), .str (Str.ofString "Slice") 1520, (.ref 952)⟩, ⟨PyData.keyHash P (Str.ofString "_find_array_elements"), .str (Str.ofString "_find_array_elements") 1526, (.ref 959)⟩, ⟨PyData.keyHash P (Str.ofString "_update_array_elements"), .str (Str.ofString "_update_array_elements") 1534, (.ref 966)⟩, ⟨PyData.keyHash P (Str.ofString "_create_list_key"), .str (Str.ofString "_create_list_key") 1542, (.ref 973)⟩, ⟨PyData.keyHash P (Str.ofString "_clean_list_keys"), .str (Str.ofString "_clean_list_keys") 1552, (.ref 980)⟩, ⟨PyData.keyHash P (Str.ofString "_law_next"), .str (Str.ofString "_law_next") 1562, (.ref 987)⟩, ⟨PyData.keyHash P (Str.ofString "_law_document"), .str (Str.ofString "_law_document") 1568, (.ref 992)⟩, ⟨PyData.keyHash P (Str.ofString "_law_step"), .str (Str.ofString "_law_step") 1576, (.ref 999)⟩, ⟨PyData.keyHash P (Str.ofString "_law_address"), .str (Str.ofString "_law_address") 1585, (.ref 1006)⟩, ⟨PyData.keyHash P (Str.ofString "_law_told"), .str (Str.ofString "_law_told") 1591, (.ref 1011)⟩, ⟨PyData.keyHash P (Str.ofString "_law_often"), .str (Str.ofString "_law_often") 1597, (.ref 1016)⟩, ⟨PyData.keyHash P (Str.ofString "_law_all"), .str (Str.ofString "_law_all") 1607, (.ref 1023)⟩, ⟨PyData.keyHash P (Str.ofString "_law_path"), .str (Str.ofString "_law_path") 1616, (.ref 1030)⟩, ⟨PyData.keyHash P (Str.ofString "law"), .str (Str.ofString "law") 1622, (.ref 1035)⟩].toArray 39, slots := [].toArray }),
  (nat_lit 4, { cls := (.type "module"), dict := (some 0), data := .plain, slots := [].toArray }),
  (nat_lit 61, { cls := (.ref 55), dict := (some 60), data := .plain, slots := [].toArray }),
  (nat_lit 142, { cls := (.type "dict"), dict := none, data := .dict [⟨PyData.keyHash P (Str.ofString "__module__"), .str (Str.ofString "__module__") 391, (.str (Str.ofString "jsonpath_ng.jsonpath") 289)⟩, ⟨PyData.keyHash P (Str.ofString "__firstlineno__"), .str (Str.ofString "__firstlineno__") 395, (.int (13) 394)⟩, ⟨PyData.keyHash P (Str.ofString "find"), .str (Str.ofString "find") 403, (.ref 84)⟩, ⟨PyData.keyHash P (Str.ofString "find_or_create"), .str (Str.ofString "find_or_create") 411, (.ref 91)⟩, ⟨PyData.keyHash P (Str.ofString "update"), .str (Str.ofString "update") 420, (.ref 98)⟩, ⟨PyData.keyHash P (Str.ofString "update_or_create"), .str (Str.ofString "update_or_create") 429, (.ref 105)⟩, ⟨PyData.keyHash P (Str.ofString "_update_with_root"), .str (Str.ofString "_update_with_root") 439, (.ref 112)⟩, ⟨PyData.keyHash P (Str.ofString "_filter_with_root"), .str (Str.ofString "_filter_with_root") 449, (.ref 119)⟩, ⟨PyData.keyHash P (Str.ofString "filter"), .str (Str.ofString "filter") 458, (.ref 126)⟩, ⟨PyData.keyHash P (Str.ofString "child"), .str (Str.ofString "child") 466, (.ref 133)⟩, ⟨PyData.keyHash P (Str.ofString "make_datum"), .str (Str.ofString "make_datum") 474, (.ref 140)⟩, ⟨PyData.keyHash P (Str.ofString "__static_attributes__"), .str (Str.ofString "__static_attributes__") 475, (.ref 141)⟩, ⟨PyData.keyHash P (Str.ofString "__dict__"), .str (Str.ofString "__dict__") 477, (.ref 144)⟩, ⟨PyData.keyHash P (Str.ofString "__weakref__"), .str (Str.ofString "__weakref__") 479, (.ref 145)⟩, ⟨PyData.keyHash P (Str.ofString "__doc__"), .str (Str.ofString "__doc__") 480, .none⟩].toArray 4, slots := [].toArray }),
  (nat_lit 143, { cls := (.type "type"), dict := none, data := .cls { name := (Str.ofString "JSONPath"), bases := [(.type "object")], mro := [(.ref 143), (.type "object")], ns := 142, qualname := (Str.ofString "JSONPath"), hasDict := true, slotNames := [], subclasses := [(.ref 275), (.ref 336), (.ref 430), (.ref 515), (.ref 576), (.ref 704), (.ref 780), (.ref 881), (.ref 952)], abstract := false, collection := none, hasDel := false }, slots := [none, none, (some (.str (Str.ofString "JSONPath") 384)), (some (.str (Str.ofString "JSONPath") 392)), (some (.builtin "object.__new__")), (some (.bool true))].toArray }),
  (nat_lit 160, { cls := (.type "code"), dict := none, data := .fields [(.str (Str.ofString "wrap") 495), (.str (Str.ofString "DatumInContext.wrap") 496), (.str (Str.ofString "/claim/cut.py") 497), (.int (50) 0), (.int (2) 0), (.int (0) 0), (.int (0) 0), (.int (3) 0), (.ref 155), (.bool true), (.int (276) 0), (.ref 156), .none, (.ref 157), (.ref 158), (.ref 159), (.int (500) 0), (.int (50) 0), (.str (Str.ofString "/claim/cut.py") 501)].toArray, slots := [].toArray }),
  (nat_lit 161, { cls := (.type "function"), dict := none, data := .func { name := (Str.ofString "wrap"), qualname := (Str.ofString "DatumInContext.wrap"), params := defArgs (methAt 8 0), body := .stmts (defBody (methAt 8 0)), scope := defScope (methAt 8 0), globals := 3, closure := [], defaults := .none, kwdefaults := .none, doc := .none, pyModule := (.str (Str.ofString "jsonpath_ng.jsonpath") 289), annotations := (some 164), code := (.ref 160), closureTuple := .none, builtins := 0 }, slots := [].toArray }),
  (nat_lit 163, { cls := (.type "classmethod"), dict := (some 162), data := .fields [(.ref 161), (.bool false)].toArray, slots := [].toArray }),
  (nat_lit 165, { cls := (.type "tuple"), dict := none, data := .seq [.none, .none].toArray 0, slots := [].toArray }),
  (nat_lit 171, { cls := (.type "code"), dict := none, data := .fields [(.str (Str.ofString "__init__") 515), (.str (Str.ofString "DatumInContext.__init__") 516), (.str (Str.ofString "/claim/cut.py") 517), (.int (57) 0), (.int (4) 0), (.int (0) 0), (.int (0) 0), (.int (3) 0), (.ref 166), (.bool true), (.int (276) 0), (.ref 167), .none, (.ref 168), (.ref 169), (.ref 170), (.int (522) 0), (.int (57) 0), (.str (Str.ofString "/claim/cut.py") 523)].toArray, slots := [].toArray }),
  (nat_lit 172, { cls := (.type "function"), dict := none, data := .func { name := (Str.ofString "__init__"), qualname := (Str.ofString "DatumInContext.__init__"), params := defArgs (methAt 8 1), body := .stmts (defBody (methAt 8 1)), scope := defScope (methAt 8 1), globals := 3, closure := [], defaults := (.ref 165), kwdefaults := .none, doc := .none, pyModule := (.str (Str.ofString "jsonpath_ng.jsonpath") 289), annotations := none, code := (.ref 171), closureTuple := .none, builtins := 0 }, slots := [].toArray }),
  (nat_lit 178, { cls := (.type "code"), dict := none, data := .fields [(.str (Str.ofString "value") 525), (.str (Str.ofString "DatumInContext.value") 526), (.str (Str.ofString "/claim/cut.py") 527), (.int (64) 0), (.int (1) 0), (.int (0) 0), (.int (0) 0), (.int (3) 0), (.ref 173), (.bool true), (.int (276) 0), (.ref 174), .none, (.ref 175), (.ref 176), (.ref 177), (.int (529) 0), (.int (64) 0), (.str (Str.ofString "/claim/cut.py") 530)].toArray, slots := [].toArray }),
  (nat_lit 179, { cls := (.type "function"), dict := none, data := .func { name := (Str.ofString "value"), qualname := (Str.ofString "DatumInContext.value"), params := defArgs (methAt 8 2), body := .stmts (defBody (methAt 8 2)), scope := defScope (methAt 8 2), globals := 3, closure := [], defaults := .none, kwdefaults := .none, doc := .none, pyModule := (.str (Str.ofString "jsonpath_ng.jsonpath") 289), annotations := none, code := (.ref 178), closureTuple := .none, builtins := 0 }, slots := [].toArray }),
  (nat_lit 180, { cls := (.type "property"), dict := none, data := .fields [(.ref 179), .none, .none, .none, (.str (Str.ofString "value") 532), (.bool false)].toArray, slots := [].toArray }),
  (nat_lit 202, { cls := (.type "property"), dict := none, data := .fields [(.ref 201), .none, .none, .none, (.str (Str.ofString "full_path") 557), (.bool false)].toArray, slots := [].toArray }),
  (nat_lit 211, { cls := (.type "dict"), dict := none, data := .dict [⟨PyData.keyHash P (Str.ofString "__module__"), .str (Str.ofString "__module__") 490, (.str (Str.ofString "jsonpath_ng.jsonpath") 289)⟩, ⟨PyData.keyHash P (Str.ofString "__firstlineno__"), .str (Str.ofString "__firstlineno__") 494, (.int (48) 493)⟩, ⟨PyData.keyHash P (Str.ofString "wrap"), .str (Str.ofString "wrap") 514, (.ref 163)⟩, ⟨PyData.keyHash P (Str.ofString "__init__"), .str (Str.ofString "__init__") 524, (.ref 172)⟩, ⟨PyData.keyHash P (Str.ofString "value"), .str (Str.ofString "value") 532, (.ref 180)⟩, ⟨PyData.keyHash P (Str.ofString "set_value"), .str (Str.ofString "set_value") 540, (.ref 187)⟩, ⟨PyData.keyHash P (Str.ofString "in_context"), .str (Str.ofString "in_context") 549, (.ref 194)⟩, ⟨PyData.keyHash P (Str.ofString "full_path"), .str (Str.ofString "full_path") 557, (.ref 202)⟩, ⟨PyData.keyHash P (Str.ofString "__eq__"), .str (Str.ofString "__eq__") 565, (.ref 209)⟩, ⟨PyData.keyHash P (Str.ofString "__static_attributes__"), .str (Str.ofString "__static_attributes__") 569, (.ref 210)⟩, ⟨PyData.keyHash P (Str.ofString "__dict__"), .str (Str.ofString "__dict__") 571, (.ref 213)⟩, ⟨PyData.keyHash P (Str.ofString "__weakref__"), .str (Str.ofString "__weakref__") 573, (.ref 214)⟩, ⟨PyData.keyHash P (Str.ofString "__doc__"), .str (Str.ofString "__doc__") 574, .none⟩, ⟨PyData.keyHash P (Str.ofString "__hash__"), .str (Str.ofString "__hash__") 575, .none⟩].toArray 5, slots := [].toArray }),
  (nat_lit 212, { cls := (.type "type"), dict := none, data := .cls { name := (Str.ofString "DatumInContext"), bases := [(.type "object")], mro := [(.ref 212), (.type "object")], ns := 211, qualname := (Str.ofString "DatumInContext"), hasDict := true, slotNames := [], subclasses := [], abstract := false, collection := none, hasDel := false }, slots := [none, none, (some (.str (Str.ofString "DatumInContext") 483)), (some (.str (Str.ofString "DatumInContext") 491)), (some (.builtin "object.__new__")), (some (.bool true))].toArray }),
  (nat_lit 229, { cls := (.type "code"), dict := none, data := .fields [(.str (Str.ofString "find") 590), (.str (Str.ofString "Root.find") 591), (.str (Str.ofString "/claim/cut.py") 592), (.int (84) 0), (.int (2) 0), (.int (0) 0), (.int (0) 0), (.int (3) 0), (.ref 224), (.bool true), (.int (276) 0), (.ref 225), .none, (.ref 226), (.ref 227), (.ref 228), (.int (595) 0), (.int (84) 0), (.str (Str.ofString "/claim/cut.py") 596)].toArray, slots := [].toArray }),
  (nat_lit 230, { cls := (.type "function"), dict := none, data := .func { name := (Str.ofString "find"), qualname := (Str.ofString "Root.find"), params := defArgs (methAt 9 0), body := .stmts (defBody (methAt 9 0)), scope := defScope (methAt 9 0), globals := 3, closure := [], defaults := .none, kwdefaults := .none, doc := .none, pyModule := (.str (Str.ofString "jsonpath_ng.jsonpath") 289), annotations := none, code := (.ref 229), closureTuple := .none, builtins := 0 }, slots := [].toArray }),
  (nat_lit 274, { cls := (.type "dict"), dict := none, data := .dict [⟨PyData.keyHash P (Str.ofString "__module__"), .str (Str.ofString "__module__") 585, (.str (Str.ofString "jsonpath_ng.jsonpath") 289)⟩, ⟨PyData.keyHash P (Str.ofString "__firstlineno__"), .str (Str.ofString "__firstlineno__") 589, (.int (82) 588)⟩, ⟨PyData.keyHash P (Str.ofString "find"), .str (Str.ofString "find") 597, (.ref 230)⟩, ⟨PyData.keyHash P (Str.ofString "update"), .str (Str.ofString "update") 606, (.ref 237)⟩, ⟨PyData.keyHash P (Str.ofString "filter"), .str (Str.ofString "filter") 615, (.ref 244)⟩, ⟨PyData.keyHash P (Str.ofString "__str__"), .str (Str.ofString "__str__") 622, (.ref 251)⟩, ⟨PyData.keyHash P (Str.ofString "__repr__"), .str (Str.ofString "__repr__") 629, (.ref 258)⟩, ⟨PyData.keyHash P (Str.ofString "__eq__"), .str (Str.ofString "__eq__") 637, (.ref 265)⟩, ⟨PyData.keyHash P (Str.ofString "__hash__"), .str (Str.ofString "__hash__") 644, (.ref 272)⟩, ⟨PyData.keyHash P (Str.ofString "__static_attributes__"), .str (Str.ofString "__static_attributes__") 645, (.ref 273)⟩, ⟨PyData.keyHash P (Str.ofString "__doc__"), .str (Str.ofString "__doc__") 646, .none⟩].toArray 2, slots := [].toArray }),
  (nat_lit 275, { cls := (.type "type"), dict := none, data := .cls { name := (Str.ofString "Root"), bases := [(.ref 143)], mro := [(.ref 275), (.ref 143), (.type "object")], ns := 274, qualname := (Str.ofString "Root"), hasDict := true, slotNames := [], subclasses := [], abstract := false, collection := none, hasDel := false }, slots := [(some (.ref 217)), none, (some (.str (Str.ofString "Root") 578)), (some (.str (Str.ofString "Root") 586)), (some (.builtin "object.__new__")), (some (.bool true))].toArray }),
  (nat_lit 290, { cls := (.type "code"), dict := none, data := .fields [(.str (Str.ofString "find") 661), (.str (Str.ofString "This.find") 662), (.str (Str.ofString "/claim/cut.py") 663), (.int (111) 0), (.int (2) 0), (.int (0) 0), (.int (0) 0), (.int (3) 0), (.ref 285), (.bool true), (.int (276) 0), (.ref 286), .none, (.ref 287), (.ref 288), (.ref 289), (.int (666) 0), (.int (111) 0), (.str (Str.ofString "/claim/cut.py") 667)].toArray, slots := [].toArray }),
  (nat_lit 291, { cls := (.type "function"), dict := none, data := .func { name := (Str.ofString "find"), qualname := (Str.ofString "This.find"), params := defArgs (methAt 10 0), body := .stmts (defBody (methAt 10 0)), scope := defScope (methAt 10 0), globals := 3, closure := [], defaults := .none, kwdefaults := .none, doc := .none, pyModule := (.str (Str.ofString "jsonpath_ng.jsonpath") 289), annotations := none, code := (.ref 290), closureTuple := .none, builtins := 0 }, slots := [].toArray }),
  (nat_lit 335, { cls := (.type "dict"), dict := none, data := .dict [⟨PyData.keyHash P (Str.ofString "__module__"), .str (Str.ofString "__module__") 656, (.str (Str.ofString "jsonpath_ng.jsonpath") 289)⟩, ⟨PyData.keyHash P (Str.ofString "__firstlineno__"), .str (Str.ofString "__firstlineno__") 660, (.int (109) 659)⟩, ⟨PyData.keyHash P (Str.ofString "find"), .str (Str.ofString "find") 668, (.ref 291)⟩, ⟨PyData.keyHash P (Str.ofString "update"), .str (Str.ofString "update") 677, (.ref 298)⟩, ⟨PyData.keyHash P (Str.ofString "filter"), .str (Str.ofString "filter") 686, (.ref 305)⟩, ⟨PyData.keyHash P (Str.ofString "__str__"), .str (Str.ofString "__str__") 693, (.ref 312)⟩, ⟨PyData.keyHash P (Str.ofString "__repr__"), .str (Str.ofString "__repr__") 700, (.ref 319)⟩, ⟨PyData.keyHash P (Str.ofString "__eq__"), .str (Str.ofString "__eq__") 708, (.ref 326)⟩, ⟨PyData.keyHash P (Str.ofString "__hash__"), .str (Str.ofString "__hash__") 715, (.ref 333)⟩, ⟨PyData.keyHash P (Str.ofString "__static_attributes__"), .str (Str.ofString "__static_attributes__") 716, (.ref 334)⟩, ⟨PyData.keyHash P (Str.ofString "__doc__"), .str (Str.ofString "__doc__") 717, .none⟩].toArray 2, slots := [].toArray }),
  (nat_lit 336, { cls := (.type "type"), dict := none, data := .cls { name := (Str.ofString "This"), bases := [(.ref 143)], mro := [(.ref 336), (.ref 143), (.type "object")], ns := 335, qualname := (Str.ofString "This"), hasDict := true, slotNames := [], subclasses := [], abstract := false, collection := none, hasDel := false }, slots := [(some (.ref 278)), none, (some (.str (Str.ofString "This") 649)), (some (.str (Str.ofString "This") 657)), (some (.builtin "object.__new__")), (some (.bool true))].toArray }),
  (nat_lit 351, { cls := (.type "code"), dict := none, data := .fields [(.str (Str.ofString "__init__") 732), (.str (Str.ofString "Child.__init__") 733), (.str (Str.ofString "/claim/cut.py") 734), (.int (133) 0), (.int (3) 0), (.int (0) 0), (.int (0) 0), (.int (3) 0), (.ref 346), (.bool true), (.int (276) 0), (.ref 347), .none, (.ref 348), (.ref 349), (.ref 350), (.int (738) 0), (.int (133) 0), (.str (Str.ofString "/claim/cut.py") 739)].toArray, slots := [].toArray }),
  (nat_lit 352, { cls := (.type "function"), dict := none, data := .func { name := (Str.ofString "__init__"), qualname := (Str.ofString "Child.__init__"), params := defArgs (methAt 11 0), body := .stmts (defBody (methAt 11 0)), scope := defScope (methAt 11 0), globals := 3, closure := [], defaults := .none, kwdefaults := .none, doc := .none, pyModule := (.str (Str.ofString "jsonpath_ng.jsonpath") 289), annotations := none, code := (.ref 351), closureTuple := .none, builtins := 0 }, slots := [].toArray }),
  (nat_lit 356, { cls := (.type "code"), dict := none, data := .fields [(.str (Str.ofString "find") 741), (.str (Str.ofString "Child.find") 742), (.str (Str.ofString "/claim/cut.py") 743), (.int (137) 0), (.int (2) 0), (.int (0) 0), (.int (0) 0), (.int (3) 0), (.ref 353), (.bool true), (.int (276) 0), (.ref 354), .none, .none, .none, (.ref 355), (.int (744) 0), (.int (137) 0), (.str (Str.ofString "/claim/cut.py") 745)].toArray, slots := [].toArray }),
  (nat_lit 357, { cls := (.type "function"), dict := none, data := .func { name := (Str.ofString "find"), qualname := (Str.ofString "Child.find"), params := defArgs (methAt 11 1), body := .stmts (defBody (methAt 11 1)), scope := defScope (methAt 11 1), globals := 3, closure := [], defaults := .none, kwdefaults := .none, doc := .none, pyModule := (.str (Str.ofString "jsonpath_ng.jsonpath") 289), annotations := none, code := (.ref 356), closureTuple := .none, builtins := 0 }, slots := [].toArray }),
  (nat_lit 429, { cls := (.type "dict"), dict := none, data := .dict [⟨PyData.keyHash P (Str.ofString "__module__"), .str (Str.ofString "__module__") 727, (.str (Str.ofString "jsonpath_ng.jsonpath") 289)⟩, ⟨PyData.keyHash P (Str.ofString "__firstlineno__"), .str (Str.ofString "__firstlineno__") 731, (.int (131) 730)⟩, ⟨PyData.keyHash P (Str.ofString "__init__"), .str (Str.ofString "__init__") 740, (.ref 352)⟩, ⟨PyData.keyHash P (Str.ofString "find"), .str (Str.ofString "find") 746, (.ref 357)⟩, ⟨PyData.keyHash P (Str.ofString "update"), .str (Str.ofString "update") 755, (.ref 364)⟩, ⟨PyData.keyHash P (Str.ofString "_update_with_root"), .str (Str.ofString "_update_with_root") 766, (.ref 371)⟩, ⟨PyData.keyHash P (Str.ofString "find_or_create"), .str (Str.ofString "find_or_create") 777, (.ref 378)⟩, ⟨PyData.keyHash P (Str.ofString "update_or_create"), .str (Str.ofString "update_or_create") 787, (.ref 385)⟩, ⟨PyData.keyHash P (Str.ofString "filter"), .str (Str.ofString "filter") 796, (.ref 392)⟩, ⟨PyData.keyHash P (Str.ofString "_filter_with_root"), .str (Str.ofString "_filter_with_root") 806, (.ref 399)⟩, ⟨PyData.keyHash P (Str.ofString "__eq__"), .str (Str.ofString "__eq__") 814, (.ref 406)⟩, ⟨PyData.keyHash P (Str.ofString "__str__"), .str (Str.ofString "__str__") 821, (.ref 413)⟩, ⟨PyData.keyHash P (Str.ofString "__repr__"), .str (Str.ofString "__repr__") 828, (.ref 420)⟩, ⟨PyData.keyHash P (Str.ofString "__hash__"), .str (Str.ofString "__hash__") 835, (.ref 427)⟩, ⟨PyData.keyHash P (Str.ofString "__static_attributes__"), .str (Str.ofString "__static_attributes__") 838, (.ref 428)⟩, ⟨PyData.keyHash P (Str.ofString "__doc__"), .str (Str.ofString "__doc__") 839, .none⟩].toArray 2, slots := [].toArray }),
  (nat_lit 430, { cls := (.type "type"), dict := none, data := .cls { name := (Str.ofString "Child"), bases := [(.ref 143)], mro := [(.ref 430), (.ref 143), (.type "object")], ns := 429, qualname := (Str.ofString "Child"), hasDict := true, slotNames := [], subclasses := [], abstract := false, collection := none, hasDel := false }, slots := [(some (.ref 339)), none, (some (.str (Str.ofString "Child") 720)), (some (.str (Str.ofString "Child") 728)), (some (.builtin "object.__new__")), (some (.bool true))].toArray }),
  (nat_lit 445, { cls := (.type "code"), dict := none, data := .fields [(.str (Str.ofString "__init__") 854), (.str (Str.ofString "Descendants.__init__") 855), (.str (Str.ofString "/claim/cut.py") 856), (.int (182) 0), (.int (3) 0), (.int (0) 0), (.int (0) 0), (.int (3) 0), (.ref 440), (.bool true), (.int (276) 0), (.ref 441), .none, (.ref 442), (.ref 443), (.ref 444), (.int (860) 0), (.int (182) 0), (.str (Str.ofString "/claim/cut.py") 861)].toArray, slots := [].toArray }),
  (nat_lit 446, { cls := (.type "function"), dict := none, data := .func { name := (Str.ofString "__init__"), qualname := (Str.ofString "Descendants.__init__"), params := defArgs (methAt 12 0), body := .stmts (defBody (methAt 12 0)), scope := defScope (methAt 12 0), globals := 3, closure := [], defaults := .none, kwdefaults := .none, doc := .none, pyModule := (.str (Str.ofString "jsonpath_ng.jsonpath") 289), annotations := none, code := (.ref 445), closureTuple := .none, builtins := 0 }, slots := [].toArray }),
  (nat_lit 450, { cls := (.type "code"), dict := none, data := .fields [(.str (Str.ofString "find") 863), (.str (Str.ofString "Descendants.find") 864), (.str (Str.ofString "/claim/cut.py") 865), (.int (186) 0), (.int (2) 0), (.int (0) 0), (.int (0) 0), (.int (3) 0), (.ref 447), (.bool true), (.int (276) 0), (.ref 448), .none, .none, .none, (.ref 449), (.int (866) 0), (.int (186) 0), (.str (Str.ofString "/claim/cut.py") 867)].toArray, slots := [].toArray }),
  (nat_lit 451, { cls := (.type "function"), dict := none, data := .func { name := (Str.ofString "find"), qualname := (Str.ofString "Descendants.find"), params := defArgs (methAt 12 1), body := .stmts (defBody (methAt 12 1)), scope := defScope (methAt 12 1), globals := 3, closure := [], defaults := .none, kwdefaults := .none, doc := .none, pyModule := (.str (Str.ofString "jsonpath_ng.jsonpath") 289), annotations := none, code := (.ref 450), closureTuple := .none, builtins := 0 }, slots := [].toArray }),
  (nat_lit 514, { cls := (.type "dict"), dict := none, data := .dict [⟨PyData.keyHash P (Str.ofString "__module__"), .str (Str.ofString "__module__") 849, (.str (Str.ofString "jsonpath_ng.jsonpath") 289)⟩, ⟨PyData.keyHash P (Str.ofString "__firstlineno__"), .str (Str.ofString "__firstlineno__") 853, (.int (180) 852)⟩, ⟨PyData.keyHash P (Str.ofString "__init__"), .str (Str.ofString "__init__") 862, (.ref 446)⟩, ⟨PyData.keyHash P (Str.ofString "find"), .str (Str.ofString "find") 868, (.ref 451)⟩, ⟨PyData.keyHash P (Str.ofString "is_singular"), .str (Str.ofString "is_singular") 875, (.ref 458)⟩, ⟨PyData.keyHash P (Str.ofString "update"), .str (Str.ofString "update") 884, (.ref 465)⟩, ⟨PyData.keyHash P (Str.ofString "_update_with_root"), .str (Str.ofString "_update_with_root") 890, (.ref 470)⟩, ⟨PyData.keyHash P (Str.ofString "filter"), .str (Str.ofString "filter") 899, (.ref 477)⟩, ⟨PyData.keyHash P (Str.ofString "_filter_with_root"), .str (Str.ofString "_filter_with_root") 909, (.ref 484)⟩, ⟨PyData.keyHash P (Str.ofString "__str__"), .str (Str.ofString "__str__") 916, (.ref 491)⟩, ⟨PyData.keyHash P (Str.ofString "__eq__"), .str (Str.ofString "__eq__") 924, (.ref 498)⟩, ⟨PyData.keyHash P (Str.ofString "__repr__"), .str (Str.ofString "__repr__") 931, (.ref 505)⟩, ⟨PyData.keyHash P (Str.ofString "__hash__"), .str (Str.ofString "__hash__") 938, (.ref 512)⟩, ⟨PyData.keyHash P (Str.ofString "__static_attributes__"), .str (Str.ofString "__static_attributes__") 941, (.ref 513)⟩, ⟨PyData.keyHash P (Str.ofString "__doc__"), .str (Str.ofString "__doc__") 942, .none⟩].toArray 2, slots := [].toArray }),
  (nat_lit 515, { cls := (.type "type"), dict := none, data := .cls { name := (Str.ofString "Descendants"), bases := [(.ref 143)], mro := [(.ref 515), (.ref 143), (.type "object")], ns := 514, qualname := (Str.ofString "Descendants"), hasDict := true, slotNames := [], subclasses := [], abstract := false, collection := none, hasDel := false }, slots := [(some (.ref 433)), none, (some (.str (Str.ofString "Descendants") 842)), (some (.str (Str.ofString "Descendants") 850)), (some (.builtin "object.__new__")), (some (.bool true))].toArray }),
  (nat_lit 530, { cls := (.type "code"), dict := none, data := .fields [(.str (Str.ofString "__init__") 957), (.str (Str.ofString "_Union.__init__") 958), (.str (Str.ofString "/claim/cut.py") 959), (.int (242) 0), (.int (3) 0), (.int (0) 0), (.int (0) 0), (.int (3) 0), (.ref 525), (.bool true), (.int (276) 0), (.ref 526), .none, (.ref 527), (.ref 528), (.ref 529), (.int (963) 0), (.int (242) 0), (.str (Str.ofString "/claim/cut.py") 964)].toArray, slots := [].toArray }),
  (nat_lit 531, { cls := (.type "function"), dict := none, data := .func { name := (Str.ofString "__init__"), qualname := (Str.ofString "_Union.__init__"), params := defArgs (methAt 13 0), body := .stmts (defBody (methAt 13 0)), scope := defScope (methAt 13 0), globals := 3, closure := [], defaults := .none, kwdefaults := .none, doc := .none, pyModule := (.str (Str.ofString "jsonpath_ng.jsonpath") 289), annotations := none, code := (.ref 530), closureTuple := .none, builtins := 0 }, slots := [].toArray }),
  (nat_lit 544, { cls := (.type "code"), dict := none, data := .fields [(.str (Str.ofString "find") 973), (.str (Str.ofString "_Union.find") 974), (.str (Str.ofString "/claim/cut.py") 975), (.int (249) 0), (.int (2) 0), (.int (0) 0), (.int (0) 0), (.int (3) 0), (.ref 539), (.bool true), (.int (276) 0), (.ref 540), .none, (.ref 541), (.ref 542), (.ref 543), (.int (978) 0), (.int (249) 0), (.str (Str.ofString "/claim/cut.py") 979)].toArray, slots := [].toArray }),
  (nat_lit 545, { cls := (.type "function"), dict := none, data := .func { name := (Str.ofString "find"), qualname := (Str.ofString "_Union.find"), params := defArgs (methAt 13 2), body := .stmts (defBody (methAt 13 2)), scope := defScope (methAt 13 2), globals := 3, closure := [], defaults := .none, kwdefaults := .none, doc := .none, pyModule := (.str (Str.ofString "jsonpath_ng.jsonpath") 289), annotations := none, code := (.ref 544), closureTuple := .none, builtins := 0 }, slots := [].toArray }),
  (nat_lit 575, { cls := (.type "dict"), dict := none, data := .dict [⟨PyData.keyHash P (Str.ofString "__module__"), .str (Str.ofString "__module__") 952, (.str (Str.ofString "jsonpath_ng.jsonpath") 289)⟩, ⟨PyData.keyHash P (Str.ofString "__firstlineno__"), .str (Str.ofString "__firstlineno__") 956, (.int (240) 955)⟩, ⟨PyData.keyHash P (Str.ofString "__init__"), .str (Str.ofString "__init__") 965, (.ref 531)⟩, ⟨PyData.keyHash P (Str.ofString "is_singular"), .str (Str.ofString "is_singular") 972, (.ref 538)⟩, ⟨PyData.keyHash P (Str.ofString "find"), .str (Str.ofString "find") 980, (.ref 545)⟩, ⟨PyData.keyHash P (Str.ofString "__eq__"), .str (Str.ofString "__eq__") 988, (.ref 552)⟩, ⟨PyData.keyHash P (Str.ofString "__hash__"), .str (Str.ofString "__hash__") 995, (.ref 559)⟩, ⟨PyData.keyHash P (Str.ofString "__repr__"), .str (Str.ofString "__repr__") 1002, (.ref 566)⟩, ⟨PyData.keyHash P (Str.ofString "__str__"), .str (Str.ofString "__str__") 1009, (.ref 573)⟩, ⟨PyData.keyHash P (Str.ofString "__static_attributes__"), .str (Str.ofString "__static_attributes__") 1012, (.ref 574)⟩, ⟨PyData.keyHash P (Str.ofString "__doc__"), .str (Str.ofString "__doc__") 1013, .none⟩].toArray 2, slots := [].toArray }),
  (nat_lit 576, { cls := (.type "type"), dict := none, data := .cls { name := (Str.ofString "_Union"), bases := [(.ref 143)], mro := [(.ref 576), (.ref 143), (.type "object")], ns := 575, qualname := (Str.ofString "_Union"), hasDict := true, slotNames := [], subclasses := [], abstract := false, collection := none, hasDel := false }, slots := [(some (.ref 518)), none, (some (.str (Str.ofString "_Union") 945)), (some (.str (Str.ofString "_Union") 953)), (some (.builtin "object.__new__")), (some (.bool true))].toArray }),
  (nat_lit 591, { cls := (.type "code"), dict := none, data := .fields [(.str (Str.ofString "__init__") 1028), (.str (Str.ofString "Fields.__init__") 1029), (.str (Str.ofString "/claim/cut.py") 1030), (.int (265) 0), (.int (1) 0), (.int (0) 0), (.int (0) 0), (.int (7) 0), (.ref 586), (.bool true), (.int (276) 0), (.ref 587), .none, (.ref 588), (.ref 589), (.ref 590), (.int (1033) 0), (.int (265) 0), (.str (Str.ofString "/claim/cut.py") 1034)].toArray, slots := [].toArray }),
  (nat_lit 592, { cls := (.type "function"), dict := none, data := .func { name := (Str.ofString "__init__"), qualname := (Str.ofString "Fields.__init__"), params := defArgs (methAt 14 0), body := .stmts (defBody (methAt 14 0)), scope := defScope (methAt 14 0), globals := 3, closure := [], defaults := .none, kwdefaults := .none, doc := .none, pyModule := (.str (Str.ofString "jsonpath_ng.jsonpath") 289), annotations := none, code := (.ref 591), closureTuple := .none, builtins := 0 }, slots := [].toArray }),
  (nat_lit 598, { cls := (.type "code"), dict := none, data := .fields [(.str (Str.ofString "_compliant_constructor") 1036), (.str (Str.ofString "Fields._compliant_constructor") 1037), (.str (Str.ofString "/claim/cut.py") 1038), (.int (269) 0), (.int (1) 0), (.int (0) 0), (.int (0) 0), (.int (7) 0), (.ref 593), (.bool true), (.int (276) 0), (.ref 594), .none, (.ref 595), (.ref 596), (.ref 597), (.int (1042) 0), (.int (269) 0), (.str (Str.ofString "/claim/cut.py") 1043)].toArray, slots := [].toArray }),
  (nat_lit 599, { cls := (.type "function"), dict := none, data := .func { name := (Str.ofString "_compliant_constructor"), qualname := (Str.ofString "Fields._compliant_constructor"), params := defArgs (methAt 14 1), body := .stmts (defBody (methAt 14 1)), scope := defScope (methAt 14 1), globals := 3, closure := [], defaults := .none, kwdefaults := .none, doc := .none, pyModule := (.str (Str.ofString "jsonpath_ng.jsonpath") 289), annotations := (some 602), code := (.ref 598), closureTuple := .none, builtins := 0 }, slots := [].toArray }),
  (nat_lit 601, { cls := (.type "classmethod"), dict := (some 600), data := .fields [(.ref 599), (.bool false)].toArray, slots := [].toArray }),
  (nat_lit 608, { cls := (.type "code"), dict := none, data := .fields [(.str (Str.ofString "_is_wildcard_on_array") 1057), (.str (Str.ofString "Fields._is_wildcard_on_array") 1058), (.str (Str.ofString "/claim/cut.py") 1059), (.int (275) 0), (.int (2) 0), (.int (0) 0), (.int (0) 0), (.int (3) 0), (.ref 603), (.bool true), (.int (276) 0), (.ref 604), .none, (.ref 605), (.ref 606), (.ref 607), (.int (1062) 0), (.int (275) 0), (.str (Str.ofString "/claim/cut.py") 1063)].toArray, slots := [].toArray }),
  (nat_lit 609, { cls := (.type "function"), dict := none, data := .func { name := (Str.ofString "_is_wildcard_on_array"), qualname := (Str.ofString "Fields._is_wildcard_on_array"), params := defArgs (methAt 14 2), body := .stmts (defBody (methAt 14 2)), scope := defScope (methAt 14 2), globals := 3, closure := [], defaults := .none, kwdefaults := .none, doc := .none, pyModule := (.str (Str.ofString "jsonpath_ng.jsonpath") 289), annotations := none, code := (.ref 608), closureTuple := .none, builtins := 0 }, slots := [].toArray }),
  (nat_lit 615, { cls := (.type "code"), dict := none, data := .fields [(.str (Str.ofString "get_field_datum") 1065), (.str (Str.ofString "Fields.get_field_datum") 1066), (.str (Str.ofString "/claim/cut.py") 1067), (.int (278) 0), (.int (3) 0), (.int (0) 0), (.int (0) 0), (.int (3) 0), (.ref 610), (.bool true), (.int (276) 0), (.ref 611), .none, (.ref 612), (.ref 613), (.ref 614), (.int (1072) 0), (.int (278) 0), (.str (Str.ofString "/claim/cut.py") 1073)].toArray, slots := [].toArray }),
  (nat_lit 616, { cls := (.type "function"), dict := none, data := .func { name := (Str.ofString "get_field_datum"), qualname := (Str.ofString "Fields.get_field_datum"), params := defArgs (methAt 14 3), body := .stmts (defBody (methAt 14 3)), scope := defScope (methAt 14 3), globals := 3, closure := [], defaults := .none, kwdefaults := .none, doc := .none, pyModule := (.str (Str.ofString "jsonpath_ng.jsonpath") 289), annotations := (some 619), code := (.ref 615), closureTuple := .none, builtins := 0 }, slots := [].toArray }),
  (nat_lit 618, { cls := (.type "staticmethod"), dict := (some 617), data := .fields [(.ref 616), (.bool false)].toArray, slots := [].toArray }),
  (nat_lit 625, { cls := (.type "code"), dict := none, data := .fields [(.str (Str.ofString "reified_fields") 1087), (.str (Str.ofString "Fields.reified_fields") 1088), (.str (Str.ofString "/claim/cut.py") 1089), (.int (291) 0), (.int (2) 0), (.int (0) 0), (.int (0) 0), (.int (3) 0), (.ref 620), (.bool true), (.int (276) 0), (.ref 621), .none, (.ref 622), (.ref 623), (.ref 624), (.int (1092) 0), (.int (291) 0), (.str (Str.ofString "/claim/cut.py") 1093)].toArray, slots := [].toArray }),
  (nat_lit 626, { cls := (.type "function"), dict := none, data := .func { name := (Str.ofString "reified_fields"), qualname := (Str.ofString "Fields.reified_fields"), params := defArgs (methAt 14 4), body := .stmts (defBody (methAt 14 4)), scope := defScope (methAt 14 4), globals := 3, closure := [], defaults := .none, kwdefaults := .none, doc := .none, pyModule := (.str (Str.ofString "jsonpath_ng.jsonpath") 289), annotations := none, code := (.ref 625), closureTuple := .none, builtins := 0 }, slots := [].toArray }),
  (nat_lit 632, { cls := (.type "code"), dict := none, data := .fields [(.str (Str.ofString "find") 1095), (.str (Str.ofString "Fields.find") 1096), (.str (Str.ofString "/claim/cut.py") 1097), (.int (300) 0), (.int (2) 0), (.int (0) 0), (.int (0) 0), (.int (3) 0), (.ref 627), (.bool true), (.int (276) 0), (.ref 628), .none, (.ref 629), (.ref 630), (.ref 631), (.int (1100) 0), (.int (300) 0), (.str (Str.ofString "/claim/cut.py") 1101)].toArray, slots := [].toArray }),
  (nat_lit 633, { cls := (.type "function"), dict := none, data := .func { name := (Str.ofString "find"), qualname := (Str.ofString "Fields.find"), params := defArgs (methAt 14 5), body := .stmts (defBody (methAt 14 5)), scope := defScope (methAt 14 5), globals := 3, closure := [], defaults := .none, kwdefaults := .none, doc := .none, pyModule := (.str (Str.ofString "jsonpath_ng.jsonpath") 289), annotations := none, code := (.ref 632), closureTuple := .none, builtins := 0 }, slots := [].toArray }),
  (nat_lit 644, { cls := (.type "code"), dict := none, data := .fields [(.str (Str.ofString "_find_base") 1111), (.str (Str.ofString "Fields._find_base") 1112), (.str (Str.ofString "/claim/cut.py") 1113), (.int (306) 0), (.int (3) 0), (.int (0) 0), (.int (0) 0), (.int (3) 0), (.ref 641), (.bool true), (.int (276) 0), (.ref 642), .none, .none, .none, (.ref 643), (.int (1114) 0), (.int (306) 0), (.str (Str.ofString "/claim/cut.py") 1115)].toArray, slots := [].toArray }),
  (nat_lit 645, { cls := (.type "function"), dict := none, data := .func { name := (Str.ofString "_find_base"), qualname := (Str.ofString "Fields._find_base"), params := defArgs (methAt 14 7), body := .stmts (defBody (methAt 14 7)), scope := defScope (methAt 14 7), globals := 3, closure := [], defaults := .none, kwdefaults := .none, doc := .none, pyModule := (.str (Str.ofString "jsonpath_ng.jsonpath") 289), annotations := none, code := (.ref 644), closureTuple := .none, builtins := 0 }, slots := [].toArray }),
  (nat_lit 703, { cls := (.type "dict"), dict := none, data := .dict [⟨PyData.keyHash P (Str.ofString "__module__"), .str (Str.ofString "__module__") 1023, (.str (Str.ofString "jsonpath_ng.jsonpath") 289)⟩, ⟨PyData.keyHash P (Str.ofString "__firstlineno__"), .str (Str.ofString "__firstlineno__") 1027, (.int (263) 1026)⟩, ⟨PyData.keyHash P (Str.ofString "__init__"), .str (Str.ofString "__init__") 1035, (.ref 592)⟩, ⟨PyData.keyHash P (Str.ofString "_compliant_constructor"), .str (Str.ofString "_compliant_constructor") 1056, (.ref 601)⟩, ⟨PyData.keyHash P (Str.ofString "_is_wildcard_on_array"), .str (Str.ofString "_is_wildcard_on_array") 1064, (.ref 609)⟩, ⟨PyData.keyHash P (Str.ofString "get_field_datum"), .str (Str.ofString "get_field_datum") 1086, (.ref 618)⟩, ⟨PyData.keyHash P (Str.ofString "reified_fields"), .str (Str.ofString "reified_fields") 1094, (.ref 626)⟩, ⟨PyData.keyHash P (Str.ofString "find"), .str (Str.ofString "find") 1102, (.ref 633)⟩, ⟨PyData.keyHash P (Str.ofString "find_or_create"), .str (Str.ofString "find_or_create") 1110, (.ref 640)⟩, ⟨PyData.keyHash P (Str.ofString "_find_base"), .str (Str.ofString "_find_base") 1116, (.ref 645)⟩, ⟨PyData.keyHash P (Str.ofString "update"), .str (Str.ofString "update") 1125, (.ref 652)⟩, ⟨PyData.keyHash P (Str.ofString "update_or_create"), .str (Str.ofString "update_or_create") 1134, (.ref 659)⟩, ⟨PyData.keyHash P (Str.ofString "_update_base"), .str (Str.ofString "_update_base") 1146, (.ref 666)⟩, ⟨PyData.keyHash P (Str.ofString "filter"), .str (Str.ofString "filter") 1155, (.ref 673)⟩, ⟨PyData.keyHash P (Str.ofString "__str__"), .str (Str.ofString "__str__") 1164, (.ref 680)⟩, ⟨PyData.keyHash P (Str.ofString "__repr__"), .str (Str.ofString "__repr__") 1172, (.ref 687)⟩, ⟨PyData.keyHash P (Str.ofString "__eq__"), .str (Str.ofString "__eq__") 1180, (.ref 694)⟩, ⟨PyData.keyHash P (Str.ofString "__hash__"), .str (Str.ofString "__hash__") 1187, (.ref 701)⟩, ⟨PyData.keyHash P (Str.ofString "__static_attributes__"), .str (Str.ofString "__static_attributes__") 1190, (.ref 702)⟩, ⟨PyData.keyHash P (Str.ofString "__doc__"), .str (Str.ofString "__doc__") 1191, .none⟩].toArray 2, slots := [].toArray }),
  (nat_lit 704, { cls := (.type "type"), dict := none, data := .cls { name := (Str.ofString "Fields"), bases := [(.ref 143)], mro := [(.ref 704), (.ref 143), (.type "object")], ns := 703, qualname := (Str.ofString "Fields"), hasDict := true, slotNames := [], subclasses := [], abstract := false, collection := none, hasDel := false }, slots := [(some (.ref 579)), none, (some (.str (Str.ofString "Fields") 1016)), (some (.str (Str.ofString "Fields") 1024)), (some (.builtin "object.__new__")), (some (.bool true))].toArray }),
  (nat_lit 722, { cls := (.type "staticmethod"), dict := (some 721), data := .fields [(.ref 720), (.bool false)].toArray, slots := [].toArray }),
  (nat_lit 727, { cls := (.type "code"), dict := none, data := .fields [(.str (Str.ofString "find") 1225), (.str (Str.ofString "Wildcard.find") 1226), (.str (Str.ofString "/claim/cut.py") 1227), (.int (369) 0), (.int (2) 0), (.int (0) 0), (.int (0) 0), (.int (3) 0), (.ref 724), (.bool true), (.int (276) 0), (.ref 725), .none, .none, .none, (.ref 726), (.int (1228) 0), (.int (369) 0), (.str (Str.ofString "/claim/cut.py") 1229)].toArray, slots := [].toArray }),
  (nat_lit 728, { cls := (.type "function"), dict := none, data := .func { name := (Str.ofString "find"), qualname := (Str.ofString "Wildcard.find"), params := defArgs (methAt 15 1), body := .stmts (defBody (methAt 15 1)), scope := defScope (methAt 15 1), globals := 3, closure := [], defaults := .none, kwdefaults := .none, doc := .none, pyModule := (.str (Str.ofString "jsonpath_ng.jsonpath") 289), annotations := none, code := (.ref 727), closureTuple := .none, builtins := 0 }, slots := [].toArray }),
  (nat_lit 779, { cls := (.type "dict"), dict := none, data := .dict [⟨PyData.keyHash P (Str.ofString "__module__"), .str (Str.ofString "__module__") 1201, (.str (Str.ofString "jsonpath_ng.jsonpath") 289)⟩, ⟨PyData.keyHash P (Str.ofString "__firstlineno__"), .str (Str.ofString "__firstlineno__") 1205, (.int (360) 1204)⟩, ⟨PyData.keyHash P (Str.ofString "_keys"), .str (Str.ofString "_keys") 1224, (.ref 722)⟩, ⟨PyData.keyHash P (Str.ofString "find"), .str (Str.ofString "find") 1230, (.ref 728)⟩, ⟨PyData.keyHash P (Str.ofString "update"), .str (Str.ofString "update") 1239, (.ref 735)⟩, ⟨PyData.keyHash P (Str.ofString "update_or_create"), .str (Str.ofString "update_or_create") 1248, (.ref 742)⟩, ⟨PyData.keyHash P (Str.ofString "filter"), .str (Str.ofString "filter") 1257, (.ref 749)⟩, ⟨PyData.keyHash P (Str.ofString "__str__"), .str (Str.ofString "__str__") 1264, (.ref 756)⟩, ⟨PyData.keyHash P (Str.ofString "__repr__"), .str (Str.ofString "__repr__") 1271, (.ref 763)⟩, ⟨PyData.keyHash P (Str.ofString "__eq__"), .str (Str.ofString "__eq__") 1279, (.ref 770)⟩, ⟨PyData.keyHash P (Str.ofString "__hash__"), .str (Str.ofString "__hash__") 1286, (.ref 777)⟩, ⟨PyData.keyHash P (Str.ofString "__static_attributes__"), .str (Str.ofString "__static_attributes__") 1287, (.ref 778)⟩, ⟨PyData.keyHash P (Str.ofString "__doc__"), .str (Str.ofString "__doc__") 1288, .none⟩].toArray 2, slots := [].toArray }),
  (nat_lit 780, { cls := (.type "type"), dict := none, data := .cls { name := (Str.ofString "Wildcard"), bases := [(.ref 143)], mro := [(.ref 780), (.ref 143), (.type "object")], ns := 779, qualname := (Str.ofString "Wildcard"), hasDict := true, slotNames := [], subclasses := [], abstract := false, collection := none, hasDel := false }, slots := [(some (.ref 707)), none, (some (.str (Str.ofString "Wildcard") 1194)), (some (.str (Str.ofString "Wildcard") 1202)), (some (.builtin "object.__new__")), (some (.bool true))].toArray }),
  (nat_lit 795, { cls := (.type "code"), dict := none, data := .fields [(.str (Str.ofString "__init__") 1303), (.str (Str.ofString "Index.__init__") 1304), (.str (Str.ofString "/claim/cut.py") 1305), (.int (403) 0), (.int (1) 0), (.int (0) 0), (.int (0) 0), (.int (7) 0), (.ref 790), (.bool true), (.int (276) 0), (.ref 791), .none, (.ref 792), (.ref 793), (.ref 794), (.int (1308) 0), (.int (403) 0), (.str (Str.ofString "/claim/cut.py") 1309)].toArray, slots := [].toArray }),
  (nat_lit 796, { cls := (.type "function"), dict := none, data := .func { name := (Str.ofString "__init__"), qualname := (Str.ofString "Index.__init__"), params := defArgs (methAt 16 0), body := .stmts (defBody (methAt 16 0)), scope := defScope (methAt 16 0), globals := 3, closure := [], defaults := .none, kwdefaults := .none, doc := .none, pyModule := (.str (Str.ofString "jsonpath_ng.jsonpath") 289), annotations := none, code := (.ref 795), closureTuple := .none, builtins := 0 }, slots := [].toArray }),
  (nat_lit 802, { cls := (.type "code"), dict := none, data := .fields [(.str (Str.ofString "find") 1311), (.str (Str.ofString "Index.find") 1312), (.str (Str.ofString "/claim/cut.py") 1313), (.int (406) 0), (.int (2) 0), (.int (0) 0), (.int (0) 0), (.int (3) 0), (.ref 797), (.bool true), (.int (276) 0), (.ref 798), .none, (.ref 799), (.ref 800), (.ref 801), (.int (1316) 0), (.int (406) 0), (.str (Str.ofString "/claim/cut.py") 1317)].toArray, slots := [].toArray }),
  (nat_lit 803, { cls := (.type "function"), dict := none, data := .func { name := (Str.ofString "find"), qualname := (Str.ofString "Index.find"), params := defArgs (methAt 16 1), body := .stmts (defBody (methAt 16 1)), scope := defScope (methAt 16 1), globals := 3, closure := [], defaults := .none, kwdefaults := .none, doc := .none, pyModule := (.str (Str.ofString "jsonpath_ng.jsonpath") 289), annotations := none, code := (.ref 802), closureTuple := .none, builtins := 0 }, slots := [].toArray }),
  (nat_lit 816, { cls := (.type "code"), dict := none, data := .fields [(.str (Str.ofString "_find_base") 1327), (.str (Str.ofString "Index._find_base") 1328), (.str (Str.ofString "/claim/cut.py") 1329), (.int (412) 0), (.int (3) 0), (.int (0) 0), (.int (0) 0), (.int (3) 0), (.ref 811), (.bool true), (.int (276) 0), (.ref 812), .none, (.ref 813), (.ref 814), (.ref 815), (.int (1335) 0), (.int (412) 0), (.str (Str.ofString "/claim/cut.py") 1336)].toArray, slots := [].toArray }),
  (nat_lit 817, { cls := (.type "function"), dict := none, data := .func { name := (Str.ofString "_find_base"), qualname := (Str.ofString "Index._find_base"), params := defArgs (methAt 16 3), body := .stmts (defBody (methAt 16 3)), scope := defScope (methAt 16 3), globals := 3, closure := [], defaults := .none, kwdefaults := .none, doc := .none, pyModule := (.str (Str.ofString "jsonpath_ng.jsonpath") 289), annotations := none, code := (.ref 816), closureTuple := .none, builtins := 0 }, slots := [].toArray }),
  (nat_lit 880, { cls := (.type "dict"), dict := none, data := .dict [⟨PyData.keyHash P (Str.ofString "__module__"), .str (Str.ofString "__module__") 1298, (.str (Str.ofString "jsonpath_ng.jsonpath") 289)⟩, ⟨PyData.keyHash P (Str.ofString "__firstlineno__"), .str (Str.ofString "__firstlineno__") 1302, (.int (401) 1301)⟩, ⟨PyData.keyHash P (Str.ofString "__init__"), .str (Str.ofString "__init__") 1310, (.ref 796)⟩, ⟨PyData.keyHash P (Str.ofString "find"), .str (Str.ofString "find") 1318, (.ref 803)⟩, ⟨PyData.keyHash P (Str.ofString "find_or_create"), .str (Str.ofString "find_or_create") 1326, (.ref 810)⟩, ⟨PyData.keyHash P (Str.ofString "_find_base"), .str (Str.ofString "_find_base") 1337, (.ref 817)⟩, ⟨PyData.keyHash P (Str.ofString "update"), .str (Str.ofString "update") 1346, (.ref 824)⟩, ⟨PyData.keyHash P (Str.ofString "update_or_create"), .str (Str.ofString "update_or_create") 1355, (.ref 831)⟩, ⟨PyData.keyHash P (Str.ofString "_update_base"), .str (Str.ofString "_update_base") 1368, (.ref 838)⟩, ⟨PyData.keyHash P (Str.ofString "filter"), .str (Str.ofString "filter") 1377, (.ref 845)⟩, ⟨PyData.keyHash P (Str.ofString "__eq__"), .str (Str.ofString "__eq__") 1385, (.ref 852)⟩, ⟨PyData.keyHash P (Str.ofString "__str__"), .str (Str.ofString "__str__") 1392, (.ref 859)⟩, ⟨PyData.keyHash P (Str.ofString "__repr__"), .str (Str.ofString "__repr__") 1399, (.ref 866)⟩, ⟨PyData.keyHash P (Str.ofString "_pad_value"), .str (Str.ofString "_pad_value") 1405, (.ref 871)⟩, ⟨PyData.keyHash P (Str.ofString "__hash__"), .str (Str.ofString "__hash__") 1412, (.ref 878)⟩, ⟨PyData.keyHash P (Str.ofString "__static_attributes__"), .str (Str.ofString "__static_attributes__") 1414, (.ref 879)⟩, ⟨PyData.keyHash P (Str.ofString "__doc__"), .str (Str.ofString "__doc__") 1415, .none⟩].toArray 2, slots := [].toArray }),
  (nat_lit 881, { cls := (.type "type"), dict := none, data := .cls { name := (Str.ofString "Index"), bases := [(.ref 143)], mro := [(.ref 881), (.ref 143), (.type "object")], ns := 880, qualname := (Str.ofString "Index"), hasDict := true, slotNames := [], subclasses := [], abstract := false, collection := none, hasDel := false }, slots := [(some (.ref 783)), none, (some (.str (Str.ofString "Index") 1291)), (some (.str (Str.ofString "Index") 1299)), (some (.builtin "object.__new__")), (some (.bool true))].toArray }),
  (nat_lit 891, { cls := (.type "tuple"), dict := none, data := .seq [.none, .none, .none].toArray 0, slots := [].toArray }),
  (nat_lit 897, { cls := (.type "code"), dict := none, data := .fields [(.str (Str.ofString "__init__") 1430), (.str (Str.ofString "Slice.__init__") 1431), (.str (Str.ofString "/claim/cut.py") 1432), (.int (480) 0), (.int (4) 0), (.int (0) 0), (.int (0) 0), (.int (3) 0), (.ref 892), (.bool true), (.int (276) 0), (.ref 893), .none, (.ref 894), (.ref 895), (.ref 896), (.int (1437) 0), (.int (480) 0), (.str (Str.ofString "/claim/cut.py") 1438)].toArray, slots := [].toArray }),
  (nat_lit 898, { cls := (.type "function"), dict := none, data := .func { name := (Str.ofString "__init__"), qualname := (Str.ofString "Slice.__init__"), params := defArgs (methAt 17 0), body := .stmts (defBody (methAt 17 0)), scope := defScope (methAt 17 0), globals := 3, closure := [], defaults := (.ref 891), kwdefaults := .none, doc := .none, pyModule := (.str (Str.ofString "jsonpath_ng.jsonpath") 289), annotations := none, code := (.ref 897), closureTuple := .none, builtins := 0 }, slots := [].toArray }),
  (nat_lit 908, { cls := (.type "classmethod"), dict := (some 907), data := .fields [(.ref 906), (.bool false)].toArray, slots := [].toArray }),
  (nat_lit 913, { cls := (.type "code"), dict := none, data := .fields [(.str (Str.ofString "find") 1463), (.str (Str.ofString "Slice.find") 1464), (.str (Str.ofString "/claim/cut.py") 1465), (.int (492) 0), (.int (2) 0), (.int (0) 0), (.int (0) 0), (.int (3) 0), (.ref 910), (.bool true), (.int (276) 0), (.ref 911), .none, .none, .none, (.ref 912), (.int (1466) 0), (.int (492) 0), (.str (Str.ofString "/claim/cut.py") 1467)].toArray, slots := [].toArray }),
  (nat_lit 914, { cls := (.type "function"), dict := none, data := .func { name := (Str.ofString "find"), qualname := (Str.ofString "Slice.find"), params := defArgs (methAt 17 2), body := .stmts (defBody (methAt 17 2)), scope := defScope (methAt 17 2), globals := 3, closure := [], defaults := .none, kwdefaults := .none, doc := .none, pyModule := (.str (Str.ofString "jsonpath_ng.jsonpath") 289), annotations := none, code := (.ref 913), closureTuple := .none, builtins := 0 }, slots := [].toArray }),
  (nat_lit 951, { cls := (.type "dict"), dict := none, data := .dict [⟨PyData.keyHash P (Str.ofString "__module__"), .str (Str.ofString "__module__") 1425, (.str (Str.ofString "jsonpath_ng.jsonpath") 289)⟩, ⟨PyData.keyHash P (Str.ofString "__firstlineno__"), .str (Str.ofString "__firstlineno__") 1429, (.int (478) 1428)⟩, ⟨PyData.keyHash P (Str.ofString "__init__"), .str (Str.ofString "__init__") 1439, (.ref 898)⟩, ⟨PyData.keyHash P (Str.ofString "_compliant_constructor"), .str (Str.ofString "_compliant_constructor") 1462, (.ref 908)⟩, ⟨PyData.keyHash P (Str.ofString "find"), .str (Str.ofString "find") 1468, (.ref 914)⟩, ⟨PyData.keyHash P (Str.ofString "update"), .str (Str.ofString "update") 1478, (.ref 921)⟩, ⟨PyData.keyHash P (Str.ofString "filter"), .str (Str.ofString "filter") 1487, (.ref 928)⟩, ⟨PyData.keyHash P (Str.ofString "__str__"), .str (Str.ofString "__str__") 1497, (.ref 935)⟩, ⟨PyData.keyHash P (Str.ofString "__eq__"), .str (Str.ofString "__eq__") 1505, (.ref 942)⟩, ⟨PyData.keyHash P (Str.ofString "__hash__"), .str (Str.ofString "__hash__") 1512, (.ref 949)⟩, ⟨PyData.keyHash P (Str.ofString "__static_attributes__"), .str (Str.ofString "__static_attributes__") 1517, (.ref 950)⟩, ⟨PyData.keyHash P (Str.ofString "__doc__"), .str (Str.ofString "__doc__") 1518, .none⟩].toArray 2, slots := [].toArray }),
  (nat_lit 952, { cls := (.type "type"), dict := none, data := .cls { name := (Str.ofString "Slice"), bases := [(.ref 143)], mro := [(.ref 952), (.ref 143), (.type "object")], ns := 951, qualname := (Str.ofString "Slice"), hasDict := true, slotNames := [], subclasses := [], abstract := false, collection := none, hasDel := false }, slots := [(some (.ref 884)), none, (some (.str (Str.ofString "Slice") 1418)), (some (.str (Str.ofString "Slice") 1426)), (some (.builtin "object.__new__")), (some (.bool true))].toArray }),
  (nat_lit 958, { cls := (.type "code"), dict := none, data := .fields [(.str (Str.ofString "_find_array_elements") 1521), (.str (Str.ofString "_find_array_elements") 1522), (.str (Str.ofString "/claim/cut.py") 1523), (.int (528) 0), (.int (1) 0), (.int (0) 0), (.int (0) 0), (.int (3) 0), (.ref 955), (.bool true), (.int (276) 0), (.ref 956), .none, .none, .none, (.ref 957), (.int (1524) 0), (.int (528) 0), (.str (Str.ofString "/claim/cut.py") 1525)].toArray, slots := [].toArray }),
  (nat_lit 959, { cls := (.type "function"), dict := none, data := .func { name := (Str.ofString "_find_array_elements"), qualname := (Str.ofString "_find_array_elements"), params := defArgs (topAt 18), body := .stmts (defBody (topAt 18)), scope := defScope (topAt 18), globals := 3, closure := [], defaults := .none, kwdefaults := .none, doc := .none, pyModule := (.str (Str.ofString "jsonpath_ng.jsonpath") 289), annotations := none, code := (.ref 958), closureTuple := .none, builtins := 0 }, slots := [].toArray }),
  (nat_lit 986, { cls := (.type "code"), dict := none, data := .fields [(.str (Str.ofString "_law_next") 1555), (.str (Str.ofString "_law_next") 1556), (.str (Str.ofString "/claim/cut.py") 1557), (.int (548) 0), (.int (2) 0), (.int (0) 0), (.int (0) 0), (.int (3) 0), (.ref 981), (.bool true), (.int (276) 0), (.ref 982), .none, (.ref 983), (.ref 984), (.ref 985), (.int (1560) 0), (.int (548) 0), (.str (Str.ofString "/claim/cut.py") 1561)].toArray, slots := [].toArray }),
  (nat_lit 987, { cls := (.type "function"), dict := none, data := .func { name := (Str.ofString "_law_next"), qualname := (Str.ofString "_law_next"), params := defArgs (topAt 23), body := .stmts (defBody (topAt 23)), scope := defScope (topAt 23), globals := 3, closure := [], defaults := .none, kwdefaults := .none, doc := .none, pyModule := (.str (Str.ofString "law_eq0019_01") 1553), annotations := none, code := (.ref 986), closureTuple := .none, builtins := 0 }, slots := [].toArray }),
  (nat_lit 991, { cls := (.type "code"), dict := none, data := .fields [(.str (Str.ofString "_law_document") 1563), (.str (Str.ofString "_law_document") 1564), (.str (Str.ofString "/claim/cut.py") 1565), (.int (553) 0), (.int (2) 0), (.int (0) 0), (.int (0) 0), (.int (3) 0), (.ref 988), (.bool true), (.int (276) 0), (.ref 989), .none, .none, .none, (.ref 990), (.int (1566) 0), (.int (553) 0), (.str (Str.ofString "/claim/cut.py") 1567)].toArray, slots := [].toArray }),
  (nat_lit 992, { cls := (.type "function"), dict := none, data := .func { name := (Str.ofString "_law_document"), qualname := (Str.ofString "_law_document"), params := defArgs (topAt 24), body := .stmts (defBody (topAt 24)), scope := defScope (topAt 24), globals := 3, closure := [], defaults := .none, kwdefaults := .none, doc := .none, pyModule := (.str (Str.ofString "law_eq0019_01") 1553), annotations := none, code := (.ref 991), closureTuple := .none, builtins := 0 }, slots := [].toArray }),
  (nat_lit 998, { cls := (.type "code"), dict := none, data := .fields [(.str (Str.ofString "_law_step") 1569), (.str (Str.ofString "_law_step") 1570), (.str (Str.ofString "/claim/cut.py") 1571), (.int (563) 0), (.int (1) 0), (.int (0) 0), (.int (0) 0), (.int (3) 0), (.ref 993), (.bool true), (.int (276) 0), (.ref 994), .none, (.ref 995), (.ref 996), (.ref 997), (.int (1574) 0), (.int (563) 0), (.str (Str.ofString "/claim/cut.py") 1575)].toArray, slots := [].toArray }),
  (nat_lit 999, { cls := (.type "function"), dict := none, data := .func { name := (Str.ofString "_law_step"), qualname := (Str.ofString "_law_step"), params := defArgs (topAt 25), body := .stmts (defBody (topAt 25)), scope := defScope (topAt 25), globals := 3, closure := [], defaults := .none, kwdefaults := .none, doc := .none, pyModule := (.str (Str.ofString "law_eq0019_01") 1553), annotations := none, code := (.ref 998), closureTuple := .none, builtins := 0 }, slots := [].toArray }),
  (nat_lit 1005, { cls := (.type "code"), dict := none, data := .fields [(.str (Str.ofString "_law_address") 1577), (.str (Str.ofString "_law_address") 1578), (.str (Str.ofString "/claim/cut.py") 1579), (.int (572) 0), (.int (1) 0), (.int (0) 0), (.int (0) 0), (.int (3) 0), (.ref 1000), (.bool true), (.int (276) 0), (.ref 1001), .none, (.ref 1002), (.ref 1003), (.ref 1004), (.int (1583) 0), (.int (572) 0), (.str (Str.ofString "/claim/cut.py") 1584)].toArray, slots := [].toArray }),
  (nat_lit 1006, { cls := (.type "function"), dict := none, data := .func { name := (Str.ofString "_law_address"), qualname := (Str.ofString "_law_address"), params := defArgs (topAt 26), body := .stmts (defBody (topAt 26)), scope := defScope (topAt 26), globals := 3, closure := [], defaults := .none, kwdefaults := .none, doc := .none, pyModule := (.str (Str.ofString "law_eq0019_01") 1553), annotations := none, code := (.ref 1005), closureTuple := .none, builtins := 0 }, slots := [].toArray }),
  (nat_lit 1010, { cls := (.type "code"), dict := none, data := .fields [(.str (Str.ofString "_law_told") 1586), (.str (Str.ofString "_law_told") 1587), (.str (Str.ofString "/claim/cut.py") 1588), (.int (579) 0), (.int (2) 0), (.int (0) 0), (.int (0) 0), (.int (3) 0), (.ref 1007), (.bool true), (.int (276) 0), (.ref 1008), .none, .none, .none, (.ref 1009), (.int (1589) 0), (.int (579) 0), (.str (Str.ofString "/claim/cut.py") 1590)].toArray, slots := [].toArray }),
  (nat_lit 1011, { cls := (.type "function"), dict := none, data := .func { name := (Str.ofString "_law_told"), qualname := (Str.ofString "_law_told"), params := defArgs (topAt 27), body := .stmts (defBody (topAt 27)), scope := defScope (topAt 27), globals := 3, closure := [], defaults := .none, kwdefaults := .none, doc := .none, pyModule := (.str (Str.ofString "law_eq0019_01") 1553), annotations := none, code := (.ref 1010), closureTuple := .none, builtins := 0 }, slots := [].toArray }),
  (nat_lit 1015, { cls := (.type "code"), dict := none, data := .fields [(.str (Str.ofString "_law_often") 1592), (.str (Str.ofString "_law_often") 1593), (.str (Str.ofString "/claim/cut.py") 1594), (.int (581) 0), (.int (1) 0), (.int (0) 0), (.int (0) 0), (.int (3) 0), (.ref 1012), (.bool true), (.int (276) 0), (.ref 1013), .none, .none, .none, (.ref 1014), (.int (1595) 0), (.int (581) 0), (.str (Str.ofString "/claim/cut.py") 1596)].toArray, slots := [].toArray }),
  (nat_lit 1016, { cls := (.type "function"), dict := none, data := .func { name := (Str.ofString "_law_often"), qualname := (Str.ofString "_law_often"), params := defArgs (topAt 28), body := .stmts (defBody (topAt 28)), scope := defScope (topAt 28), globals := 3, closure := [], defaults := .none, kwdefaults := .none, doc := .none, pyModule := (.str (Str.ofString "law_eq0019_01") 1553), annotations := none, code := (.ref 1015), closureTuple := .none, builtins := 0 }, slots := [].toArray }),
  (nat_lit 1022, { cls := (.type "code"), dict := none, data := .fields [(.str (Str.ofString "_law_all") 1598), (.str (Str.ofString "_law_all") 1599), (.str (Str.ofString "/claim/cut.py") 1600), (.int (583) 0), (.int (2) 0), (.int (0) 0), (.int (0) 0), (.int (3) 0), (.ref 1017), (.bool true), (.int (276) 0), (.ref 1018), .none, (.ref 1019), (.ref 1020), (.ref 1021), (.int (1605) 0), (.int (583) 0), (.str (Str.ofString "/claim/cut.py") 1606)].toArray, slots := [].toArray }),
  (nat_lit 1023, { cls := (.type "function"), dict := none, data := .func { name := (Str.ofString "_law_all"), qualname := (Str.ofString "_law_all"), params := defArgs (topAt 29), body := .stmts (defBody (topAt 29)), scope := defScope (topAt 29), globals := 3, closure := [], defaults := .none, kwdefaults := .none, doc := .none, pyModule := (.str (Str.ofString "law_eq0019_01") 1553), annotations := none, code := (.ref 1022), closureTuple := .none, builtins := 0 }, slots := [].toArray }),
  (nat_lit 1029, { cls := (.type "code"), dict := none, data := .fields [(.str (Str.ofString "_law_path") 1608), (.str (Str.ofString "_law_path") 1609), (.str (Str.ofString "/claim/cut.py") 1610), (.int (589) 0), (.int (1) 0), (.int (0) 0), (.int (0) 0), (.int (3) 0), (.ref 1024), (.bool true), (.int (276) 0), (.ref 1025), .none, (.ref 1026), (.ref 1027), (.ref 1028), (.int (1614) 0), (.int (589) 0), (.str (Str.ofString "/claim/cut.py") 1615)].toArray, slots := [].toArray }),
  (nat_lit 1030, { cls := (.type "function"), dict := none, data := .func { name := (Str.ofString "_law_path"), qualname := (Str.ofString "_law_path"), params := defArgs (topAt 30), body := .stmts (defBody (topAt 30)), scope := defScope (topAt 30), globals := 3, closure := [], defaults := .none, kwdefaults := .none, doc := .none, pyModule := (.str (Str.ofString "law_eq0019_01") 1553), annotations := none, code := (.ref 1029), closureTuple := .none, builtins := 0 }, slots := [].toArray })]
def as : List Addr := [2, 3, 4, 61, 142, 143, 160, 161, 163, 165, 171, 172, 178, 179, 180, 202, 211, 212, 229, 230, 274, 275, 290, 291, 335, 336, 351, 352, 356, 357, 429, 430, 445, 446, 450, 451, 514, 515, 530, 531, 544, 545, 575, 576, 591, 592, 598, 599, 601, 608, 609, 615, 616, 618, 625, 626, 632, 633, 644, 645, 703, 704, 722, 727, 728, 779, 780, 795, 796, 802, 803, 816, 817, 880, 881, 891, 897, 898, 908, 913, 914, 951, 952, 958, 959, 986, 987, 991, 992, 998, 999, 1005, 1006, 1010, 1011, 1015, 1016, 1022, 1023, 1029, 1030]
theorem as_ok (P : Params) : as = (K P).map (·.1) := by kernel_rfl
end DescLaw
end
section
open PySem PySem.W PyProof.Rows PySem.Calls
set_option Elab.async false
set_option maxRecDepth 100000
namespace DescLaw

/-- what is known to stand, and stays as it is -/
abbrev Sto := Addr → Obj → Prop
def Sto.add (S : Sto) (a : Addr) (o : Obj) : Sto := fun b x => S b x ∨ (b = a ∧ x = o)
theorem Sto.add_sub (S : Sto) (a : Addr) (o : Obj) : ∀ b x, S b x → S.add a o b x := fun _ _ h => .inl h
theorem Sto.add_here (S : Sto) (a : Addr) (o : Obj) : S.add a o a o := .inr ⟨rfl, rfl⟩

/-- the table of Descendants.find's own generator expressions -/
abbrev tabP : Addr := 448
def Tab (o : Obj) : Prop := ∃ ps : Array Value, o = { cls := .none, data := .fields ps } ∧ TriplesOk ps.toList
/-- what a frame's object (or the table) may become -/
def Slot (b : Addr) (o o' : Obj) : Prop := if b = tabP then Tab o → Tab o' else ∃ sl, o' = { o with slots := sl }
def Frm (b : Addr) (o : Obj) : Prop := if b = tabP then Tab o else ∃ es ep, o.data = .dict es ep
theorem Slot.refl (b : Addr) (o : Obj) : Slot b o o := by
  unfold Slot; split
  · exact id
  · exact ⟨o.slots, rfl⟩
theorem Slot.trans {b : Addr} {o o' o'' : Obj} (x : Slot b o o') (y : Slot b o' o'') : Slot b o o'' := by
  unfold Slot at *; split
  · rename_i h; rw [if_pos h] at x y; exact fun t => y (x t)
  · rename_i h; rw [if_neg h] at x y
    obtain ⟨sl, rfl⟩ := x; obtain ⟨sl2, rfl⟩ := y
    exact ⟨sl2, rfl⟩
theorem Slot.slots {b : Addr} (o : Obj) (sl : _) (h : b ≠ tabP) : Slot b o { o with slots := sl } := by
  unfold Slot; rw [if_neg h]
  exact ⟨sl, rfl⟩
theorem Slot.ne {b : Addr} {o o' : Obj} (x : Slot b o o') (h : b ≠ tabP) : ∃ sl, o' = { o with slots := sl } := by
  unfold Slot at x; rwa [if_neg h] at x
theorem Frm.slot {b : Addr} {o o' : Obj} (x : Frm b o) (y : Slot b o o') : Frm b o' := by
  unfold Slot at y; unfold Frm at *; split
  · rename_i h; rw [if_pos h] at x y; exact y x
  · rename_i h; rw [if_neg h] at x y
    obtain ⟨sl, rfl⟩ := y
    exact x
theorem Frm.dict {b : Addr} {o : Obj} {es ep} (h : b ≠ tabP) (d : o.data = .dict es ep) : Frm b o := by
  unfold Frm; rw [if_neg h]; exact ⟨es, ep, d⟩
theorem Frm.ne {b : Addr} {o : Obj} (x : Frm b o) (h : b ≠ tabP) : ∃ es ep, o.data = .dict es ep := by
  unfold Frm at x; rwa [if_neg h] at x
theorem Frm.tab {o : Obj} (x : Frm tabP o) : Tab o := x
theorem Frm.table {b : Addr} {o : Obj} (h : b = tabP) (t : Tab o) : Frm b o := by
  unfold Frm; rw [if_pos h]; exact t

/-- from s to s': all stands but the slots of the frames fr and what mu names; new things may be there -/
structure Grow (fr mu : List Addr) (s s' : Shared) : Prop where
  os : s'.os = s.os
  keep : ∀ b o, b ∉ fr → b ∉ mu → s.heap.get? b = some o → s'.heap.get? b = some o
  frm : ∀ b ∈ fr, ∀ o, s.heap.get? b = some o → ∃ o', s'.heap.get? b = some o' ∧ Slot b o o'
  gens : (AllBare s.gens → AllBare s'.gens) ∧ s.gens.size ≤ s'.gens.size

theorem Grow.refl (fr mu : List Addr) (s : Shared) : Grow fr mu s s := ⟨rfl, fun _ _ _ _ e => e, fun b _ o e => ⟨o, e, .refl b o⟩, id, Nat.le_refl _⟩
theorem Grow.trans {fr mu : List Addr} {s s' s'' : Shared} (x : Grow fr mu s s') (y : Grow fr mu s' s'') : Grow fr mu s s'' :=
  ⟨y.os.trans x.os, fun b o h h2 e => y.keep b o h h2 (x.keep b o h h2 e), fun b h o e => by
    obtain ⟨o1, e1, k1⟩ := x.frm b h o e
    obtain ⟨o2, e2, k2⟩ := y.frm b h _ e1
    exact ⟨o2, e2, k1.trans k2⟩, fun h => y.gens.1 (x.gens.1 h), Nat.le_trans x.gens.2 y.gens.2⟩
theorem Grow.of_keeps (fr mu : List Addr) {s : Shared} {h' : Heap} {tk : Nat} (k : ∀ b o, s.heap.get? b = some o → h'.get? b = some o) : Grow fr mu s { s with heap := h', toks := tk } :=
  ⟨rfl, fun b o _ _ e => k b o e, fun b _ o e => ⟨o, k b o e, .refl b o⟩, id, Nat.le_refl _⟩
theorem Grow.toks' (fr mu : List Addr) {s : Shared} {tk : Nat} : Grow fr mu s { s with toks := tk } := Grow.of_keeps fr mu (fun _ _ e => e)
theorem Grow.push (fr mu : List Addr) (s : Shared) (o : Obj) : Grow fr mu s { s with heap := s.heap.push o } := Grow.of_keeps fr mu (fun _ _ e => Heap.get?_push_of_some _ e)
theorem Grow.mono {fr mu fr' mu' : List Addr} {s s' : Shared} (x : Grow fr mu s s') (h : ∀ b ∈ fr, b ∈ fr') (h' : ∀ b ∈ mu, b ∈ mu') (hd : ∀ b ∈ fr', b ∉ mu) : Grow fr' mu' s s' :=
  ⟨x.os, fun b o hb hm e => x.keep b o (fun q => hb (h b q)) (fun q => hm (h' b q)) e, fun b hb o e => by
    by_cases q : b ∈ fr
    · exact x.frm b q o e
    · exact ⟨o, x.keep b o q (hd b hb) e, .refl b o⟩, x.gens⟩

def Has (S : Sto) (fr : List Addr) (s : Shared) : Prop := ∀ a o, S a o → s.heap.get? a = some o ∧ a ∉ fr
theorem Has.grow {S : Sto} {fr mu : List Addr} {s s' : Shared} (x : Has S fr s) (g : Grow fr mu s s') (h : ∀ a ∈ mu, ∀ o, ¬ S a o) : Has S fr s' := fun a o e => ⟨g.keep a o (x a o e).2 (fun q => h a q o e) (x a o e).1, (x a o e).2⟩
theorem Has.grow0 {S : Sto} {fr : List Addr} {s s' : Shared} (x : Has S fr s) (g : Grow fr [] s s') : Has S fr s' := x.grow g fun _ h => nomatch h
theorem Has.get {S : Sto} {fr : List Addr} {s : Shared} (x : Has S fr s) {a : Addr} {o : Obj} (h : S a o) : s.heap.get? a = some o := (x a o h).1

/-- the state under the frames fr, over the heap B that the top has left -/
structure St (B : Heap) (fr : List Addr) (s : Shared) : Prop where
  base : ∀ b o, B.get? b = some o → s.heap.get? b = some o
  frs : ∀ b ∈ fr, B.get? b = none ∧ ∃ o, s.heap.get? b = some o ∧ Frm b o
  bare : AllBare s.gens
  size : (∃ b ∈ fr, B.objs.size ≤ b) ∧ tabP ∈ fr ∧ tabP < B.objs.size
theorem St.grow {B : Heap} {fr mu : List Addr} {s s' : Shared} (x : St B fr s) (g : Grow fr mu s s') (hm : ∀ a ∈ mu, B.get? a = none) : St B fr s' :=
  ⟨fun b o e => g.keep b o (fun h => by rw [(x.frs b h).1] at e; cases e) (fun h => by rw [hm b h] at e; cases e) (x.base b o e), fun b h => by
    obtain ⟨n, o, e, d⟩ := x.frs b h
    obtain ⟨o', e', k⟩ := g.frm b h o e
    exact ⟨n, o', e', d.slot k⟩, g.gens.1 x.bare, x.size⟩
theorem St.grow0 {B : Heap} {fr : List Addr} {s s' : Shared} (x : St B fr s) (g : Grow fr [] s s') : St B fr s' := x.grow g fun _ h => nomatch h

structure Hp (w : World) (B : Heap) : Prop where
  k : (K w.params).In B
  g : ∃ mg, B.Ns mainGlobals mg
  b : ∃ mb, B.Ns builtinsNs mb ∧ ∀ x : Str, x ≠ "__name__" → mb x = bootBuiltins x
  nolimit : B.NoLimit
  nodigits : ∃ mc, B.Ns cStatics mc ∧ mc "sys.int_max_str_digits" = none
theorem Hp.keeps {w : World} {B h : Heap} (x : Hp w B) (k : ∀ b o, B.get? b = some o → h.get? b = some o) : Hp w h :=
  ⟨x.k.keeps k, let ⟨m, e⟩ := x.g; ⟨m, e.keeps k⟩, let ⟨m, e, r⟩ := x.b; ⟨m, e.keeps k, r⟩, x.nolimit.keeps k, let ⟨m, e, r⟩ := x.nodigits; ⟨m, e.keeps k, r⟩⟩
theorem Hp.at {w : World} {B : Heap} {fr : List Addr} {s : Shared} (x : Hp w B) (st : St B fr s) : Hp w s.heap := x.keeps st.base

/-- the place of a call: the frames above it, and n levels of room -/
structure Cx (A : Around) (fr : List Addr) (n : Nat) : Prop where
  handled : A.handled = none
  guards : A.guards = some []
  frames : ∃ l, A.frames = some l ∧ l.filterMap (·.frame) ++ [tabP] = fr ∧ ∀ e ∈ l, e.scope.kind = .function ∧ ∃ b, e.frame = some b ∧ b ≠ tabP
  depth : A.depth + n < recursionLimit
  units : A.units + 8 * n < cLine
theorem Cx.le {A : Around} {fr : List Addr} {n k : Nat} (x : Cx A fr n) (h : k ≤ n) : Cx A fr k := ⟨x.handled, x.guards, x.frames, by have := x.depth; omega, by have := x.units; omega⟩
theorem Cx.deeper {A : Around} {fr : List Addr} {n : Nat} (x : Cx A fr (n + 1)) {env : Env} {L : Addr} (hf : env.frame = some L) (hk : env.scope.kind = .function) (hL : L ≠ tabP) : Cx (A.deeper env) (L :: fr) n := by
  obtain ⟨l, h1, h2, h3⟩ := x.frames
  refine ⟨x.handled, x.guards, ⟨env :: l, by show A.frames.map (env :: ·) = _; rw [h1]; rfl, by rw [List.filterMap_cons, hf, List.cons_append, h2], fun e he => ?_⟩, ?_, ?_⟩
  · rcases List.mem_cons.mp he with rfl | he
    · exact ⟨hk, L, hf, hL⟩
    · exact h3 e he
  · have := x.depth; show A.depth + 1 + n < _; omega
  · have := x.units; show A.units + 3 + 8 * n < _; omega
theorem Cx.in1 {A : Around} {fr : List Addr} {n : Nat} (x : Cx A fr (n + 1)) : Cx A.in1 fr n :=
  ⟨x.handled, x.guards, x.frames, by have := x.depth; show A.depth + n < _; omega, by have := x.units; show A.units + 1 + 8 * n < _; omega⟩
theorem Cx.room {A : Around} {fr : List Addr} {n : Nat} (x : Cx A fr n) : A.depth < recursionLimit := by have := x.depth; omega
theorem Cx.cRoom {A : Around} {fr : List Addr} {n : Nat} (x : Cx A fr n) : A.units < cLine := by have := x.units; omega

/-- within a def's body: its locals m at L, what stands (S), its own things (own: new since s₀, or named in mu) -/
structure Fx (B : Heap) (T : Sto) (s₀ : Shared) (fr mu : List Addr) (L : Addr) (m : Str → Option Value) (S : Sto) (own : List (Addr × Obj)) (s : Shared) : Prop where
  ns : s.heap.Ns L m
  newL : s₀.heap.get? L = none
  grow : Grow fr mu s₀ s
  has : Has S (L :: fr) s
  mine : ∀ p ∈ own, s.heap.get? p.1 = some p.2 ∧ p.1 ∉ L :: fr ∧ (s₀.heap.get? p.1 = none ∨ (p.1 ∈ mu ∧ B.get? p.1 = none)) ∧ ∀ o, ¬ S p.1 o
  apart : own.Pairwise fun p q => p.1 ≠ q.1
  st : St B (L :: fr) s
  old : ∀ b o, B.get? b = some o → s₀.heap.get? b = some o
  above : B.objs.size ≤ L
  sub : ∀ b o, T b o → S b o
  nw : ∀ b o, S b o → T b o ∨ s₀.heap.get? b = none ∨ b ∈ mu

theorem ne_tab {B : Heap} {L : Nat} (h : B.objs.size ≤ L) (h' : tabP < B.objs.size) : L ≠ tabP := fun q => absurd (q ▸ h : B.objs.size ≤ tabP) (Nat.not_le.mpr h')
namespace Fx
variable {B : Heap} {s₀ s s' : Shared} {fr mu : List Addr} {L : Addr} {m : Str → Option Value} {T S S' : Sto} {own : List (Addr × Obj)}

theorem ne (x : Fx B T s₀ fr mu L m S own s) : L ≠ tabP := fun q => absurd (q ▸ x.above : B.objs.size ≤ tabP) (Nat.not_le.mpr x.st.size.2.2)
theorem bnone (x : Fx B T s₀ fr mu L m S own s) {p : Addr × Obj} (hp : p ∈ own) : B.get? p.1 = none := by
  rcases (x.mine p hp).2.2.1 with h | h
  · cases e : B.get? p.1 with
    | none => rfl
    | some o => rw [x.old _ _ e] at h; cases h
  · exact h.2

theorem fresh (x : Fx B T s₀ fr mu L m S own s) {a : Addr} (h : s.heap.get? a = none) : a ∉ L :: fr ∧ (a ∉ mu → s₀.heap.get? a = none) ∧ (∀ o, ¬ S a o) ∧ ∀ p ∈ own, p.1 ≠ a := by
  have h1 : a ∉ L :: fr := fun q => by
    obtain ⟨_, o, e, _⟩ := x.st.frs a q
    rw [h] at e; cases e
  refine ⟨h1, fun hm => ?_, fun o ho => (by rw [(x.has a o ho).1] at h; cases h), fun p hp q => (by have := (x.mine p hp).1; rw [q, h] at this; cases this)⟩
  cases e : s₀.heap.get? a with
  | none => rfl
  | some o =>
    have := x.grow.keep a o (fun q => h1 (.tail _ q)) hm e
    rw [h] at this; cases this

/-- a step that keeps all but slots of the frames, and may bring new things -/
theorem step (x : Fx B T s₀ fr mu L m S own s) (g : Grow (L :: fr) [] s s') (hH : Has S' (L :: fr) s') (hS : ∀ a o, S a o → S' a o) (hN : ∀ a o, S' a o → S a o ∨ s.heap.get? a = none) : Fx B T s₀ fr mu L m S' own s' where
  ns := by
    obtain ⟨o, es, ep, e, d, r⟩ := x.ns
    obtain ⟨o', e', k⟩ := g.frm L (.head _) o e
    obtain ⟨sl, rfl⟩ := k.ne x.ne
    exact ⟨_, es, ep, e', d, r⟩
  newL := x.newL
  grow := ⟨g.os.trans x.grow.os, fun b o h h2 e => by
      by_cases hb : b = L
      · rw [hb, x.newL] at e; cases e
      · exact g.keep b o (by simp [hb, h]) (fun q => nomatch q) (x.grow.keep b o h h2 e),
    fun b h o e => by
      obtain ⟨o1, e1, k1⟩ := x.grow.frm b h o e
      obtain ⟨o2, e2, k2⟩ := g.frm b (.tail _ h) _ e1
      exact ⟨o2, e2, k1.trans k2⟩, fun h => g.gens.1 (x.grow.gens.1 h), Nat.le_trans x.grow.gens.2 g.gens.2⟩
  has := hH
  mine := fun p hp => by
    obtain ⟨h1, h2, h3, h4⟩ := x.mine p hp
    exact ⟨g.keep _ _ h2 (fun q => nomatch q) h1, h2, h3, fun o ho => (hN _ _ ho).elim (h4 o) fun e => by rw [h1] at e; cases e⟩
  apart := x.apart
  st := x.st.grow0 g
  old := x.old
  above := x.above
  sub := fun b o h => hS b o (x.sub b o h)
  nw := fun b o h => (hN b o h).elim (x.nw b o) fun e => by
    by_cases hm : b ∈ mu
    · exact .inr (.inr hm)
    · exact .inr (.inl ((x.fresh e).2.1 hm))
theorem step0 (x : Fx B T s₀ fr mu L m S own s) (g : Grow (L :: fr) [] s s') : Fx B T s₀ fr mu L m S own s' := x.step g (x.has.grow0 g) (fun _ _ h => h) fun _ _ h => .inl h
theorem keeps (x : Fx B T s₀ fr mu L m S own s) {h' : Heap} {tk : Nat} (k : ∀ b o, s.heap.get? b = some o → h'.get? b = some o) : Fx B T s₀ fr mu L m S own { s with heap := h', toks := tk } := x.step0 (Grow.of_keeps _ _ k)
theorem toks (x : Fx B T s₀ fr mu L m S own s) {tk : Nat} : Fx B T s₀ fr mu L m S own { s with toks := tk } := x.step0 (Grow.toks' _ _)

/-- a local name stored -/
theorem store (x : Fx B T s₀ fr mu L m S own s) {m' : Str → Option Value} {h' : Heap} {tk : Nat} (n : h'.Ns L m') (hs : Heap.SameBut L s.heap h') : Fx B T s₀ fr mu L m' S own { s with heap := h', toks := tk } where
  ns := n
  newL := x.newL
  grow := ⟨x.grow.os, fun b o h h2 e => by
      have hb : b ≠ L := fun q => by rw [q, x.newL] at e; cases e
      exact (hs.2 b hb).trans (x.grow.keep b o h h2 e),
    fun b h o e => by
      have hb : b ≠ L := fun q => by rw [q, x.newL] at e; cases e
      obtain ⟨o1, e1, k1⟩ := x.grow.frm b h o e
      exact ⟨o1, (hs.2 b hb).trans e1, k1⟩, x.grow.gens⟩
  has := fun a o h => by
    obtain ⟨h1, h2⟩ := x.has a o h
    exact ⟨(hs.2 a fun q => h2 (q ▸ .head _)).trans h1, h2⟩
  mine := fun p hp => by
    obtain ⟨h1, h2, h3, h4⟩ := x.mine p hp
    exact ⟨(hs.2 _ fun q => h2 (q ▸ .head _)).trans h1, h2, h3, h4⟩
  apart := x.apart
  st := ⟨fun b o e => by
      have hb : b ≠ L := fun q => by rw [q, (x.st.frs L (.head _)).1] at e; cases e
      exact (hs.2 b hb).trans (x.st.base b o e),
    fun b h => by
      refine ⟨(x.st.frs b h).1, ?_⟩
      by_cases hb : b = L
      · subst hb
        obtain ⟨o, es, ep, e, d, _⟩ := n
        exact ⟨o, e, .dict x.ne d⟩
      · obtain ⟨_, o, e, d⟩ := x.st.frs b h
        exact ⟨o, (hs.2 b hb).trans e, d⟩, x.st.bare, x.st.size⟩
  old := x.old
  above := x.above
  sub := x.sub
  nw := x.nw

/-- a new thing of one's own -/
theorem enter (x : Fx B T s₀ fr mu L m S own s) (g : Grow (L :: fr) [] s s') {a : Addr} {o : Obj} (hn : s.heap.get? a = none) (ho : s'.heap.get? a = some o) : Fx B T s₀ fr mu L m S ((a, o) :: own) s' :=
  let y := x.step0 g
  let ⟨f1, f2, f3, f4⟩ := x.fresh hn
  { y with
    mine := fun p hp => by
      rcases List.mem_cons.mp hp with rfl | hp
      · refine ⟨ho, f1, ?_, f3⟩
        by_cases hm : a ∈ mu
        · refine .inr ⟨hm, ?_⟩
          cases e : B.get? a with
          | none => rfl
          | some p => rw [x.st.base _ _ e] at hn; cases hn
        · exact .inl (f2 hm)
      · exact y.mine p hp
    apart := List.pairwise_cons.mpr ⟨fun p hp => Ne.symm (f4 p hp), x.apart⟩ }
theorem push (x : Fx B T s₀ fr mu L m S own s) (o : Obj) (hf : o.isFreed = false := by rfl) : Fx B T s₀ fr mu L m S ((s.heap.objs.size, o) :: own) { s with heap := s.heap.push o } :=
  x.enter (Grow.push _ _ s o) (Heap.get?_none_of_le (Nat.le_refl _)) (Heap.get?_push_size _ hf)

/-- one's own thing is let stand -/
theorem freeze {a : Addr} {o : Obj} (x : Fx B T s₀ fr mu L m S ((a, o) :: own) s) : Fx B T s₀ fr mu L m (S.add a o) own s :=
  { x with
    has := fun b p h => by
      rcases h with h | ⟨rfl, rfl⟩
      · exact x.has b p h
      · exact ⟨(x.mine _ (.head _)).1, (x.mine _ (.head _)).2.1⟩
    mine := fun p hp => by
      obtain ⟨h1, h2, h3, h4⟩ := x.mine p (.tail _ hp)
      refine ⟨h1, h2, h3, fun q hq => ?_⟩
      rcases hq with hq | ⟨e, _⟩
      · exact h4 q hq
      · exact (List.pairwise_cons.mp x.apart).1 p hp e.symm
    apart := (List.pairwise_cons.mp x.apart).2
    sub := fun b p h => .inl (x.sub b p h)
    nw := fun b p h => by
      rcases h with h | ⟨rfl, rfl⟩
      · exact x.nw b p h
      · exact .inr ((x.mine _ (.head _)).2.2.1.imp id And.left) }
theorem drop {p : Addr × Obj} (x : Fx B T s₀ fr mu L m S (p :: own) s) : Fx B T s₀ fr mu L m S own s :=
  { x with mine := fun q hq => x.mine q (.tail _ hq), apart := (List.pairwise_cons.mp x.apart).2 }
theorem perm {own' : List (Addr × Obj)} (x : Fx B T s₀ fr mu L m S own s) (h : own.Perm own') : Fx B T s₀ fr mu L m S own' s :=
  { x with mine := fun q hq => x.mine q (h.mem_iff.mpr hq), apart := h.pairwise_iff (fun e => Ne.symm e) |>.mp x.apart }
theorem swap {p q : Addr × Obj} (x : Fx B T s₀ fr mu L m S (p :: q :: own) s) : Fx B T s₀ fr mu L m S (q :: p :: own) s := x.perm (.swap _ _ _)
/-- one's own thing is changed by a step that may change it -/
theorem stepM {a : Addr} {o o' : Obj} (x : Fx B T s₀ fr mu L m S ((a, o) :: own) s) (g : Grow (L :: fr) [a] s s') (ho : s'.heap.get? a = some o') (hH : Has S' (L :: fr) s') (hS : ∀ a o, S a o → S' a o) (hN : ∀ a o, S' a o → S a o ∨ s.heap.get? a = none) :
    Fx B T s₀ fr mu L m S' ((a, o') :: own) s' := by
  obtain ⟨h1, h2, h3, h4⟩ := x.mine _ (.head _)
  have hb := x.bnone (.head _)
  refine ⟨?_, x.newL, ⟨g.os.trans x.grow.os, fun b p h hm e => ?_, fun b h p e => ?_, fun h => g.gens.1 (x.grow.gens.1 h), Nat.le_trans x.grow.gens.2 g.gens.2⟩, hH, fun p hp => ?_, ?_, x.st.grow g fun b hb' => by rw [List.mem_singleton.mp hb']; exact hb, x.old, x.above, fun b p h => hS b p (x.sub b p h), fun b p h => (hN b p h).elim (x.nw b p) fun e => by
    by_cases hm : b ∈ mu
    · exact .inr (.inr hm)
    · exact .inr (.inl ((x.fresh e).2.1 hm))⟩
  · obtain ⟨o, es, ep, e, d, r⟩ := x.ns
    obtain ⟨o', e', k⟩ := g.frm L (.head _) o e
    obtain ⟨sl, rfl⟩ := k.ne x.ne
    exact ⟨_, es, ep, e', d, r⟩
  · have hb : b ≠ L := fun q => by rw [q, x.newL] at e; cases e
    refine g.keep b p (by simp [hb, h]) (fun q => ?_) (x.grow.keep b p h hm e)
    rw [List.mem_singleton.mp q] at e hm
    rcases h3 with h3 | h3
    · rw [h3] at e; cases e
    · exact hm h3.1
  · obtain ⟨o1, e1, k1⟩ := x.grow.frm b h p e
    obtain ⟨o2, e2, k2⟩ := g.frm b (.tail _ h) _ e1
    exact ⟨o2, e2, k1.trans k2⟩
  · rcases List.mem_cons.mp hp with rfl | hp
    · exact ⟨ho, h2, h3, fun q hq => (hN _ _ hq).elim (h4 q) fun e => by rw [h1] at e; cases e⟩
    · obtain ⟨e1, e2, e3, e4⟩ := x.mine p (.tail _ hp)
      exact ⟨g.keep _ _ e2 (fun q => (List.pairwise_cons.mp x.apart).1 p hp (List.mem_singleton.mp q).symm) e1, e2, e3, fun q hq => (hN _ _ hq).elim (e4 q) fun e => by rw [e1] at e; cases e⟩
  · exact List.pairwise_cons.mpr ⟨fun p hp => (List.pairwise_cons.mp x.apart).1 p hp, (List.pairwise_cons.mp x.apart).2⟩
theorem upd {a : Addr} {o o' : Obj} {h' : Heap} {tk : Nat} (x : Fx B T s₀ fr mu L m S ((a, o) :: own) s) (hs : Heap.SameBut a s.heap h') (ho : h'.get? a = some o') : Fx B T s₀ fr mu L m S ((a, o') :: own) { s with heap := h', toks := tk } := by
  obtain ⟨h1, h2, h3, h4⟩ := x.mine _ (.head _)
  refine x.stepM (s' := { s with heap := h', toks := tk }) ⟨rfl, fun b p _ hm e => (hs.2 b fun q => hm (List.mem_singleton.mpr q)).trans e, fun b hb p e => ⟨p, (hs.2 b fun q => h2 (q ▸ hb)).trans e, .refl b p⟩, id, Nat.le_refl _⟩ ho (fun b p e => ?_) (fun _ _ h => h) fun _ _ h => .inl h
  exact ⟨(hs.2 b fun q => h4 p (q ▸ e)).trans (x.has b p e).1, (x.has b p e).2⟩

/-- all else that is there -/
noncomputable def oth (B : Heap) (L : Addr) (own : List (Addr × Obj)) (h : Heap) : List (Addr × Obj) :=
  (List.range h.objs.size).filterMap fun a => if a = L ∨ (B.get? a).isSome = true ∨ a ∈ own.map (·.1) then none else (h.get? a).map fun o => (a, o)
theorem oth_mem {B : Heap} {L : Addr} {own : List (Addr × Obj)} {h : Heap} {p : Addr × Obj} : p ∈ oth B L own h ↔ h.get? p.1 = some p.2 ∧ p.1 ≠ L ∧ B.get? p.1 = none ∧ p.1 ∉ own.map (·.1) := by
  unfold oth
  rw [List.mem_filterMap]
  constructor
  · rintro ⟨a, _, e⟩
    split at e
    · cases e
    · rename_i q
      obtain ⟨o, ho, rfl⟩ := Option.map_eq_some_iff.mp e
      simp only [not_or, Bool.not_eq_true, Option.isSome_eq_false_iff, Option.isNone_iff_eq_none] at q
      exact ⟨ho, q⟩
  · rintro ⟨h1, h2, h3, h4⟩
    refine ⟨p.1, List.mem_range.mpr (Heap.lt_size h1), ?_⟩
    rw [if_neg (by rintro (q | q | q); exact h2 q; rw [h3] at q; cases q; exact h4 q), h1]
    rfl
theorem toFr (x : Fx B T s₀ fr mu L m S own s) : Fr B L s.heap m := ⟨x.ns, x.st.base, x.above⟩
theorem toNews (x : Fx B T s₀ fr mu L m S own s) : News B L s.heap (own ++ oth B L own s.heap) := fun p hp => by
  rcases List.mem_append.mp hp with hp | hp
  · obtain ⟨h1, h2, _, _⟩ := x.mine p hp
    exact ⟨h1, fun q => h2 (q ▸ .head _), x.bnone hp⟩
  · obtain ⟨h1, h2, h3, _⟩ := oth_mem.mp hp
    exact ⟨h1, h2, h3⟩
theorem othNe {B : Heap} {L : Addr} {own : List (Addr × Obj)} {h : Heap} {p : Addr × Obj} (hp : p ∈ own) : ∀ q ∈ oth B L own h, q.1 ≠ p.1 := fun q hq e => (oth_mem.mp hq).2.2.2 (e ▸ List.mem_map_of_mem hp)
/-- back from the library's words: own things changed or made, all else as it was -/
theorem back {own' : List (Addr × Obj)} {m' : Str → Option Value} {h' : Heap} {tk : Nat} (x : Fx B T s₀ fr mu L m S own s) (F' : Fr B L h' m') (N' : News B L h' (own' ++ oth B L own s.heap))
    (hin : ∀ p ∈ own', p.1 ∈ own.map (·.1) ∨ s.heap.get? p.1 = none) (hap : own'.Pairwise fun p q => p.1 ≠ q.1) : Fx B T s₀ fr mu L m' S own' { s with heap := h', toks := tk } := by
  have keep : ∀ b o, b ≠ L → b ∉ own.map (·.1) → s.heap.get? b = some o → h'.get? b = some o := fun b o h1 h2 e => by
    cases hb : B.get? b with
    | some o' =>
      have := x.st.base b o' hb
      rw [e] at this; cases this
      exact F'.keep b _ hb
    | none => exact (N' (b, o) (List.mem_append_right _ (oth_mem.mpr ⟨e, h1, hb, h2⟩))).1
  have nown : ∀ b ∈ L :: fr, b ∉ own.map (·.1) := fun b hb hm => by
    obtain ⟨p, hp, rfl⟩ := List.mem_map.mp hm
    exact (x.mine p hp).2.1 hb
  refine ⟨F'.ns, x.newL, ⟨x.grow.os, fun b o hf hm e => ?_, fun b hb o e => ?_, x.grow.gens⟩, fun a o h => ?_, fun p hp => ?_, hap, ⟨F'.keep, fun b hb => ?_, x.st.bare, x.st.size⟩, x.old, x.above, x.sub, x.nw⟩
  · refine keep b o (fun q => by rw [q, x.newL] at e; cases e) (fun q => ?_) (x.grow.keep b o hf hm e)
    obtain ⟨p, hp, rfl⟩ := List.mem_map.mp q
    rcases (x.mine p hp).2.2.1 with h | h
    · rw [h] at e; cases e
    · exact hm h.1
  · obtain ⟨o1, e1, k1⟩ := x.grow.frm b hb o e
    exact ⟨o1, keep b _ (fun q => by rw [q, x.newL] at e; cases e) (nown b (.tail _ hb)) e1, k1⟩
  · obtain ⟨h1, h2⟩ := x.has a o h
    refine ⟨keep a o (fun q => h2 (q ▸ .head _)) (fun q => ?_) h1, h2⟩
    obtain ⟨p, hp, rfl⟩ := List.mem_map.mp q
    exact (x.mine p hp).2.2.2 o h
  · have e := (N' p (List.mem_append_left _ hp)).1
    rcases hin p hp with h | h
    · obtain ⟨q, hq, e1⟩ := List.mem_map.mp h
      obtain ⟨h1, h2, h3, h4⟩ := x.mine q hq
      exact ⟨e, e1 ▸ h2, e1 ▸ h3, e1 ▸ h4⟩
    · obtain ⟨f1, f2, f3, _⟩ := x.fresh h
      refine ⟨e, f1, ?_, f3⟩
      by_cases hm : p.1 ∈ mu
      · exact .inr ⟨hm, (N' p (List.mem_append_left _ hp)).2.2⟩
      · exact .inl (f2 hm)
  · refine ⟨(x.st.frs b hb).1, ?_⟩
    by_cases hL : b = L
    · subst hL
      obtain ⟨o, es, ep, e, d, _⟩ := F'.ns
      exact ⟨o, e, .dict x.ne d⟩
    · obtain ⟨_, o, e, d⟩ := x.st.frs b hb
      exact ⟨o, keep b o hL (nown b hb) e, d⟩
end Fx
end DescLaw
end
section
open PySem PySem.W PyProof.Rows PySem.Calls
set_option Elab.async false
set_option maxRecDepth 100000
namespace DescLaw
abbrev pw : Program := PySem.Challenge.pw_eq0019_01

section
variable {w : World} {B : Heap} {A : Around} {fr mu : List Addr} {n : Nat} {s : Shared} {S : Sto} {f : Addr} {name qual : Str} {params : Arguments} {body : List Stmt} {scope : Scope} {dV kV doc pm cdv ct oc : Value} {an od : Option Addr} {osl : Array (Option Value)}
  {args : Args} {binds : List (Str × Value)} {R : Result → Shared → Prop}

/-- what a call is lent: others' things that it may change -/
def Lent (B : Heap) (S : Sto) (fr mu : List Addr) (s : Shared) (own : List (Addr × Obj)) : Prop :=
  (∀ p ∈ own, s.heap.get? p.1 = some p.2 ∧ p.1 ∉ fr ∧ p.1 ∈ mu ∧ B.get? p.1 = none ∧ ∀ o, ¬ S p.1 o) ∧ own.Pairwise fun p q => p.1 ≠ q.1
theorem Lent.nil {B : Heap} {S : Sto} {fr mu : List Addr} {s : Shared} : Lent B S fr mu s [] := ⟨fun _ h => (nomatch h), .nil⟩
theorem Lent.one {B : Heap} {S : Sto} {fr : List Addr} {s : Shared} {a : Addr} {o : Obj} (h1 : s.heap.get? a = some o) (h2 : a ∉ fr) (h3 : B.get? a = none) (h4 : ∀ o, ¬ S a o) : Lent B S fr [a] s [(a, o)] :=
  ⟨fun p h => by rw [List.mem_singleton.mp h]; exact ⟨h1, h2, .head _, h3, h4⟩, List.pairwise_singleton _ _⟩

/-- a def of the text's is entered: no cells -/
theorem enter {own : List (Addr × Obj)} (Le : Lent B S fr mu s own) (hB : Hp w B) (C : Cx A fr (n + 1)) (st : St B fr s) (H : Has S fr s)
    (hk : (K w.params).lookup f = some ⟨oc, od, .func (fnX name qual params body scope [] dV kV doc pm an cdv ct), osl⟩) (hcd : codeIn (K w.params) cdv qual = true)
    (hbind : BindsTo s (fnX name qual params body scope [] dV kV doc pm an cdv ct) args binds)
    (hcell : ∀ x ∈ scope.names, x.2 ≠ .cell) (hloc : ∀ y ∈ binds, scope.names.lookup y.1 = some .local)
    (h : ∀ L h₁ tk, Fx B S s fr mu L (fun y => binds.reverse.lookup y) S own { s with heap := h₁, toks := tk } → Cx (A.deeper (envX qual scope L f cdv [])) (L :: fr) n →
      wpAny (model pw w) (A.deeper (envX qual scope L f cdv [])) (execs body (envX qual scope L f cdv [])) (fun fl s' => R (.ok (.ret (match fl with | .ret v => v | _ => .none))) s') (fun _ _ => False) { s with heap := h₁, toks := tk })
    (hco : scope.isCoroutine = false) (hgen : scope.isGenerator = false) (hkd : scope.kind = .function) : codeAny (model pw w) A (.call (.ref f) args) R s := by
  have Hh := hB.at st
  refine codeAny_call_def (fd := fnX name qual params body scope [] dV kV doc pm an cdv ct) (body := body) (binds := binds) C.room (Hh.k _ _ hk) rfl Hh.nolimit (codeRec_of Hh.k hcd) rfl hbind hcell hloc (fun h₁ hns hk₁ => ?_) hco hgen hkd
  have nL : s.heap.get? s.heap.objs.size = none := Heap.get?_none_of_le (Nat.le_refl _)
  have hsz : B.objs.size ≤ s.heap.objs.size := by
    obtain ⟨⟨b, hb, hl⟩, _⟩ := st.size
    obtain ⟨_, o, e, _⟩ := st.frs b hb
    exact Nat.le_trans hl (Nat.le_of_lt (Heap.lt_size e))
  have nf : s.heap.objs.size ∉ fr := fun q => by
    obtain ⟨_, o, e, _⟩ := st.frs _ q
    rw [nL] at e; cases e
  refine wpAny_mono (h _ h₁ _ ⟨hns, nL, Grow.of_keeps _ _ hk₁, fun a o q => ?_, fun p hp => ?_, Le.2, ⟨fun b o e => hk₁ b o (st.base b o e), fun b q => ?_, st.bare, ⟨⟨_, .head _, hsz⟩, .tail _ st.size.2.1, st.size.2.2⟩⟩, st.base, hsz, fun _ _ h => h, fun _ _ h => .inl h⟩ (C.deeper rfl hkd (ne_tab hsz st.size.2.2))) (fun _ _ x => x) fun _ _ x => x.elim
  rotate_left
  · obtain ⟨h1, h2, h3, h4, h5⟩ := Le.1 p hp
    refine ⟨hk₁ _ _ h1, fun q => ?_, .inr ⟨h3, h4⟩, h5⟩
    rcases List.mem_cons.mp q with q | q
    · rw [q, nL] at h1; cases h1
    · exact h2 q
  rotate_left
  · obtain ⟨e1, e2⟩ := H a o q
    refine ⟨hk₁ a o e1, fun q' => ?_⟩
    rcases List.mem_cons.mp q' with rfl | q'
    · rw [nL] at e1; cases e1
    · exact e2 q'
  · rcases List.mem_cons.mp q with rfl | q
    · refine ⟨?_, ?_⟩
      · cases e : B.get? s.heap.objs.size with
        | none => rfl
        | some o => rw [st.base _ _ e] at nL; cases nL
      · obtain ⟨o, es, ep, e, d, _⟩ := hns
        exact ⟨o, e, .dict (fun q => absurd (q ▸ hsz : B.objs.size ≤ tabP) (Nat.not_le.mpr st.size.2.2)) d⟩
    · obtain ⟨n0, o, e, d⟩ := st.frs b q
      exact ⟨n0, o, hk₁ b o e, d⟩

/-- the same, with cells -/
theorem enterC {own : List (Addr × Obj)} (Le : Lent B S fr mu s own) (hB : Hp w B) (C : Cx A fr (n + 1)) (st : St B fr s) (H : Has S fr s)
    (hk : (K w.params).lookup f = some ⟨oc, od, .func (fnX name qual params body scope [] dV kV doc pm an cdv ct), osl⟩) (hcd : codeIn (K w.params) cdv qual = true)
    (hbind : BindsTo s (fnX name qual params body scope [] dV kV doc pm an cdv ct) args binds)
    (hkind : (binds.all fun y => scope.names.lookup y.1 == some .local || scope.names.lookup y.1 == some .cell) = true) (hnd : ((cellsFrom 0 scope.names []).map (·.1)).Nodup)
    (h : ∀ L h₁ tk cells, CellsAre (bindC (envOfC qual scope L f cdv).kindOf binds fun _ => none) (cellsFrom (L + 1) scope.names []) cells →
      Fx B S s fr mu L (bindL (envOfC qual scope L f cdv).kindOf binds fun _ => none) S (cells ++ own) { s with heap := h₁, toks := tk } → Cx (A.deeper (envOfC qual scope L f cdv)) (L :: fr) n →
      wpAny (model pw w) (A.deeper (envOfC qual scope L f cdv)) (execs body (envOfC qual scope L f cdv)) (fun fl s' => R (.ok (.ret (match fl with | .ret v => v | _ => .none))) s') (fun _ _ => False) { s with heap := h₁, toks := tk })
    (hco : scope.isCoroutine = false) (hgen : scope.isGenerator = false) (hkd : scope.kind = .function) : codeAny (model pw w) A (.call (.ref f) args) R s := by
  have Hh := hB.at st
  refine codeAny_call_function (fd := fnX name qual params body scope [] dV kV doc pm an cdv ct) C.room (Hh.k _ _ hk) rfl hco hgen rfl (codeRec_of Hh.k hcd) (hbind _ _ _ _ ?_)
  refine wpAny_newFunctionEnv_cells hkd (kindsX hkind _) fun env' he s' x => ?_
  subst he
  refine ⟨Hh.nolimit.keeps x.toInCall.keep, codeAny_func ?_⟩
  obtain ⟨h₁, tk, rfl, ht⟩ := x.done
  have hk₁ := x.toInCall.keep
  have nL : s.heap.get? s.heap.objs.size = none := Heap.get?_none_of_le (Nat.le_refl _)
  have hsz : B.objs.size ≤ s.heap.objs.size := by
    obtain ⟨⟨b, hb, hl⟩, _⟩ := st.size
    obtain ⟨_, o, e, _⟩ := st.frs b hb
    exact Nat.le_trans hl (Nat.le_of_lt (Heap.lt_size e))
  have nf : s.heap.objs.size ∉ fr := fun q => by
    obtain ⟨_, o, e, _⟩ := st.frs _ q
    rw [nL] at e; cases e
  obtain ⟨cells, NC, Y⟩ := Cl.news (h₀ := s.heap) (Nat.le_refl _) fun n c hm => ⟨x.cell n c (lookup_of_mem_nodup (cellsFrom_names scope.names 0 (s.heap.objs.size + 1) [] [] rfl ▸ hnd) hm), x.above n c hm⟩
  have ap : cells.Pairwise fun p q => p.1 ≠ q.1 := by
    have key : ∀ {cm : Str → Option Value} {cs : List (Str × Addr)} {cells : List (Addr × Obj)}, CellsAre cm cs cells → cs.Pairwise (fun x y => x.2 ≠ y.2) → cells.Pairwise fun p q => p.1 ≠ q.1 := by
      intro cm cs cells Y
      induction Y with
      | nil => intro _; exact .nil
      | @cons n c o cs cells _ Y ih =>
        intro hp
        obtain ⟨h1, h2⟩ := List.pairwise_cons.mp hp
        refine List.pairwise_cons.mpr ⟨fun q hq => ?_, ih h2⟩
        have : ∀ {cs : List (Str × Addr)} {cells : List (Addr × Obj)}, CellsAre cm cs cells → ∀ q ∈ cells, ∃ y ∈ cs, y.2 = q.1 := by
          intro cs cells Y
          induction Y with
          | nil => intro q hq; cases hq
          | cons _ _ ih => intro q hq; rcases List.mem_cons.mp hq with rfl | hq; exact ⟨_, .head _, rfl⟩; obtain ⟨y, hy, e⟩ := ih q hq; exact ⟨y, .tail _ hy, e⟩
        obtain ⟨y, hy, e⟩ := this Y q hq
        exact e ▸ h1 y hy
    exact key Y x.apart
  have base' : ∀ b o, B.get? b = some o → h₁.get? b = some o := fun b o e => hk₁ b o (st.base b o e)
  refine wpAny_mono (h _ h₁ tk cells Y ⟨x.toInCall.ns, nL, Grow.of_keeps _ _ hk₁, fun a o q => ?_, fun p hp => ?_, List.pairwise_append.mpr ⟨ap, Le.2, fun p hp q hq e => by have h1 := (NC p hp).2.2; rw [e, (Le.1 q hq).1] at h1; cases h1⟩, ⟨base', fun b q => ?_, st.bare, ⟨⟨_, .head _, hsz⟩, .tail _ st.size.2.1, st.size.2.2⟩⟩, st.base, hsz, fun _ _ h => h, fun _ _ h => .inl h⟩ (C.deeper rfl hkd (ne_tab hsz st.size.2.2))) (fun _ _ x => x) fun _ _ x => x.elim
  · obtain ⟨e1, e2⟩ := H a o q
    refine ⟨hk₁ a o e1, fun q' => ?_⟩
    rcases List.mem_cons.mp q' with rfl | q'
    · rw [nL] at e1; cases e1
    · exact e2 q'
  · rcases List.mem_append.mp hp with hp | hp
    rotate_left
    · obtain ⟨h1, h2, h3, h4, h5⟩ := Le.1 p hp
      refine ⟨hk₁ _ _ h1, fun q => ?_, .inr ⟨h3, h4⟩, h5⟩
      rcases List.mem_cons.mp q with q | q
      · rw [q, nL] at h1; cases h1
      · exact h2 q
    obtain ⟨e1, e2, e3⟩ := NC p hp
    refine ⟨e1, fun q => ?_, .inl e3, fun o ho => by rw [(H _ o ho).1] at e3; cases e3⟩
    rcases List.mem_cons.mp q with q | q
    · exact e2 q
    · obtain ⟨_, o, e, _⟩ := st.frs _ q
      rw [e3] at e; cases e
  · rcases List.mem_cons.mp q with rfl | q
    · refine ⟨?_, ?_⟩
      · cases e : B.get? s.heap.objs.size with
        | none => rfl
        | some o => rw [st.base _ _ e] at nL; cases nL
      · obtain ⟨o, es, ep, e, d, _⟩ := x.toInCall.ns
        exact ⟨o, e, .dict (fun q => absurd (q ▸ hsz : B.objs.size ≤ tabP) (Nat.not_le.mpr st.size.2.2)) d⟩
    · obtain ⟨n0, o, e, d⟩ := st.frs b q
      exact ⟨n0, o, hk₁ b o e, d⟩
end

section
variable {w : World} {M : Model} {B : Heap} {A : Around} {fr mu : List Addr} {s₀ s : Shared} {L : Addr} {m : Str → Option Value} {T S : Sto} {own : List (Addr × Obj)} {E : Value → Shared → Prop} {env : Env} {x : Str} {pos : Pos} {v : Value}

theorem nm {Q : Value → Shared → Prop} (F : Fx B T s₀ fr mu L m S own s) (hv : m x = some v) (h : Q v s) (hL : env.locals = L := by rfl) (hk : env.scope.kind = .function := by rfl) (hx : env.kindOf x = some .local := by rfl)
    (hd : (x == ("__debug__" : Str)) = false := by decide) : wpAny M A (eval (.Name x pos) env) Q E s := wpAny_Name (wpAny_loadName_local hk hx (hL ▸ F.ns) hv h) hd
theorem nmC {Q : Value → Shared → Prop} {c : Addr} {o : Obj} (F : Fx B T s₀ fr mu L m S own s) (hm : (c, o) ∈ own) (hd' : o.data = .cell (some v)) (h : Q v s) (hc : env.cells.lookup x = some c := by rfl) (hk : env.scope.kind = .function := by rfl) (hx : env.kindOf x = some .cell := by rfl)
    (hd : (x == ("__debug__" : Str)) = false := by decide) : wpAny M A (eval (.Name x pos) env) Q E s := wpAny_Name (wpAny_loadName_cell hk hx hc ⟨o, (F.mine _ hm).1, hd'⟩ h) hd
theorem mgX {h : Heap} {w : World} (hp : Hp w h) {y : Str} {v : Value} (e : nsIn (K w.params) mainGlobals y = some (some v)) : ∃ mg, h.Ns mainGlobals mg ∧ mg y = some v :=
  let ⟨mg, G⟩ := hp.g; ⟨mg, G, mg_of hp.k G e⟩
theorem gl {Q : Value → Shared → Prop} (hp : Hp w s.heap) (e : nsIn (K w.params) mainGlobals x = some (some v)) (h : Q v s) (hg : env.globals = mainGlobals := by rfl) (hk : env.scope.kind = .function := by rfl)
    (hx : env.kindOf x = some .globalImplicit := by rfl) (hd : (x == ("__debug__" : Str)) = false := by decide) : wpAny M A (eval (.Name x pos) env) Q E s :=
  let ⟨_, G, e'⟩ := mgX hp e
  Name_function_global hk hx (loadGlobal_global (by rw [hg]; exact G) e' h) hd
theorem bl {Q : Value → Shared → Prop} (hp : Hp w s.heap) (e : nsIn (K w.params) mainGlobals x = some none) (hv : bootBuiltins x = some v) (h : Q v s) (hn : x ≠ "__name__" := by decide +kernel) (hg : env.globals = mainGlobals := by rfl) (hb : env.builtins = builtinsNs := by rfl) (hk : env.scope.kind = .function := by rfl)
    (hx : env.kindOf x = some .globalImplicit := by rfl) (hd : (x == ("__debug__" : Str)) = false := by decide) : wpAny M A (eval (.Name x pos) env) Q E s :=
  let ⟨_, G⟩ := hp.g
  let ⟨_, Gb, r⟩ := hp.b
  Name_function_global hk hx (loadGlobal_builtin (by rw [hg]; exact G) (mg_none_of hp.k G e) (by rw [hb]; exact Gb) ((r x hn).trans hv) h) hd

/-- a local name is stored -/
theorem sto {Q : Unit → Shared → Prop} (F : Fx B T s₀ fr mu L m S own s) (h : ∀ s', Fx B T s₀ fr mu L (fun y => if y = x then some v else m y) S own s' → Q () s')
    (hL : env.locals = L := by rfl) (hx : env.kindOf x = some .local := by rfl) (hp : (env.scope.kind == .class || (env.scope.kind == .module && env.locals != env.globals)) = false := by rfl) : wpAny M A (storeName env x v) Q E s :=
  wpAny_storeName_local hx (hL ▸ F.ns) (fun _ hn hs => h _ (F.store (hL ▸ hn) (hL ▸ hs))) hp
theorem asg {Q : Flow → Shared → Prop} {e : Expr} {p p' : Pos} (h : wpAny M A (eval e env) (fun v s₁ => wpAny M A (storeName env x v) (fun _ => Q .next) E s₁) E s)
    (hs : swapsWith e (some (.Name x p')) p.line env = pure false := by rfl) : wpAny M A (exec (.Assign [.Name x p'] e p) env) Q E s := wpAny_Assign_Name h hs

theorem cint {Q : Value → Shared → Prop} {i : Int} {k : Nat} (F : Fx B T s₀ fr mu L m S own s) (h : ∀ t s', Fx B T s₀ fr mu L m S own s' → Q (.int i t) s') : wpAny M A (eval (.Constant (.int i) k pos) env) Q E s := wpAny_Constant_int (h _ _ F.toks)
theorem cstr {Q : Value → Shared → Prop} {y : Str} {k : Nat} (F : Fx B T s₀ fr mu L m S own s) (h : ∀ t s', Fx B T s₀ fr mu L m S own s' → Q (.str y t) s') : wpAny M A (eval (.Constant (.str y) k pos) env) Q E s := Calls.Constant_str (h _ _ F.toks)

/-- a new list, a new tuple -/
theorem newL {Q : Value → Shared → Prop} {vs : List Value} (F : Fx B T s₀ fr mu L m S own s) (h : ∀ a s', Fx B T s₀ fr mu L m S ((a, listOf vs.toArray 0) :: own) s' → Q (.ref a) s') (hsz : vs.length ≤ sizeLine := by size_fits) : wpAny M A (newList vs) Q E s :=
  wpAny_newObj_type (h _ _ (F.push _)) (by show vs.toArray.size ≤ sizeLine; rw [List.size_toArray]; exact hsz)
abbrev tupOf (vs : List Value) : Obj := { cls := .type "tuple", data := .seq vs.toArray }
theorem newT {Q : Value → Shared → Prop} {vs : List Value} (F : Fx B T s₀ fr mu L m S own s) (h : ∀ a s', Fx B T s₀ fr mu L m S ((a, tupOf vs) :: own) s' → Q (.ref a) s') (hsz : vs.length ≤ sizeLine := by size_fits) : wpAny M A (newTuple vs) Q E s :=
  wpAny_newObj_type (h _ _ (F.push _)) (by show vs.toArray.size ≤ sizeLine; rw [List.size_toArray]; exact hsz)

/-- a builtin is called by its name -/
theorem cb {Q : Value → Shared → Prop} {id : String} {p : Pos} {e : Expr} {rest : List Expr} (hp : Hp w s.heap) (e1 : nsIn (K w.params) mainGlobals x = some none) (hv : bootBuiltins x = some (.builtin id))
    (h : wpAny M A (spliced (backTo pos (starEach (e :: rest) env))) (fun vs s₁ => wpAny M A (call (.builtin id) vs) Q E s₁) E s) (hn : x ≠ "__name__" := by decide +kernel)
    (hg : env.globals = mainGlobals := by rfl) (hb : env.builtins = builtinsNs := by rfl) (hk : env.scope.kind = .function := by rfl)
    (hx : env.kindOf x = some .globalImplicit := by rfl) (hd : (x == ("__debug__" : Str)) = false := by decide)
    (he : starEach (e :: rest) env = (false, eval e env) :: starEach rest env := by rfl) (hplain : (backTo pos (starEach rest env)).any (·.1) = false := by rfl) : wpAny M A (eval (.Call (.Name x p) (e :: rest) [] pos) env) Q E s :=
  wpAny_Call_Name_kw (bl hp e1 hv (PyProof.Rows.callWith_builtin1 h he hplain) hn hg hb hk hx hd)
end

section
variable {w : World} {A : Around} {E : Value → Shared → Prop} {B : Heap} {fr mu : List Addr} {s₀ s : Shared} {L : Addr} {m : Str → Option Value} {T S : Sto} {own : List (Addr × Obj)} {Q : Value → Shared → Prop}
theorem itemL {value slice : Expr} {l : Addr} {items : Array Value} {k : Int} {u : Tok} {v : Value} (hl : s.heap.IsList l items) (h0 : 0 ≤ k) (hhi : k < 2 ^ 63) (hx : items[k.toNat]? = some v) (h : Q v s)
    (hs : subscripted slice false (.ref l) (.int k u) = operate [.ref l, .int k u] (getItem (.ref l) (.int k u)) := by with_unfolding_all rfl) : wpAny (model pw w) A (subscriptTail value slice (.ref l) (.int k u)) Q E s :=
  tail_any hl.typeIs slot_list_getitem.lookup (wpAny_getItem_list hl h0 hhi hx h) hs
variable {a b : Int} {t u : Tok}
theorem addI (F : Fx B T s₀ fr mu L m S own s) (h : ∀ t s', Fx B T s₀ fr mu L m S own s' → Q (.int (a + b) t) s') : wpAny (model pw w) A (binaryOp .Add (.int a t) (.int b u)) Q E s := add_int (h _ _ F.toks)
theorem subI (F : Fx B T s₀ fr mu L m S own s) (h : ∀ t s', Fx B T s₀ fr mu L m S own s' → Q (.int (a - b) t) s') : wpAny (model pw w) A (binaryOp .Sub (.int a t) (.int b u)) Q E s := sub_int (h _ _ F.toks)
theorem modI (F : Fx B T s₀ fr mu L m S own s) (hb : b ≠ 0) (h : ∀ t s', Fx B T s₀ fr mu L m S own s' → Q (.int (a.fmod b) t) s') : wpAny (model pw w) A (binaryOp .Mod (.int a t) (.int b u)) Q E s := mod_int hb (h _ _ F.toks)
theorem iaddI (F : Fx B T s₀ fr mu L m S own s) (h : ∀ t s', Fx B T s₀ fr mu L m S own s' → Q (.int (a + b) t) s') : wpAny (model pw w) A (inplaceOp .Add (.int a t) (.int b u)) Q E s := iadd_int (h _ _ F.toks)
theorem lenL {l : Addr} {items : Array Value} (F : Fx B T s₀ fr mu L m S own s) (hl : s.heap.IsList l items) (hf : (items.size : Int) < 2 ^ 63) (h : ∀ t s', Fx B T s₀ fr mu L m S own s' → Q (.int items.size t) s') : wpAny (model pw w) A (call (.builtin "len") [.ref l]) Q E s :=
  Calls.call_len_list hl hf (h _ _ F.toks)
theorem setL {l : Addr} {o : Obj} {items : Array Value} {k : Int} {v : Value} {Q : Unit → Shared → Prop} (F : Fx B T s₀ fr mu L m S ((l, o) :: own) s) (hl : s.heap.IsList l items) (h0 : 0 ≤ k) (hhi : k < 2 ^ 63) (hn : k < items.size)
    (h : ∀ s' o', Fx B T s₀ fr mu L m S ((l, o') :: own) s' → s'.heap.IsList l (items.setIfInBounds k.toNat v) → o'.cls = .type "list" → (∃ n, o'.data = .seq (items.setIfInBounds k.toNat v) n) → Q () s') : wpAny (model pw w) A (setItem (.ref l) (.int k t) v) Q E s :=
  wpAny_setItem_list hl h0 hhi hn fun h' hl' hs' => by
    obtain ⟨o', ho', hc, n, hd⟩ := id hl'
    exact h _ o' (F.upd hs' ho') hl' hc ⟨n, hd⟩
end

theorem kn_len (P : Params) : nsIn (K P) mainGlobals (Str.ofString "len") = some none := by kernel_rfl
theorem bn_len : bootBuiltins (Str.ofString "len") = some (.builtin "len") := by decide +kernel
end DescLaw
end
section
open PySem PySem.W PyProof.Rows PySem.Calls
set_option Elab.async false
set_option maxRecDepth 100000
namespace DescLaw

/-- the entries of an object's dict, by name and value -/
inductive Ents (P : Params) : List DictEntry → List (Str × Value) → Prop
  | nil : Ents P [] []
  | cons {n : Str} {t : Tok} {v : Value} {es : List DictEntry} {as : List (Str × Value)} : Ents P es as → Ents P (⟨PyData.keyHash P n, .str n t, v⟩ :: es) ((n, v) :: as)
theorem Ents.append {P : Params} {es es' : List DictEntry} {as as' : List (Str × Value)} (x : Ents P es as) (y : Ents P es' as') : Ents P (es ++ es') (as ++ as') := by
  induction x with
  | nil => exact y
  | cons _ ih => exact .cons ih
theorem Ents.length {P : Params} {es : List DictEntry} {as : List (Str × Value)} (x : Ents P es as) : es.length = as.length := by
  induction x with
  | nil => rfl
  | cons _ ih => simp [ih]
theorem Ents.get {P : Params} {es : List DictEntry} {as : List (Str × Value)} (x : Ents P es as) (name : Str) : getL name es = some (as.lookup name) := by
  have key : ∀ {es as}, Ents P es as → (es.find? (·.key.isStr name)).map (·.val) = as.lookup name ∧ es.any (·.refKey) = false := by
    intro es as x
    induction x with
    | nil => exact ⟨rfl, rfl⟩
    | @cons n t v es as _ ih =>
      refine ⟨?_, by rw [List.any_cons, ih.2]; rfl⟩
      rw [List.find?_cons, List.lookup_cons]
      have e : Value.isStr (.str n t) name = (n == name) := rfl
      dsimp only
      rw [e, show (n == name) = (name == n) from by rw [Bool.eq_iff_iff, beq_iff_eq, beq_iff_eq, eq_comm]]
      cases name == n with
      | true => rfl
      | false => exact ih.1
  obtain ⟨h1, h2⟩ := key x
  unfold getL
  cases h : es.find? (·.key.isStr name) with
  | some e => rw [h] at h1; rw [← h1]; rfl
  | none => rw [h] at h1; rw [← h1, h2]; rfl
theorem Ents.put {P : Params} {es : List DictEntry} {as : List (Str × Value)} (x : Ents P es as) {name : Str} (t : Tok) (v : Value) (h : as.lookup name = none) : putL name (PyData.keyHash P name) (.str name t) v es = es ++ [⟨PyData.keyHash P name, .str name t, v⟩] := by
  induction x with
  | nil => rfl
  | @cons n t' v' es as _ ih =>
    rw [List.lookup_cons] at h
    unfold putL
    have e : Value.isStr (.str n t') name = (n == name) := rfl
    dsimp only
    rw [e, show (n == name) = (name == n) from by rw [Bool.eq_iff_iff, beq_iff_eq, beq_iff_eq, eq_comm]]
    cases hn : name == n with
    | true => rw [hn] at h; cases h
    | false => rw [hn] at h; rw [if_neg (by decide), ih h]; rfl
theorem Ents.set {P : Params} {es : List DictEntry} {as : List (Str × Value)} (x : Ents P es as) (name : Str) (t : Tok) (v : Value) :
    ∃ as', Ents P (putL name (PyData.keyHash P name) (.str name t) v es) as' ∧ (∀ n, as'.lookup n = if n = name then some v else as.lookup n) ∧ as'.length ≤ as.length + 1 := by
  induction x with
  | nil => exact ⟨[(name, v)], .cons .nil, fun n => by
      rw [List.lookup_cons]
      by_cases h : n = name
      · simp [h]
      · simp [h, beq_eq_false_iff_ne.mpr h], by simp⟩
  | @cons n t' v' es as _ ih =>
    unfold putL
    have e : Value.isStr (.str n t') name = (n == name) := rfl
    dsimp only
    rw [e]
    by_cases hn : n = name
    · subst hn
      rw [beq_self_eq_true, if_pos rfl]
      rename_i x
      refine ⟨_, .cons x, fun k => ?_, by simp⟩
      rw [List.lookup_cons, List.lookup_cons]
      by_cases h : k = n
      · simp [h]
      · simp [h, beq_eq_false_iff_ne.mpr h]
    · rw [beq_eq_false_iff_ne.mpr hn, if_neg (by decide)]
      obtain ⟨as', h1, h2, h3⟩ := ih
      refine ⟨_, .cons h1, fun k => ?_, by simpa using h3⟩
      rw [List.lookup_cons, List.lookup_cons]
      by_cases h : k = n
      · subst h; simp [hn]
      · simp [beq_eq_false_iff_ne.mpr h, h2]

/-- an own class's object with these attributes stands -/
def Inst (P : Params) (S : Sto) (x : Addr) (C : Addr) (l : List (Str × Value)) : Prop := ∃ dx es n as, S x (instObj C dx) ∧ S dx (dictOf es n) ∧ Ents P es as ∧ ∀ k, as.lookup k = l.lookup k
theorem Inst.mono {P : Params} {S S' : Sto} {x C : Addr} {l : List (Str × Value)} (h : Inst P S x C l) (k : ∀ a o, S a o → S' a o) : Inst P S' x C l := let ⟨dx, es, n, as, a, b, c⟩ := h; ⟨dx, es, n, as, k _ _ a, k _ _ b, c⟩
theorem Inst.at {P : Params} {S : Sto} {x C : Addr} {l : List (Str × Value)} {fr : List Addr} {s : Shared} (h : Inst P S x C l) (H : Has S fr s) : ∃ dx es n, InstAt s.heap x (instObj C dx) C (some (dictOf es n)) ∧ ∀ k, getL k es = some (l.lookup k) :=
  let ⟨dx, es, n, _, a, b, c, d⟩ := h; ⟨dx, es, n, ⟨H.get a, rfl, rfl, H.get b⟩, fun k => by rw [c.get, d]⟩

section
variable {w : World} {A : Around} {E : Value → Shared → Prop} {B : Heap} {fr mu : List Addr} {s₀ s : Shared} {L : Addr} {m : Str → Option Value} {T S : Sto} {own : List (Addr × Obj)} {x C : Addr} {l : List (Str × Value)} {name : Str} {v : Value}

/-- x.name, an attribute of the object's own -/
theorem getA {Q : Value → Shared → Prop} {attr : Option Value} {expr : Bool} (hB : Hp w B) (F : Fx B T s₀ fr mu L m S own s) (I : Inst w.params S x C l) (hv : l.lookup name = some v) (hg : plainGet (K w.params) C name = true) (hh : hasDictIn (K w.params) C = true)
    (ha : findIn (K w.params) (.ref C) name = some attr) (hn : noGet (K w.params) attr = true) (hd : handedIn v = true) (h : ∀ s', Fx B T s₀ fr mu L m S own s' → Q v s') : wpAny (model pw w) A (getAttr (.ref x) name expr) Q E s := by
  obtain ⟨dx, es, n, I, X⟩ := I.at F.has
  exact get_value (hB.at F.st).k I (plainGet_of hg).1 (findObj_own hh ha hn (by show getL name es = _; rw [X, hv])) hd (h _ F.toks)

/-- x.name is looked up for a call: a def of the class -/
theorem getM {Q : Value × List Value → Shared → Prop} {pl : Sem Bool} {f : Addr} (hB : Hp w B) (F : Fx B T s₀ fr mu L m S own s) (I : Inst w.params S x C l) (hv : l.lookup name = none) (hg : plainGet (K w.params) C name = true)
    (hf : findIn (K w.params) (.ref C) name = some (some (.ref f))) (ht : isFn (K w.params) (.ref f) = true) (h : Q (.ref f, [.ref x]) s) : wpAny (model pw w) A (getMethod (.ref x) name pl) Q E s := by
  obtain ⟨dx, es, n, I, X⟩ := I.at F.has
  exact method_fn (hB.at F.st).k I (plainGet_of hg).1 (plainGet_of hg).2 hf (beq_iff_eq.mp ht) (by show (lookIn name (dictOf es n)).map _ = _; rw [lookIn_dict, X, hv]; rfl) h

/-- x.name is a property: its def is called -/
theorem getP {Q : Value → Shared → Prop} {expr : Bool} {p fget : Addr} {rest : List Value} (hB : Hp w B) (F : Fx B T s₀ fr mu L m S own s) (I : Inst w.params S x C l) (hg : plainGet (K w.params) C name = true) (hh : hasDictIn (K w.params) C = true)
    (ha : findIn (K w.params) (.ref C) name = some (some (.ref p))) (hn : specialIn (K w.params) (.ref p) "__get__" = some (some (.builtin "property.__get__"))) (ht : takesIn (K w.params) (.ref p) = some true) (hp : recIn (K w.params) p "property" = some (.ref fget :: rest))
    (h : ∀ s', Fx B T s₀ fr mu L m S own s' → codeAny (model pw w) A.in1 (.call (.ref fget) ⟨[.ref x], []⟩) (fun r s'' => ∃ v, r = .ok (.ret v) ∧ handedIn v = true ∧ Q v s'') s') : wpAny (model pw w) A (getAttr (.ref x) name expr) Q E s := by
  obtain ⟨dx, es, n, I, X⟩ := I.at F.has
  have X₀ := (hB.at F.st).k
  refine get_bind X₀ I (plainGet_of hg).1 (findObj_data (by obtain ⟨cd, hc, _⟩ := any_some hh; rw [hc]; rfl) ha hn ht) (plainGet_of hg).2 (wpAny_call (prop_get (s := { s with toks := s.toks + 1 }) X₀ hp (codeAny_mono (h _ F.toks) fun r s' hr => ?_)))
  obtain ⟨v, rfl, hv, hq⟩ := hr
  exact handed_on hv hq

/-- x.name = v, into the object's dict, one's own -/
theorem setA {Q : Unit → Shared → Prop} {dx : Addr} {es : List DictEntry} {n : Nat} {as : List (Str × Value)} (hB : Hp w B) (F : Fx B T s₀ fr mu L m S ((dx, dictOf es n) :: own) s) (hx : S x (instObj C dx)) (X : Ents w.params es as)
    (hs : findIn (K w.params) (.ref C) "__setattr__" = some (some (.builtin "object.__setattr__"))) (hp : plainOver (K w.params) C = true) (ht : takerIn (K w.params) C name = some none) (hh : hasDictIn (K w.params) C = true) (hz : as.length ≤ 900)
    (h : ∀ s' es' n' as', Fx B T s₀ fr mu L m S ((dx, dictOf es' n') :: own) s' → Ents w.params es' as' → (∀ k, as'.lookup k = if k = name then some v else as.lookup k) → as'.length ≤ as.length + 1 → Q () s') :
    wpAny (model pw w) A (setAttr (.ref x) name v) Q E s := by
  have N := F.toNews
  rw [List.cons_append] at N
  have ne : ∀ p ∈ own ++ Fx.oth B L ((dx, dictOf es n) :: own) s.heap, p.1 ≠ dx := fun p hp => by
    rcases List.mem_append.mp hp with hp | hp
    · exact Ne.symm ((List.pairwise_cons.mp F.apart).1 p hp)
    · exact Fx.othNe (.head _) p hp
  obtain ⟨as', X', hl, hz'⟩ := X.set name (s.toks + 1) v
  refine set_dict (h₀ := B) (L := L) F.toFr hB.k N ⟨F.has.get hx, rfl, rfl, (F.mine _ (.head _)).1⟩ rfl hs hp ht hh (by rw [X.get]; rfl) rfl (.head ne) (by have := X'.length; omega) fun h' F' N' => ?_
  refine h _ _ _ as' (F.back F' N' (fun p hp => ?_) ?_) X' hl hz'
  · rcases List.mem_cons.mp hp with rfl | hp
    · exact .inl (.head _)
    · exact .inl (.tail _ (List.mem_map_of_mem hp))
  · exact List.pairwise_cons.mpr ⟨fun p hp => (List.pairwise_cons.mp F.apart).1 p hp, (List.pairwise_cons.mp F.apart).2⟩

theorem fresh_lt (F : Fx B T s₀ fr mu L m S own s) {a : Addr} (h : ∀ p ∈ own ++ Fx.oth B L own s.heap, p.1 < a) (hL : a ≠ L) (hb : B.get? a = none) : s.heap.get? a = none := by
  cases e : s.heap.get? a with
  | none => rfl
  | some o =>
    by_cases hm : a ∈ own.map (·.1)
    · obtain ⟨p, hp, rfl⟩ := List.mem_map.mp hm
      exact absurd (h p (List.mem_append_left _ hp)) (Nat.lt_irrefl _)
    · exact absurd (h (a, o) (List.mem_append_right _ (Fx.oth_mem.mpr ⟨e, hL, hb, hm⟩))) (Nat.lt_irrefl _)

/-- a class of the text's is called: its __init__ goes -/
theorem mk {Q : Value → Shared → Prop} {fI : Addr} {pos : List Value} {kw : List (Str × Value)} (hB : Hp w B) (F : Fx B T s₀ fr mu L m S own s) (hm : makesIn (K w.params) C = true) (hi : findIn (K w.params) (.ref C) "__init__" = some (some (.ref fI))) (hf : isFn (K w.params) (.ref fI) = true)
    (h : ∀ x dx s', Fx B T s₀ fr mu L m (S.add x (instObj C dx)) ((dx, dictOf [] 0) :: own) s' → s.heap.get? x = none → s.heap.get? dx = none →
      codeAny (model pw w) (A.under (.builtin "type.__call__" ⟨.ref C :: pos, kw⟩)) (.call (.ref fI) ⟨.ref x :: pos, kw⟩) (fun r s'' => r = .ok (.ret .none) ∧ Q (.ref x) s'') s') :
    wpAny (model pw w) A (call (.ref C) pos kw) Q E s := by
  refine call_cls (h₀ := B) (L := L) F.toFr hB.k F.toNews hm hi hf fun x dx h' F' N' l1 l2 => ?_
  have N2 : News B L h' (((x, instObj C dx) :: (dx, dictOf [] 0) :: own) ++ Fx.oth B L own s.heap) := N'
  have hdx := fresh_lt F l1 (N' _ (.tail _ (.head _))).2.1 (N' _ (.tail _ (.head _))).2.2
  have hx := fresh_lt F (fun p hp => Nat.lt_trans (l1 p hp) l2) (N' _ (.head _)).2.1 (N' _ (.head _)).2.2
  have G := F.back (tk := s.toks) F' N2 (fun p hp => by
    rcases List.mem_cons.mp hp with rfl | hp
    · exact .inr hx
    · rcases List.mem_cons.mp hp with rfl | hp
      · exact .inr hdx
      · exact .inl (List.mem_map_of_mem hp)) (List.pairwise_cons.mpr ⟨fun p hp => by
        rcases List.mem_cons.mp hp with rfl | hp
        · exact Ne.symm (Nat.ne_of_lt l2)
        · exact Ne.symm (Nat.ne_of_lt (Nat.lt_trans (l1 p (List.mem_append_left _ hp)) l2)), List.pairwise_cons.mpr ⟨fun p hp => Ne.symm (Nat.ne_of_lt (l1 p (List.mem_append_left _ hp))), F.apart⟩⟩)
  refine codeAny_mono (h x dx _ G.freeze hx hdx) fun r s'' hr => ?_
  obtain ⟨rfl, hq⟩ := hr
  exact ⟨rfl, hq⟩
theorem mk0 {Q : Value → Shared → Prop} (hB : Hp w B) (F : Fx B T s₀ fr mu L m S own s) (hm : makesIn (K w.params) C = true) (hi : findIn (K w.params) (.ref C) "__init__" = some (some (.builtin "object.__init__")))
    (h : ∀ x dx s', Fx B T s₀ fr mu L m ((S.add x (instObj C dx)).add dx (dictOf [] 0)) own s' → s.heap.get? x = none → s.heap.get? dx = none → Q (.ref x) s') : wpAny (model pw w) A (call (.ref C) [] []) Q E s := by
  refine call_cls0 (h₀ := B) (L := L) F.toFr hB.k F.toNews hm hi fun x dx h' F' N' l1 l2 => ?_
  have N2 : News B L h' (((x, instObj C dx) :: (dx, dictOf [] 0) :: own) ++ Fx.oth B L own s.heap) := N'
  have hdx := fresh_lt F l1 (N' _ (.tail _ (.head _))).2.1 (N' _ (.tail _ (.head _))).2.2
  have hx := fresh_lt F (fun p hp => Nat.lt_trans (l1 p hp) l2) (N' _ (.head _)).2.1 (N' _ (.head _)).2.2
  have G := F.back (tk := s.toks) F' N2 (fun p hp => by
    rcases List.mem_cons.mp hp with rfl | hp
    · exact .inr hx
    · rcases List.mem_cons.mp hp with rfl | hp
      · exact .inr hdx
      · exact .inl (List.mem_map_of_mem hp)) (List.pairwise_cons.mpr ⟨fun p hp => by
        rcases List.mem_cons.mp hp with rfl | hp
        · exact Ne.symm (Nat.ne_of_lt l2)
        · exact Ne.symm (Nat.ne_of_lt (Nat.lt_trans (l1 p (List.mem_append_left _ hp)) l2)), List.pairwise_cons.mpr ⟨fun p hp => Ne.symm (Nat.ne_of_lt (l1 p (List.mem_append_left _ hp))), F.apart⟩⟩)
  exact h x dx _ G.freeze.freeze hx hdx
end
theorem Cx.make {A : Around} {fr : List Addr} {n : Nat} {C : Addr} {pos : List Value} {kw : List (Str × Value)} (x : Cx A fr (n + 1)) : Cx (A.under (.builtin "type.__call__" ⟨.ref C :: pos, kw⟩)) fr n := by
  refine ⟨x.handled, x.guards, ?_, ?_, ?_⟩
  · obtain ⟨l, h1, h2, h3⟩ := x.frames
    exact ⟨l, by simp [Around.under, Code.envs, Code.isFrame, pushEnvs, h1], h2, h3⟩
  · have := x.depth; show A.depth + 1 + n < _; omega
  · have := x.units; show A.units + 1 + 8 * n < _; omega
end DescLaw
end
section
open PySem PySem.W PyProof.Rows PySem.Calls
set_option Elab.async false
set_option maxRecDepth 100000
namespace DescLaw

/-! plain data: documents, what is found in them, paths -/
inductive Step where
  | key (k : Str)
  | idx (i : Nat)
  deriving DecidableEq
inductive Doc where
  | leaf (v : Value)
  | dict (a : Addr) (cs : List (Str × Doc))
  | list (a : Addr) (cs : List Doc)
def Doc.val : Doc → Value
  | .leaf v => v
  | .dict a _ => .ref a
  | .list a _ => .ref a
def Doc.kids : Doc → List (Step × Doc)
  | .leaf _ => []
  | .dict _ cs => cs.map fun p => (.key p.1, p.2)
  | .list _ cs => cs.zipIdx.map fun p => (.idx p.2, p.1)
structure Fnd where
  addr : List Step
  doc : Doc
def Fnd.sub (f : Fnd) (p : Step × Doc) : Fnd := ⟨f.addr ++ [p.1], p.2⟩
def Fnd.kids (f : Fnd) : List Fnd := f.doc.kids.map f.sub
/-- no node has more than three children, and none is more than n deep -/
def Fit : Nat → Doc → Prop
  | 0, d => d.kids = []
  | n + 1, d => d.kids.length ≤ 3 ∧ ∀ p ∈ d.kids, Fit n p.2
theorem Fit.succ : ∀ {n : Nat} {d : Doc}, Fit n d → Fit (n + 1) d
  | 0, d, h => by
    have h : d.kids = [] := h
    exact ⟨by rw [h]; simp, fun p hp => by rw [h] at hp; cases hp⟩
  | _ + 1, _, h => ⟨h.1, fun p hp => (h.2 p hp).succ⟩
theorem Fit.le {n k : Nat} {d : Doc} (h : Fit n d) (l : n ≤ k) : Fit k d := by
  induction l with
  | refl => exact h
  | step _ ih => exact ih.succ
theorem Fit.kid {n : Nat} {d : Doc} (h : Fit n d) {p : Step × Doc} (hp : p ∈ d.kids) : Fit n p.2 := by
  cases n with
  | zero => have h : d.kids = [] := h; rw [h] at hp; cases hp
  | succ n => exact (h.2 p hp).succ
theorem Fit.three {n : Nat} {d : Doc} (h : Fit n d) : d.kids.length ≤ 3 := by
  cases n with
  | zero => have h : d.kids = [] := h; rw [h]; simp
  | succ n => exact h.1

inductive Path where
  | root | this | wild
  | fields (ks : List Str)
  | index (i : Int)
  | slice (st sp : Int)
  | child (l r : Path)
  | union (l r : Path)
  | desc (l r : Path)

/-- a thing, what is below it, and so on, each ahead of what is in it -/
def pre : Nat → Fnd → List Fnd
  | 0, f => [f]
  | n + 1, f => f :: f.kids.flatMap (pre n)
def atKey (f : Fnd) (k : Str) : Option Fnd := match f.doc with
  | .dict _ cs => (cs.lookup k).map fun d => f.sub (.key k, d)
  | _ => none
def atIdx (f : Fnd) (i : Int) : Option Fnd := match f.doc with
  | .list _ cs => if -(cs.length : Int) ≤ i ∧ i < cs.length then (cs[(i % cs.length).toNat]?).map fun d => f.sub (.idx (i % cs.length).toNat, d) else none
  | _ => none
/-- the places that a slice of n picks -/
def places (st sp : Int) (n : Nat) : List Int :=
  let x := Builtin.Slice.sliceAdjust (some st) none sp n
  (List.range (Builtin.Range.rangeSize x.1 x.2 sp).toNat).map fun k : Nat => x.1 + (k : Int) * sp
def atSlice (f : Fnd) (st sp : Int) : List Fnd := match f.doc with
  | .list _ cs => (places st sp cs.length).filterMap fun i => (cs[i.toNat]?).map fun d => f.sub (.idx i.toNat, d)
  | _ => []
def sliceOk (st sp : Int) : Prop := (st = -1 ∨ st = 0 ∨ st = 1) ∧ (sp = 1 ∨ sp = -1 ∨ sp = 2)
theorem places_ok {st sp : Int} {n : Nat} (h : sliceOk st sp) (hn : n ≤ 3) : (places st sp n).length ≤ 3 ∧ ∀ i ∈ places st sp n, 0 ≤ i ∧ i < n := by
  obtain ⟨h1, h2⟩ := h
  have h3 : n = 0 ∨ n = 1 ∨ n = 2 ∨ n = 3 := by omega
  rcases h1 with rfl | rfl | rfl <;> rcases h2 with rfl | rfl | rfl <;> rcases h3 with rfl | rfl | rfl | rfl <;> decide
def find : Path → Fnd → List Fnd
  | .root, f => [f]
  | .this, f => [f]
  | .wild, f => f.kids
  | .fields ks, f => ks.filterMap (atKey f)
  | .index i, f => (atIdx f i).toList
  | .slice st sp, f => atSlice f st sp
  | .child l r, f => (find l f).flatMap (find r)
  | .union l r, f => find l f ++ find r f
  | .desc l r, f => (find l f).flatMap fun g => (pre 3 g).flatMap (find r)

/-! how the heap bears them -/
def isLeaf : Value → Bool
  | .int _ _ => true
  | .str _ _ => true
  | .bool _ => true
  | .none => true
  | _ => false
inductive DocAt (P : Params) (S : Sto) : Doc → Prop
  | leaf {v : Value} (h : isLeaf v = true) : DocAt P S (.leaf v)
  | dict {a : Addr} {cs : List (Str × Doc)} {es : List DictEntry} {n : Nat} (hm : (a == sysModules) = false) (ho : S a (dictOf es n)) (he : Ents P es (cs.map fun p => (p.1, p.2.val))) (nd : (cs.map (·.1)).Nodup) (hc : ∀ p ∈ cs, DocAt P S p.2) : DocAt P S (.dict a cs)
  | list {a : Addr} {cs : List Doc} {n : Nat} (ho : S a (listOf (cs.map Doc.val).toArray n)) (hc : ∀ d ∈ cs, DocAt P S d) : DocAt P S (.list a cs)
theorem DocAt.mono {P : Params} {S S' : Sto} {d : Doc} (h : DocAt P S d) (k : ∀ a o, S a o → S' a o) : DocAt P S' d := by
  induction h with
  | leaf h => exact .leaf h
  | dict hm ho he nd _ ih => exact .dict hm (k _ _ ho) he nd ih
  | list ho _ ih => exact .list (k _ _ ho) ih
theorem DocAt.kid {P : Params} {S : Sto} {d : Doc} (h : DocAt P S d) {p : Step × Doc} (hp : p ∈ d.kids) : DocAt P S p.2 := by
  cases h with
  | leaf _ => cases hp
  | dict _ _ _ _ hc => obtain ⟨q, hq, rfl⟩ := List.mem_map.mp hp; exact hc q hq
  | list _ hc =>
    obtain ⟨q, hq, rfl⟩ := List.mem_map.mp hp
    exact hc q.1 (List.fst_mem_of_mem_zipIdx hq)

/-- the values of a tuple of strs -/
inductive StrsAre : List Value → List Str → Prop
  | nil : StrsAre [] []
  | cons {x : Str} {t : Tok} {vs : List Value} {ks : List Str} : StrsAre vs ks → StrsAre (.str x t :: vs) (x :: ks)

inductive PathAt (P : Params) (S : Sto) : Value → Path → Prop
  | root {x : Addr} : Inst P S x C_Root [] → PathAt P S (.ref x) .root
  | this {x : Addr} : Inst P S x C_This [] → PathAt P S (.ref x) .this
  | wild {x : Addr} : Inst P S x C_Wildcard [] → PathAt P S (.ref x) .wild
  | fields {x ta : Addr} {vs : List Value} {ks : List Str} : Inst P S x C_Fields [("_deprecated_wildcard_use", .bool false), ("fields", .ref ta)] → S ta (tupOf vs) → StrsAre vs ks → PathAt P S (.ref x) (.fields ks)
  | index {x ta : Addr} {i : Int} {t : Tok} : Inst P S x C_Index [("indices", .ref ta)] → S ta (tupOf [.int i t]) → PathAt P S (.ref x) (.index i)
  | slice {x : Addr} {st sp : Int} {t t' : Tok} : sliceOk st sp → Inst P S x C_Slice [("_deprecated_wildcard_use", .bool false), ("start", .int st t), ("end", .none), ("step", .int sp t')] → PathAt P S (.ref x) (.slice st sp)
  | child {x : Addr} {lv rv : Value} {l r : Path} : Inst P S x C_Child [("left", lv), ("right", rv)] → PathAt P S lv l → PathAt P S rv r → PathAt P S (.ref x) (.child l r)
  | union {x : Addr} {lv rv : Value} {l r : Path} : Inst P S x C_Union [("left", lv), ("right", rv)] → PathAt P S lv l → PathAt P S rv r → PathAt P S (.ref x) (.union l r)
  | desc {x : Addr} {lv rv : Value} {l r : Path} : Inst P S x C_Descendants [("left", lv), ("right", rv)] → PathAt P S lv l → PathAt P S rv r → PathAt P S (.ref x) (.desc l r)
theorem PathAt.mono {P : Params} {S S' : Sto} {v : Value} {p : Path} (h : PathAt P S v p) (k : ∀ a o, S a o → S' a o) : PathAt P S' v p := by
  induction h with
  | root h => exact .root (h.mono k)
  | this h => exact .this (h.mono k)
  | wild h => exact .wild (h.mono k)
  | fields h t s => exact .fields (h.mono k) (k _ _ t) s
  | index h t => exact .index (h.mono k) (k _ _ t)
  | slice z h => exact .slice z (h.mono k)
  | child h _ _ i j => exact .child (h.mono k) i j
  | union h _ _ i j => exact .union (h.mono k) i j
  | desc h _ _ i j => exact .desc (h.mono k) i j

/-- the path object of a step down from a thing -/
inductive StepAt (P : Params) (S : Sto) (d : Doc) : Value → Step → Prop
  | key {x : Addr} {k : Str} {ks : List Str} : PathAt P S (.ref x) (.fields (k :: ks)) → StepAt P S d (.ref x) (.key k)
  | idx {x : Addr} {i : Int} : PathAt P S (.ref x) (.index i) → 0 < d.kids.length → (∃ a cs, d = .list a cs) → StepAt P S d (.ref x) (.idx (i % d.kids.length).toNat)
theorem StepAt.mono {P : Params} {S S' : Sto} {d : Doc} {v : Value} {st : Step} (h : StepAt P S d v st) (k : ∀ a o, S a o → S' a o) : StepAt P S' d v st := by
  cases h with
  | key h => exact .key (h.mono k)
  | idx h l r => exact .idx (h.mono k) l r

inductive DatumAt (P : Params) (S : Sto) : Value → Fnd → Prop
  | top {x : Addr} {pv : Value} {d : Doc} : Inst P S x C_DatumInContext [("_value", d.val), ("path", pv), ("context", .none)] → DocAt P S d → Fit 3 d → DatumAt P S (.ref x) ⟨[], d⟩
  | sub {x : Addr} {pv cv : Value} {f : Fnd} {p : Step × Doc} : Inst P S x C_DatumInContext [("_value", p.2.val), ("path", pv), ("context", cv)] → DatumAt P S cv f → StepAt P S f.doc pv p.1 → p ∈ f.doc.kids → DatumAt P S (.ref x) (f.sub p)
theorem DatumAt.mono {P : Params} {S S' : Sto} {v : Value} {f : Fnd} (h : DatumAt P S v f) (k : ∀ a o, S a o → S' a o) : DatumAt P S' v f := by
  induction h with
  | top h d i => exact .top (h.mono k) (d.mono k) i
  | sub h _ st m ih => exact .sub (h.mono k) ih (st.mono k) m
theorem DatumAt.doc {P : Params} {S : Sto} {v : Value} {f : Fnd} (h : DatumAt P S v f) : DocAt P S f.doc ∧ Fit 3 f.doc := by
  induction h with
  | top _ d i => exact ⟨d, i⟩
  | sub _ _ _ m ih => exact ⟨ih.1.kid m, ih.2.kid m⟩
/-- the object of a datum -/
theorem DatumAt.inst {P : Params} {S : Sto} {v : Value} {f : Fnd} (h : DatumAt P S v f) : ∃ x pv cv, v = .ref x ∧ Inst P S x C_DatumInContext [("_value", f.doc.val), ("path", pv), ("context", cv)] := by
  cases h with
  | top h _ _ => exact ⟨_, _, _, rfl, h⟩
  | sub h _ _ _ => exact ⟨_, _, _, rfl, h⟩
/-- what find is given: a datum, or the document itself (raw: the document itself alone) -/
inductive InAt (P : Params) (S : Sto) : Bool → Value → Fnd → Prop
  | dat {v : Value} {f : Fnd} : DatumAt P S v f → InAt P S false v f
  | raw {b : Bool} {a : Addr} {cs : List (Str × Doc)} : DocAt P S (.dict a cs) → Fit 3 (.dict a cs) → InAt P S b (.ref a) ⟨[], .dict a cs⟩
theorem InAt.mono {P : Params} {S S' : Sto} {b : Bool} {v : Value} {f : Fnd} (h : InAt P S b v f) (k : ∀ a o, S a o → S' a o) : InAt P S' b v f := by
  cases h with
  | dat h => exact .dat (h.mono k)
  | raw h i => exact .raw (h.mono k) i
theorem InAt.any {P : Params} {S : Sto} {b : Bool} {v : Value} {f : Fnd} (h : InAt P S b v f) : InAt P S false v f := by
  cases h with
  | dat h => exact .dat h
  | raw h i => exact .raw h i

inductive Datums (P : Params) (S : Sto) : List Value → List Fnd → Prop
  | nil : Datums P S [] []
  | cons {v : Value} {f : Fnd} {vs : List Value} {fs : List Fnd} : DatumAt P S v f → Datums P S vs fs → Datums P S (v :: vs) (f :: fs)
theorem Datums.mono {P : Params} {S S' : Sto} {vs : List Value} {fs : List Fnd} (h : Datums P S vs fs) (k : ∀ a o, S a o → S' a o) : Datums P S' vs fs := by
  induction h with
  | nil => exact .nil
  | cons h _ ih => exact .cons (h.mono k) ih
theorem Datums.append {P : Params} {S : Sto} {vs vs' : List Value} {fs fs' : List Fnd} (h : Datums P S vs fs) (h' : Datums P S vs' fs') : Datums P S (vs ++ vs') (fs ++ fs') := by
  induction h with
  | nil => exact h'
  | cons h _ ih => exact .cons h ih
theorem Datums.length {P : Params} {S : Sto} {vs : List Value} {fs : List Fnd} (h : Datums P S vs fs) : vs.length = fs.length := by
  induction h with
  | nil => rfl
  | cons _ _ ih => simp [ih]

/-! sizes -/
def cap : Path → Nat
  | .root => 1
  | .this => 1
  | .wild => 3
  | .fields ks => ks.length + 1
  | .index _ => 1
  | .slice _ _ => 3
  | .child l r => cap l * cap r
  | .union l r => cap l + cap r
  | .desc l r => cap l * (40 * cap r)
/-- the levels of calls that find wants -/
def room : Path → Nat
  | .child l r => max (room l) (room r) + 3
  | .union l r => max (room l) (room r) + 3
  | .desc l r => max (room l) (room r) + 12
  | .fields _ => 9
  | .slice _ _ => 9
  | _ => 8

theorem kids_len (f : Fnd) : f.kids.length = f.doc.kids.length := by simp [Fnd.kids]
theorem pre_len : ∀ (n : Nat) (f : Fnd), Fit 3 f.doc → (pre n f).length ≤ (match n with | 0 => 1 | 1 => 4 | 2 => 13 | 3 => 40 | _ => (pre n f).length) := by
  have kid : ∀ f : Fnd, Fit 3 f.doc → f.kids.length ≤ 3 ∧ ∀ g ∈ f.kids, Fit 3 g.doc := fun f h => ⟨by rw [kids_len]; exact h.three, fun g hg => by
    obtain ⟨p, hp, rfl⟩ := List.mem_map.mp hg
    exact h.kid hp⟩
  have fm : ∀ (l : List Fnd) (F : Fnd → List Fnd) (k : Nat), (∀ g ∈ l, (F g).length ≤ k) → (l.flatMap F).length ≤ l.length * k := by
    intro l F k h
    induction l with
    | nil => simp
    | cons a l ih =>
      have h1 := h a (.head _)
      have h2 := ih fun g hg => h g (.tail _ hg)
      simp only [List.flatMap_cons, List.length_append, List.length_cons]
      rw [Nat.add_mul]; omega
  have p0 : ∀ f, (pre 0 f).length ≤ 1 := fun f => by simp [pre]
  have p1 : ∀ f, Fit 3 f.doc → (pre 1 f).length ≤ 4 := fun f h => by
    have := fm f.kids (pre 0) 1 fun g _ => p0 g
    have := (kid f h).1
    show (f :: f.kids.flatMap (pre 0)).length ≤ 4
    rw [List.length_cons]; omega
  have p2 : ∀ f, Fit 3 f.doc → (pre 2 f).length ≤ 13 := fun f h => by
    have := fm f.kids (pre 1) 4 fun g hg => p1 g ((kid f h).2 g hg)
    have := (kid f h).1
    show (f :: f.kids.flatMap (pre 1)).length ≤ 13
    rw [List.length_cons]; omega
  have p3 : ∀ f, Fit 3 f.doc → (pre 3 f).length ≤ 40 := fun f h => by
    have := fm f.kids (pre 2) 13 fun g hg => p2 g ((kid f h).2 g hg)
    have := (kid f h).1
    show (f :: f.kids.flatMap (pre 2)).length ≤ 40
    rw [List.length_cons]; omega
  intro n f h
  match n with
  | 0 => exact p0 f
  | 1 => exact p1 f h
  | 2 => exact p2 f h
  | 3 => exact p3 f h
  | _ + 4 => exact Nat.le_refl _
theorem flat_len (l : List Fnd) (F : Fnd → List Fnd) (k : Nat) (h : ∀ g ∈ l, (F g).length ≤ k) : (l.flatMap F).length ≤ l.length * k := by
  induction l with
  | nil => simp
  | cons a l ih =>
    have h1 := h a (.head _)
    have h2 := ih fun g hg => h g (.tail _ hg)
    simp only [List.flatMap_cons, List.length_append, List.length_cons]
    rw [Nat.add_mul]; omega
theorem kid_fit {f g : Fnd} (h : Fit 3 f.doc) (hg : g ∈ f.kids) : Fit 3 g.doc := by
  obtain ⟨p, hp, rfl⟩ := List.mem_map.mp hg
  exact h.kid hp
theorem pre_fit : ∀ {n : Nat} {f g : Fnd}, Fit 3 f.doc → g ∈ pre n f → Fit 3 g.doc
  | 0, f, g, h, hg => by rw [List.mem_singleton.mp hg]; exact h
  | n + 1, f, g, h, hg => by
    rcases List.mem_cons.mp hg with rfl | hg
    · exact h
    · obtain ⟨k, hk, hg⟩ := List.mem_flatMap.mp hg
      exact pre_fit (kid_fit h hk) hg
theorem atKey_kid {f g : Fnd} {k : Str} (h : atKey f k = some g) : g ∈ f.kids := by
  unfold atKey at h
  split at h
  · rename_i a cs e
    obtain ⟨d, hd, rfl⟩ := Option.map_eq_some_iff.mp h
    have : (k, d) ∈ cs := by
      clear h e
      induction cs with
      | nil => simp at hd
      | cons p cs ih =>
        rw [List.lookup_cons] at hd
        split at hd
        · rename_i q; rw [beq_iff_eq] at q; cases hd; rw [q]; exact .head _
        · exact .tail _ (ih hd)
    exact List.mem_map_of_mem (by rw [e]; exact List.mem_map_of_mem (f := fun p : Str × Doc => (Step.key p.1, p.2)) this)
  · cases h
theorem list_kid {f : Fnd} {a : Addr} {cs : List Doc} {i : Nat} {d : Doc} (e : f.doc = .list a cs) (h : cs[i]? = some d) : f.sub (.idx i, d) ∈ f.kids := by
  have : (Step.idx i, d) ∈ f.doc.kids := by
    rw [e]
    exact List.mem_map.mpr ⟨(d, i), List.mk_mem_zipIdx_iff_getElem?.mpr h, rfl⟩
  exact List.mem_map_of_mem this
theorem atIdx_kid {f g : Fnd} {i : Int} (h : atIdx f i = some g) : g ∈ f.kids := by
  unfold atIdx at h
  split at h
  · rename_i a cs e
    split at h
    · obtain ⟨d, hd, rfl⟩ := Option.map_eq_some_iff.mp h
      exact list_kid e hd
    · cases h
  · cases h
theorem atSlice_kid {f g : Fnd} {st sp : Int} (h : g ∈ atSlice f st sp) : g ∈ f.kids := by
  unfold atSlice at h
  split at h
  · rename_i a cs e
    obtain ⟨i, _, h⟩ := List.mem_filterMap.mp h
    obtain ⟨d, hd, rfl⟩ := Option.map_eq_some_iff.mp h
    exact list_kid e hd
  · cases h
theorem find_fit : ∀ {p : Path} {f g : Fnd}, Fit 3 f.doc → g ∈ find p f → Fit 3 g.doc
  | .root, f, g, h, hg => by rw [List.mem_singleton.mp hg]; exact h
  | .this, f, g, h, hg => by rw [List.mem_singleton.mp hg]; exact h
  | .wild, f, g, h, hg => kid_fit h hg
  | .fields ks, f, g, h, hg => by
    obtain ⟨k, _, hk⟩ := List.mem_filterMap.mp hg
    exact kid_fit h (atKey_kid hk)
  | .index i, f, g, h, hg => kid_fit h (atIdx_kid (Option.mem_toList.mp hg))
  | .slice st sp, f, g, h, hg => kid_fit h (atSlice_kid hg)
  | .child l r, f, g, h, hg => by
    obtain ⟨k, hk, hg⟩ := List.mem_flatMap.mp hg
    exact find_fit (find_fit h hk) hg
  | .union l r, f, g, h, hg => by
    rcases List.mem_append.mp hg with hg | hg
    · exact find_fit h hg
    · exact find_fit h hg
  | .desc l r, f, g, h, hg => by
    obtain ⟨k, hk, hg⟩ := List.mem_flatMap.mp hg
    obtain ⟨q, hq, hg⟩ := List.mem_flatMap.mp hg
    exact find_fit (pre_fit (find_fit h hk) hq) hg
/-- the steps of a slice that the law makes -/
def good : Path → Prop
  | .slice st sp => sliceOk st sp
  | .child l r => good l ∧ good r
  | .union l r => good l ∧ good r
  | .desc l r => good l ∧ good r
  | _ => True
theorem find_len : ∀ {p : Path} {f : Fnd}, good p → Fit 3 f.doc → (find p f).length ≤ cap p
  | .root, f, _, h => by simp [find, cap]
  | .this, f, _, h => by simp [find, cap]
  | .wild, f, _, h => by show f.kids.length ≤ 3; rw [kids_len]; exact h.three
  | .fields ks, f, _, h => by
    have := List.length_filterMap_le (atKey f) ks
    simp only [find, cap]; omega
  | .index i, f, _, h => by simp only [find, cap]; cases atIdx f i <;> simp
  | .slice st sp, f, z, h => by
    show (atSlice f st sp).length ≤ 3
    unfold atSlice
    split
    · rename_i a cs e
      refine Nat.le_trans (List.length_filterMap_le _ _) (places_ok z ?_).1
      have := h.three
      rw [e] at this
      simpa [Doc.kids] using this
    · exact Nat.zero_le _
  | .child l r, f, z, h => by
    refine Nat.le_trans (flat_len _ _ (cap r) fun g hg => find_len z.2 (find_fit h hg)) ?_
    exact Nat.mul_le_mul_right _ (find_len z.1 h)
  | .union l r, f, z, h => by
    have := find_len z.1 h
    have := find_len z.2 h
    simp only [find, cap, List.length_append]; omega
  | .desc l r, f, z, h => by
    refine Nat.le_trans (flat_len _ _ (40 * cap r) fun g hg => ?_) (Nat.mul_le_mul_right _ (find_len z.1 h))
    refine Nat.le_trans (flat_len _ _ (cap r) fun q hq => find_len z.2 (pre_fit (find_fit h hg) hq)) ?_
    exact Nat.mul_le_mul_right _ (pre_len 3 g (find_fit h hg))
theorem PathAt.good {P : Params} {S : Sto} {v : Value} {p : Path} (h : PathAt P S v p) : DescLaw.good p := by
  induction h with
  | slice z => exact z
  | child _ _ _ i j => exact ⟨i, j⟩
  | union _ _ _ i j => exact ⟨i, j⟩
  | desc _ _ _ i j => exact ⟨i, j⟩
  | _ => trivial
theorem InAt.fit {P : Params} {S : Sto} {b : Bool} {v : Value} {f : Fnd} (h : InAt P S b v f) : Fit 3 f.doc := by
  cases h with
  | dat h => exact h.doc.2
  | raw _ h => exact h
theorem Datums.get {P : Params} {S : Sto} {vs : List Value} {fs : List Fnd} (h : Datums P S vs fs) {i : Nat} {v : Value} (e : vs[i]? = some v) : ∃ f, fs[i]? = some f ∧ DatumAt P S v f := by
  induction h generalizing i with
  | nil => cases e
  | @cons v' f vs fs h _ ih =>
    cases i with
    | zero => cases e; exact ⟨f, rfl, h⟩
    | succ i => exact ih e

/-- what a call has brought about -/
structure Out (fr mu : List Addr) (S : Sto) (s : Shared) (S' : Sto) (s' : Shared) : Prop where
  grow : Grow fr mu s s'
  has : Has S' fr s'
  sub : ∀ a o, S a o → S' a o
  new : ∀ a o, S' a o → S a o ∨ s.heap.get? a = none
theorem Out.refl {fr mu : List Addr} {S : Sto} {s : Shared} (h : Has S fr s) : Out fr mu S s S s := ⟨.refl _ _ _, h, fun _ _ h => h, fun _ _ h => .inl h⟩
/-- the end of a def's body: from its state to what the call has brought about -/
theorem Fx.out {B : Heap} {s₀ s : Shared} {fr mu : List Addr} {L : Addr} {m : Str → Option Value} {T S : Sto} {own : List (Addr × Obj)} (x : Fx B T s₀ fr mu L m S own s) (hm : ∀ a ∈ mu, a ∈ own.map (·.1)) : Out fr mu T s₀ S s :=
  ⟨x.grow, fun a o e => ⟨(x.has a o e).1, fun q => (x.has a o e).2 (.tail _ q)⟩, x.sub, fun a o h => (x.nw a o h).imp id fun q => q.elim id fun q => by
    obtain ⟨p, hp, rfl⟩ := List.mem_map.mp (hm a q)
    exact absurd h ((x.mine p hp).2.2.2 o)⟩
theorem Fx.out0 {B : Heap} {s₀ s : Shared} {fr : List Addr} {L : Addr} {m : Str → Option Value} {T S : Sto} {own : List (Addr × Obj)} (x : Fx B T s₀ fr [] L m S own s) : Out fr [] T s₀ S s := x.out fun _ h => nomatch h
/-- a call within a body -/
theorem Fx.call {B : Heap} {s₀ s s' : Shared} {fr mu : List Addr} {L : Addr} {m : Str → Option Value} {T S S' : Sto} {own : List (Addr × Obj)} (x : Fx B T s₀ fr mu L m S own s) (o : Out (L :: fr) [] S s S' s') : Fx B T s₀ fr mu L m S' own s' := x.step o.grow o.has o.sub o.new
theorem Fx.callM {B : Heap} {s₀ s s' : Shared} {fr mu : List Addr} {L a : Addr} {o o' : Obj} {m : Str → Option Value} {T S S' : Sto} {own : List (Addr × Obj)} (x : Fx B T s₀ fr mu L m S ((a, o) :: own) s) (y : Out (L :: fr) [a] S s S' s') (e : s'.heap.get? a = some o') : Fx B T s₀ fr mu L m S' ((a, o') :: own) s' := x.stepM y.grow e y.has y.sub y.new

/-- where the root may stand: at the left end alone, and there the document itself is given (true) -/
def ok : Bool → Path → Bool
  | b, .root => b
  | b, .child l r => ok b l && ok false r
  | b, .desc l r => ok b l && ok false r
  | b, .union l r => ok b l && ok b r
  | _, _ => true
def findOf : Path → Addr
  | .root => f_Root_find
  | .this => f_This_find
  | .wild => f_Wildcard_find
  | .fields _ => f_Fields_find
  | .index _ => f_Index_find
  | .slice _ _ => f_Slice_find
  | .child _ _ => f_Child_find
  | .union _ _ => f__Union_find
  | .desc _ _ => f_Descendants_find
/-- what find does -/
def FindSpec (w : World) (B : Heap) (p : Path) : Prop :=
  ∀ {A : Around} {fr : List Addr} {s : Shared} {S : Sto} {self v : Value} {b : Bool} {f : Fnd} {E : Value → Shared → Prop} {Q : Value → Shared → Prop}, Cx A fr (room p) → St B fr s → Has S fr s → PathAt w.params S self p → InAt w.params S b v f → ok b p = true → cap p ≤ 1000000 →
    (∀ r s' S' vs n, Out fr [] S s S' s' → S' r (listOf vs.toArray n) → Datums w.params S' vs (find p f) → Q (.ref r) s') → wpAny (model pw w) A (PySem.call (.ref (findOf p)) [self, v]) Q E s
end DescLaw
end
section
open PySem PySem.W PyProof.Rows PySem.Calls
set_option Elab.async false
set_option maxRecDepth 100000
namespace DescLaw

/-- the state of the draws: a list of the script's copy and a count -/
def isSt (o : Obj) (sc : Addr) (k : Int) : Prop := o.cls = .type "list" ∧ ∃ n tk, o.data = .seq #[.ref sc, .int k tk] n
theorem isSt.list {h : Heap} {sp sc : Addr} {o : Obj} {k : Int} (x : isSt o sc k) (e : h.get? sp = some o) : ∃ tk, h.IsList sp #[.ref sc, .int k tk] := let ⟨c, n, tk, d⟩ := x; ⟨tk, o, e, c, n, d⟩

def draw (ns : List Int) (k : Nat) (lim : Int) : Int := match ns[k]? with | some x => x.fmod lim | none => 0

section
variable {w : World} {B : Heap} {A : Around} {fr : List Addr} {s : Shared} {S : Sto} {E : Value → Shared → Prop}
theorem law_next {sp sc : Addr} {o : Obj} {vs : List Value} {ns : List Int} {k : Nat} {lim : Int} {tl : Tok} {Q : Value → Shared → Prop} (hB : Hp w B) (C : Cx A fr 1) (st : St B fr s) (H : Has S fr s)
    (ho : s.heap.get? sp = some o) (hst : isSt o sc k) (hsp : sp ∉ fr) (hspB : B.get? sp = none) (hspS : ∀ o, ¬ S sp o) {osc : Obj} (hsc : S sc osc) (hscc : osc.cls = .type "list") {n : Nat} (hscd : osc.data = .seq vs.toArray n) (hv : IntsAre vs ns) (hns : ns.length ≤ 20) (hk : k ≤ 1000) (hl : lim ≠ 0)
    (h : ∀ t s' o', Out fr [sp] S s S s' → s'.heap.get? sp = some o' → isSt o' sc (k + 1 : Nat) → Q (.int (draw ns k lim) t) s') :
    wpAny (model pw w) A (call (.ref f__law_next) [.ref sp, .int lim tl]) Q E s := by
  refine wpAny_call ?_
  refine enter (own := [(sp, o)]) (mu := [sp]) (S := S) (binds := [(Str.ofString "state", .ref sp), (Str.ofString "limit", .int lim tl)]) (.one ho hsp hspB hspS) hB C st H (by rfl) (by kernel_rfl) (BindsTo.of_eq rfl) (by decide) (locs rfl) (fun L h₁ tk F C' => ?_) rfl rfl rfl
  obtain ⟨hc0, n0, tk0, hd0⟩ := id hst
  -- state[1] += 1
  refine wpAny_execs_cons (wpAny_AugAssign_SubscriptAny (nm F rfl (cint F fun _ s₁ F => ?_)))
  refine wpAny_getItem_list (x := .int k tk0) ⟨o, (F.mine _ (.head _)).1, hc0, n0, hd0⟩ (by decide) (by decide) rfl (cint F fun _ s₂ F => iaddI F fun _ s₃ F => ?_)
  refine setL F ⟨o, (F.mine _ (.head _)).1, hc0, n0, hd0⟩ (by decide) (by decide) (by show (1 : Int) < 2; decide) fun s₄ o2 F hl2 hc2 hd2 => ?_
  obtain ⟨n2, hd2⟩ := hd2
  have hst2 : isSt o2 sc (k + 1 : Nat) := ⟨hc2, n2, _, hd2⟩
  clear hd0 hl2
  obtain ⟨hc0, n0, tk0, hd0⟩ := id hst2
  -- if state[1] > len(state[0])
  refine wpAny_execs_cons (wpAny_If (wpAny_isTrue_Compare1 (Subscript_ (nm F rfl (cint F fun _ s₅ F => itemL (v := .int (k + 1 : Nat) tk0) ⟨o2, (F.mine _ (.head _)).1, hc0, n0, hd0⟩ (by decide) (by decide) rfl ?_)))))
  refine cb (hB.at F.st) (kn_len _) bn_len (spliced_more (Subscript_ (nm F rfl (cint F fun _ s₆ F => itemL (v := .ref sc) ⟨o2, (F.mine _ (.head _)).1, hc0, n0, hd0⟩ (by decide) (by decide) rfl ?_))))
  refine spliced_none (lenL F ⟨osc, F.has.get hsc, hscc, n, hscd⟩ (by simp only [List.size_toArray, hv.length]; omega) fun _ s₇ F => gt_int (wpAny_truthy_bool ?_))
  simp only [List.size_toArray, hv.length]
  split
  · rename_i hlt
    have hlt := of_decide_eq_true hlt
    refine wpAny_execs_cons (wpAny_Return_some (cint F fun _ s₈ F => ?_))
    have e : draw ns k lim = 0 := by unfold draw; rw [List.getElem?_eq_none (by omega)]
    exact e ▸ h _ _ _ (F.out (by simp)) (F.mine _ (.head _)).1 hst2
  · rename_i hlt
    have hlt : k < ns.length := by simp only [decide_eq_true_eq] at hlt; omega
    refine wpAny_execs_nil (wpAny_execs_cons (wpAny_Return_some (wpAny_BinOp (Subscript_ (Subscript_ (nm F rfl (cint F fun _ s₈ F => itemL (v := .ref sc) ⟨o2, (F.mine _ (.head _)).1, hc0, n0, hd0⟩ (by decide) (by decide) rfl ?_)))))))
    refine wpAny_BinOp (Subscript_ (nm F rfl (cint F fun _ s₉ F => itemL (v := .int (k + 1 : Nat) tk0) ⟨o2, (F.mine _ (.head _)).1, hc0, n0, hd0⟩ (by decide) (by decide) rfl (cint F fun _ s₁₀ F => subI F fun _ s₁₁ F => ?_))))
    obtain ⟨tx, hx⟩ := hv.get k ns[k] (by simp [hlt])
    refine itemL (v := .int ns[k] tx) ⟨osc, F.has.get hsc, hscc, n, hscd⟩ (by omega) (by omega) (by rw [show ((k + 1 : Nat) - 1 : Int).toNat = k by omega]; simpa using hx) ?_
    refine nm F rfl (modI F hl fun _ s₁₂ F => ?_)
    have e : draw ns k lim = ns[k].fmod lim := by unfold draw; rw [List.getElem?_eq_getElem hlt]
    exact e ▸ h _ _ _ (F.out (by simp)) (F.mine _ (.head _)).1 hst2
end
end DescLaw
end
section
open PySem PySem.W PyProof.Rows PySem.Calls
set_option Elab.async false
set_option maxRecDepth 100000
namespace DescLaw

def Kd (P : Params) (S : Sto) (x t : Value) : Prop := x ≠ .builtin "__main__.__loader__#opaque" ∧ ∃ H, KitX (K P) x t H ∧ ∀ fr s, Has S fr s → H s.heap
/-- what an own class must be for isinstance -/
def ownOk (P : Params) (C : Addr) : Bool := plainGet (K P) C "__class__" && hasDictIn (K P) C && findIn (K P) (.ref C) "__class__" == some (some (.builtin "object.__class__")) && specialIn (K P) (.builtin "object.__class__") "__get__" == some (some (.builtin "getset_descriptor.__get__")) && takesIn (K P) (.builtin "object.__class__") == some true && mroIn (K P) C (.type "object") == some true
theorem Kd.own {P : Params} {S : Sto} {x C : Addr} {l : List (Str × Value)} (I : Inst P S x C l) (h : ownOk P C = true) : Kd P S (.ref x) (.ref C) := by
  obtain ⟨dx, es, n, as, a, b, c⟩ := I
  unfold ownOk at h
  simp only [Bool.and_eq_true, beq_iff_eq] at h
  obtain ⟨⟨⟨⟨⟨h1, h2⟩, h3⟩, h4⟩, h5⟩, h6⟩ := h
  exact ⟨(fun e => by cases e), _, kitx_own (ox := instObj C dx) (od := dictOf es n) h1 h2 h3 h4 h5 h6, fun fr s H => ⟨H.get a, rfl, rfl, H.get b⟩⟩
theorem Kd.int {P : Params} {S : Sto} {n : Int} {u : Tok} : Kd P S (.int n u) (.type "int") := ⟨(fun e => by cases e), _, kitx_int, fun _ _ _ => trivial⟩
theorem Kd.str {P : Params} {S : Sto} {n : Str} {u : Tok} : Kd P S (.str n u) (.type "str") := ⟨(fun e => by cases e), _, kitx_str, fun _ _ _ => trivial⟩
theorem Kd.bool {P : Params} {S : Sto} {n : Bool} : Kd P S (.bool n) (.type "bool") := ⟨(fun e => by cases e), _, kitx_bool, fun _ _ _ => trivial⟩
theorem Kd.none {P : Params} {S : Sto} : Kd P S .none (.type "NoneType") := ⟨(fun e => by cases e), _, kitx_none, fun _ _ _ => trivial⟩
theorem Kd.list {P : Params} {S : Sto} {a : Addr} {o : Obj} (h : S a o) (hc : o.cls = .type "list") : Kd P S (.ref a) (.type "list") := ⟨(fun e => by cases e), _, kitx_list, fun _ _ H => ⟨_, H.get h, hc⟩⟩
theorem Kd.dict {P : Params} {S : Sto} {a : Addr} {o : Obj} (h : S a o) (hc : o.cls = .type "dict") : Kd P S (.ref a) (.type "dict") := ⟨(fun e => by cases e), _, kitx_dict, fun _ _ H => ⟨_, H.get h, hc⟩⟩
/-- the type of a document -/
def Doc.ty : Doc → String
  | .leaf (.int _ _) => "int"
  | .leaf (.str _ _) => "str"
  | .leaf (.bool _) => "bool"
  | .leaf _ => "NoneType"
  | .dict _ _ => "dict"
  | .list _ _ => "list"
theorem Kd.doc {P : Params} {S : Sto} {d : Doc} (h : DocAt P S d) : Kd P S d.val (.type d.ty) := by
  cases h with
  | @leaf v h => cases v <;> first | exact Kd.int | exact Kd.str | exact Kd.bool | exact Kd.none | (simp [isLeaf] at h)
  | dict _ ho => exact Kd.dict ho rfl
  | list ho => exact Kd.list ho rfl

theorem bn_isi : bootBuiltins (Str.ofString "isinstance") = some (.builtin "isinstance") := by decide +kernel
theorem bn_list : bootBuiltins (Str.ofString "list") = some (.type "list") := by decide +kernel
theorem bn_tuple : bootBuiltins (Str.ofString "tuple") = some (.type "tuple") := by decide +kernel
theorem bn_dict : bootBuiltins (Str.ofString "dict") = some (.type "dict") := by decide +kernel
theorem bn_int : bootBuiltins (Str.ofString "int") = some (.type "int") := by decide +kernel
theorem kn_isi (P : Params) : nsIn (K P) mainGlobals (Str.ofString "isinstance") = some none := by kernel_rfl
theorem kn_list (P : Params) : nsIn (K P) mainGlobals (Str.ofString "list") = some none := by kernel_rfl
theorem kn_tuple (P : Params) : nsIn (K P) mainGlobals (Str.ofString "tuple") = some none := by kernel_rfl
theorem kn_dict (P : Params) : nsIn (K P) mainGlobals (Str.ofString "dict") = some none := by kernel_rfl
theorem kn_int (P : Params) : nsIn (K P) mainGlobals (Str.ofString "int") = some none := by kernel_rfl

section
variable {w : World} {A : Around} {E : Value → Shared → Prop} {B : Heap} {fr mu : List Addr} {s₀ s : Shared} {L : Addr} {m : Str → Option Value} {T S : Sto} {own : List (Addr × Obj)} {v x t c : Value} {b : Bool} {Q : Value → Shared → Prop}
theorem isi1 (hB : Hp w B) (F : Fx B T s₀ fr mu L m S own s) (k : Kd w.params S x t) (e : kitOne (K w.params) t c = some b) (h : ∀ s', Fx B T s₀ fr mu L m S own s' → Q (.bool b) s') : wpAny (model pw w) A (call (.builtin "isinstance") [x, c]) Q E s := by
  obtain ⟨nb, H, k, hh⟩ := k
  exact kia_one k (hB.at F.st).k (hh _ _ F.has) e nb fun tk => h _ F.toks
theorem isiT {tp : Addr} {its : List Value} (hB : Hp w B) (F : Fx B T s₀ fr mu L m S own s) (k : Kd w.params S x t) (ht : s.heap.get? tp = some (tupOf its)) (e : kitAny (K w.params) t its = some b) (h : ∀ s', Fx B T s₀ fr mu L m S own s' → Q (.bool b) s') : wpAny (model pw w) A (call (.builtin "isinstance") [x, .ref tp]) Q E s := by
  obtain ⟨nb, H, k, hh⟩ := k
  exact kia_tup k (hB.at F.st).k (hh _ _ F.has) ht e nb fun tk => h _ F.toks

/-- a class or def of the text's is called by its name -/
theorem cf {M : Model} {env : Env} {y : Str} {pos p : Pos} {f : Addr} {e : Expr} {rest : List Expr} (hp : Hp w s.heap) (e1 : nsIn (K w.params) mainGlobals y = some (some (.ref f))) (hk : keepIn (K w.params) (.ref f) = true)
    (h : wpAny M A (spliced (backTo pos (starEach (e :: rest) env))) (fun vs s₁ => (K w.params).In s₁.heap ∧ wpAny M A (call (.ref f) vs) Q E s₁) E s)
    (hg : env.globals = mainGlobals := by rfl) (hkd : env.scope.kind = .function := by rfl)
    (hx : env.kindOf y = some .globalImplicit := by rfl) (hd : (y == ("__debug__" : Str)) = false := by decide)
    (he : starEach (e :: rest) env = (false, eval e env) :: starEach rest env := by rfl) (hplain : (backTo pos (starEach rest env)).any (·.1) = false := by rfl) : wpAny M A (eval (.Call (.Name y p) (e :: rest) [] pos) env) Q E s :=
  wpAny_Call_Name_kw (gl hp e1 (callWith_K hp.k hk h he hplain) hg hkd hx hd)
theorem cf0 {M : Model} {env : Env} {y : Str} {pos p : Pos} {f : Addr} (hp : Hp w s.heap) (e1 : nsIn (K w.params) mainGlobals y = some (some (.ref f))) (hk : keepIn (K w.params) (.ref f) = true)
    (h : wpAny M A (call (.ref f) []) Q E s)
    (hg : env.globals = mainGlobals := by rfl) (hkd : env.scope.kind = .function := by rfl)
    (hx : env.kindOf y = some .globalImplicit := by rfl) (hd : (y == ("__debug__" : Str)) = false := by decide) : wpAny M A (eval (.Call (.Name y p) [] [] pos) env) Q E s :=
  wpAny_Call_Name_kw (gl hp e1 (callWith_K0 hp.k hk h) hg hkd hx hd)
theorem cfK {M : Model} {env : Env} {y : Str} {pos p : Pos} {f : Addr} {e : Expr} {rest : List Expr} {kws : List Keyword} (hp : Hp w s.heap) (e1 : nsIn (K w.params) mainGlobals y = some (some (.ref f))) (hk : keepIn (K w.params) (.ref f) = true)
    (h : wpAny M A (spliced (backTo pos (starEach (e :: rest) env))) (fun vs s₁ => wpAny M A (evalAll ((backToKw pos (keywordEach kws env)).map (·.2)))
      (fun ks s₂ => (K w.params).In s₂.heap ∧ wpAny M A (call (.ref f) vs (((backToKw pos (keywordEach kws env)).filterMap (·.1)).zip ks)) Q E s₂) E s₁) E s)
    (hg : env.globals = mainGlobals := by rfl) (hkd : env.scope.kind = .function := by rfl)
    (hx : env.kindOf y = some .globalImplicit := by rfl) (hd : (y == ("__debug__" : Str)) = false := by decide)
    (he : starEach (e :: rest) env = (false, eval e env) :: starEach rest env := by rfl)
    (hall : (backToKw pos (keywordEach kws env)).all (·.1.isSome) = true := by rfl)
    (hplain : ((backTo pos (starEach (e :: rest) env)).any (·.1) || (backToKw pos (keywordEach kws env)).any (·.1.isNone)) = false := by rfl) : wpAny M A (eval (.Call (.Name y p) (e :: rest) kws pos) env) Q E s :=
  wpAny_Call_Name_kw (gl hp e1 (callWith_KW hp.k hk hall h hplain he) hg hkd hx hd)
end

/-! DatumInContext -/
def truthOk (P : Params) (C : Addr) : Bool := findIn (K P) (.ref C) "__bool__" == some none && findIn (K P) (.ref C) "__len__" == some none
theorem dat_ownOk (P : Params) : ownOk P C_DatumInContext = true := by kernel_rfl
theorem kn_Dat (P : Params) : nsIn (K P) mainGlobals (Str.ofString "DatumInContext") = some (some (.ref C_DatumInContext)) := by kernel_rfl
theorem kn_This (P : Params) : nsIn (K P) mainGlobals (Str.ofString "This") = some (some (.ref C_This)) := by kernel_rfl
theorem kp_Dat (P : Params) : keepIn (K P) (.ref C_DatumInContext) = true := by kernel_rfl
theorem kp_This (P : Params) : keepIn (K P) (.ref C_This) = true := by kernel_rfl

section
variable {w : World} {B : Heap} {A : Around} {fr : List Addr} {s : Shared} {S : Sto}
theorem dat_init {R : Result → Shared → Prop} {x dx : Addr} {v p c : Value} {kw : List (Str × Value)} (hB : Hp w B) (C : Cx A fr 2) (st : St B fr s) (H : Has S fr s) (hx : S x (instObj C_DatumInContext dx))
    (ho : s.heap.get? dx = some (dictOf [] 0)) (hf : dx ∉ fr) (hb : B.get? dx = none) (hn : ∀ o, ¬ S dx o)
    (ha : kw = [(Str.ofString "path", p), (Str.ofString "context", c)] ∨ kw = [(Str.ofString "context", c), (Str.ofString "path", p)] ∨ (kw = [] ∧ p = .none ∧ c = .none))
    (hp : p = .none ∨ ∃ q D l, p = .ref q ∧ Inst w.params S q D l ∧ truthOk w.params D = true) (hc : c = .none ∨ ∃ q l, c = .ref q ∧ Inst w.params S q C_DatumInContext l)
    (h : ∀ s' S' es n as pv, Out fr [dx] S s S' s' → s'.heap.get? dx = some (dictOf es n) → (∀ o, ¬ S' dx o) → Ents w.params es as → (∀ k, as.lookup k = [(Str.ofString "_value", v), (Str.ofString "path", pv), (Str.ofString "context", c)].lookup k) → (p ≠ .none → pv = p) → R (.ok (.ret .none)) s') :
    codeAny (model pw w) A (.call (.ref f_DatumInContext__init_) ⟨[.ref x, v], kw⟩) R s := by
  refine enter (n := 1) (own := [(dx, dictOf [] 0)]) (mu := [dx]) (S := S) (binds := [(Str.ofString "self", .ref x), (Str.ofString "value", v), (Str.ofString "path", p), (Str.ofString "context", c)]) (.one ho hf hb hn) hB C st H (by rfl) (by kernel_rfl) ?bd (by decide) (locs rfl) (fun L h₁ tk F C' => ?_) rfl rfl rfl
  case bd => 
    rcases ha with rfl | rfl | ⟨rfl, rfl, rfl⟩ <;> exact binds_K (hB.at st).k rfl rfl rfl rfl rfl
  refine wpAny_execs_cons (plainObj_wpAny_Assign_Attribute (nm F rfl (nm F rfl (setA hB F hx .nil (by kernel_rfl) (by kernel_rfl) (by kernel_rfl) (by kernel_rfl) (by decide) fun s₁ es1 n1 as1 F X1 l1 z1 => ?_))))
  -- path or This()
  refine wpAny_execs_cons (plainObj_wpAny_Assign_Attribute (wpAny_mono (Q := fun pv s₂ => ∃ S₂, Fx B S s fr [dx] L (fun y => [(Str.ofString "self", Value.ref x), (Str.ofString "value", v), (Str.ofString "path", p), (Str.ofString "context", c)].reverse.lookup y) S₂ [(dx, dictOf es1 n1)] s₂ ∧ (p ≠ .none → pv = p)) (BoolOp_or (nm F rfl ?_)) ?_ fun _ _ x => x))
  · rcases hp with rfl | ⟨q, D, l, rfl, I, ht⟩
    · refine truthy_none ?_
      rw [if_neg (by decide)]
      refine BoolOp_one (cf0 (hB.at F.st) (kn_This _) (kp_This _) (mk0 hB F (by kernel_rfl) (by kernel_rfl) fun y dy s₂ F _ _ => ⟨_, F, fun e => absurd rfl e⟩))
    · obtain ⟨dq, es, n, J, _⟩ := I.at F.has
      simp only [truthOk, Bool.and_eq_true, beq_iff_eq] at ht
      refine truthy_K0 (h₀ := B) (L := L) F.toFr hB.k J ht.1 ht.2 ?_
      rw [if_pos rfl]
      exact ⟨_, F, fun _ => rfl⟩
  rintro pv s₂ ⟨S₂, F, hpv⟩
  refine nm F rfl (setA hB F (F.sub _ _ hx) X1 (by kernel_rfl) (by kernel_rfl) (by kernel_rfl) (by kernel_rfl) (by have : as1.length ≤ 1 := z1; omega) fun s₃ es2 n2 as2 F X2 l2 z2 => ?_)
  -- context
  refine wpAny_execs_cons (wpAny_If (isTrue_and (wpAny_isTrue_Compare1 (nm F rfl (wpAny_Constant_none (isNot_none (wpAny_truthy_bool ?_)))))))
  have fin : ∀ s₄, Fx B S s fr [dx] L (fun y => [(Str.ofString "self", Value.ref x), (Str.ofString "value", v), (Str.ofString "path", p), (Str.ofString "context", c)].reverse.lookup y) S₂ [(dx, dictOf es2 n2)] s₄ →
      wpAny (model pw w) (A.deeper (envX (Str.ofString "DatumInContext.__init__") (defScope (methAt 8 1)) L f_DatumInContext__init_ (Value.ref 171) [])) (execs (((defBody (methAt 8 1)).drop 3)) (envX (Str.ofString "DatumInContext.__init__") (defScope (methAt 8 1)) L f_DatumInContext__init_ (Value.ref 171) []))
      (fun fl s' => R (.ok (.ret (match fl with | .ret v => v | _ => .none))) s') (fun _ _ => False) s₄ := fun s₄ F => by
    refine wpAny_execs_cons (plainObj_wpAny_Assign_Attribute (nm F rfl (nm F rfl (setA hB F (F.sub _ _ hx) X2 (by kernel_rfl) (by kernel_rfl) (by kernel_rfl) (by kernel_rfl) (by have : as1.length ≤ 1 := z1; omega) fun s₅ es3 n3 as3 F X3 l3 z3 => ?_))))
    refine wpAny_execs_nil (h _ _ _ _ _ pv (F.out (by simp)) (F.mine _ (.head _)).1 (F.mine _ (.head _)).2.2.2 X3 (fun k => (?_ : _ = _)) hpv)
    rw [l3, l2, l1]
    simp only [List.lookup_cons, List.lookup_nil]
    by_cases k1 : k = Str.ofString "context"
    · subst k1; rfl
    · by_cases k2 : k = Str.ofString "path"
      · subst k2; rfl
      · by_cases k3 : k = Str.ofString "_value"
        · subst k3; rfl
        · simp [k1, k2, k3, beq_eq_false_iff_ne.mpr]
  rcases hc with rfl | ⟨q, l, rfl, I⟩
  · rw [if_neg (by decide), if_neg (by decide)]
    exact wpAny_execs_nil (fin _ F)
  · rw [if_pos (show (!(Value.ref q == Value.none)) = true from rfl)]
    refine isTrue_and (isTrue_not (isTrue_plain (cb (hB.at F.st) (kn_isi _) bn_isi (spliced_more (nm F rfl (spliced_more (gl (hB.at F.st) (kn_Dat _) (spliced_none (isi1 hB F (Kd.own (I.mono F.sub) (dat_ownOk _)) (b := true) (by kernel_rfl) fun s₄ F => wpAny_truthy_bool ?_)))))))))
    rw [if_neg (by decide), if_neg (by decide)]
    exact wpAny_execs_nil (fin _ F)
end
section
variable {w : World} {A : Around} {E : Value → Shared → Prop} {B : Heap} {fr mu : List Addr} {s₀ s : Shared} {L : Addr} {m : Str → Option Value} {T S : Sto} {own : List (Addr × Obj)} {v x t c p : Value} {b : Bool} {n : Nat} {Q : Value → Shared → Prop} {kw : List (Str × Value)}
/-- DatumInContext(v, ...) -/
theorem dat (hB : Hp w B) (C : Cx A (L :: fr) (n + 3)) (F : Fx B T s₀ fr mu L m S own s)
    (ha : kw = [(Str.ofString "path", p), (Str.ofString "context", c)] ∨ kw = [(Str.ofString "context", c), (Str.ofString "path", p)] ∨ (kw = [] ∧ p = .none ∧ c = .none))
    (hp : p = .none ∨ ∃ q D l, p = .ref q ∧ Inst w.params S q D l ∧ truthOk w.params D = true) (hc : c = .none ∨ ∃ q l, c = .ref q ∧ Inst w.params S q C_DatumInContext l)
    (h : ∀ x s' S' pv, Fx B T s₀ fr mu L m S' own s' → (∀ a o, S a o → S' a o) → Inst w.params S' x C_DatumInContext [(Str.ofString "_value", v), (Str.ofString "path", pv), (Str.ofString "context", c)] → (p ≠ .none → pv = p) → Q (.ref x) s') :
    wpAny (model pw w) A (call (.ref C_DatumInContext) [v] kw) Q E s := by
  refine mk hB F (by kernel_rfl) (fI := f_DatumInContext__init_) (by kernel_rfl) (by kernel_rfl) fun x dx s₁ F hx hdx => ?_
  have M : ∀ a o, S a o → S.add x (instObj C_DatumInContext dx) a o := fun _ _ h => .inl h
  obtain ⟨h1, h2, h3, h4⟩ := F.mine _ (.head _)
  refine dat_init hB (C.le (k := 3) (by omega)).make F.st F.has (S.add_here _ _) h1 h2 (F.bnone (.head _)) h4 ha (hp.imp id fun ⟨q, D, l, e, I, z⟩ => ⟨q, D, l, e, I.mono M, z⟩) (hc.imp id fun ⟨q, l, e, I⟩ => ⟨q, l, e, I.mono M⟩) fun s' S' es k as pv O e hn X hl hpv => ⟨rfl, ?_⟩
  have F := (F.callM O e).freeze
  exact h x s' _ pv F (fun a o q => .inl (O.sub _ _ (M _ _ q))) ⟨dx, es, k, as, .inl (O.sub _ _ (S.add_here _ _)), .inr ⟨rfl, rfl⟩, X, hl⟩ hpv
/-- x.value -/
theorem valueA {expr : Bool} {x : Addr} {pv cv : Value} (hB : Hp w B) (C : Cx A (L :: fr) (n + 2)) (F : Fx B T s₀ fr mu L m S own s) (I : Inst w.params S x C_DatumInContext [(Str.ofString "_value", v), (Str.ofString "path", pv), (Str.ofString "context", cv)]) (hv : handedIn v = true)
    (h : ∀ s', Fx B T s₀ fr mu L m S own s' → Q v s') : wpAny (model pw w) A (getAttr (.ref x) (Str.ofString "value") expr) Q E s := by
  refine getP hB F I (by kernel_rfl) (by kernel_rfl) (p := 180) (by kernel_rfl) (by kernel_rfl) (by kernel_rfl) (fget := f_DatumInContext_value) (by rfl) fun s₁ F => ?_
  refine enter (n := 0) (own := []) (mu := []) (S := S) (binds := [(Str.ofString "self", .ref x)]) .nil hB (C.le (k := 2) (by omega)).in1 F.st F.has (by rfl) (by kernel_rfl) (BindsTo.of_eq rfl) (by decide) (locs rfl) (fun L₂ h₁ tk F₂ C' => ?_) rfl rfl rfl
  refine wpAny_execs_cons (wpAny_Return_some (Attribute_name (nm F₂ rfl (getA hB F₂ I rfl (by kernel_rfl) (by kernel_rfl) (attr := none) (by kernel_rfl) (by kernel_rfl) hv fun s₂ F₂ => ?_))))
  exact ⟨v, rfl, hv, h s₂ (F.call F₂.out0)⟩
end
end DescLaw
end
section
open PySem PySem.W PyProof.Rows PySem.Calls
set_option Elab.async false
set_option maxRecDepth 100000
namespace DescLaw

/-- an object that is a namespace -/
def NsO (o : Obj) (m : Str → Option Value) : Prop := ∃ es ep, o.data = .dict es ep ∧ StrKeys es ∧ ∀ name, nsFind es name = m name
theorem NsO.at {o : Obj} {m : Str → Option Value} {h : Heap} {a : Addr} (x : NsO o m) (e : h.get? a = some o) : h.Ns a m := let ⟨es, ep, d, r⟩ := x; ⟨o, es, ep, e, d, r⟩
theorem NsO.of {h : Heap} {a : Addr} {m : Str → Option Value} (x : h.Ns a m) : ∃ o, h.get? a = some o ∧ NsO o m := let ⟨o, es, ep, e, d, r⟩ := x; ⟨o, e, es, ep, d, r⟩

section
variable {w : World} {A : Around} {E : Value → Shared → Prop} {B : Heap} {fr mu : List Addr} {s₀ s : Shared} {L : Addr} {m : Str → Option Value} {T S : Sto} {own : List (Addr × Obj)}

theorem Fx.lose {a : Addr} {o : Obj} {h' : Heap} {tk : Nat} (x : Fx B T s₀ fr mu L m S ((a, o) :: own) s) (hs : Heap.ExtBut a s.heap h') : Fx B T s₀ fr mu L m S own { s with heap := h', toks := tk } := by
  obtain ⟨h1, h2, h3, h4⟩ := x.mine _ (.head _)
  have nl : ∀ b ∈ L :: fr, b ≠ a := fun b hb q => h2 (q ▸ hb)
  refine ⟨x.ns.extBut hs (nl L (.head _)), x.newL, ⟨x.grow.os, fun b p hb hm e => ?_, fun b hb p e => ?_, x.grow.gens⟩, fun b p hp => ?_, fun p hp => ?_, (List.pairwise_cons.mp x.apart).2, ⟨fun b p e => ?_, fun b hb => ?_, x.st.bare, x.st.size⟩, x.old, x.above, x.sub, x.nw⟩
  · refine hs b p (fun q => ?_) (x.grow.keep b p hb hm e)
    subst q
    rcases h3 with h3 | h3
    · rw [h3] at e; cases e
    · exact hm h3.1
  · obtain ⟨o1, e1, k1⟩ := x.grow.frm b hb p e
    exact ⟨o1, hs b _ (nl b (.tail _ hb)) e1, k1⟩
  · obtain ⟨e1, e2⟩ := x.has b p hp
    exact ⟨hs b p (fun q => h4 p (q ▸ hp)) e1, e2⟩
  · obtain ⟨e1, e2, e3, e4⟩ := x.mine p (.tail _ hp)
    exact ⟨hs _ _ (fun q => (List.pairwise_cons.mp x.apart).1 p hp q.symm) e1, e2, e3, e4⟩
  · refine hs b p (fun q => ?_) (x.st.base b p e)
    have := x.bnone (.head _)
    rw [← q, e] at this; cases this
  · obtain ⟨n, p, e, d⟩ := x.st.frs b hb
    exact ⟨n, p, hs b _ (nl b hb) e, d⟩
theorem Fx.letGo {a : Addr} {o : Obj} {h' : Heap} {tk : Nat} (x : Fx B T s₀ fr mu L m S ((a, o) :: own) s) (hs : Heap.SameBut a s.heap h') : Fx B T s₀ fr mu L m S own { s with heap := h', toks := tk } := x.lose hs.extBut
theorem Fx.chg {a : Addr} {o o' : Obj} {h' : Heap} {tk : Nat} (x : Fx B T s₀ fr mu L m S ((a, o) :: own) s) (hs : Heap.SameBut a s.heap h') (e : h'.get? a = some o') : Fx B T s₀ fr mu L m S ((a, o') :: own) { s with heap := h', toks := tk } := x.upd hs e
/-- a name of a comprehension's namespace, one's own -/
theorem nmO {M : Model} {env : Env} {y : Str} {pos : Pos} {v : Value} {C : Addr} {oc : Obj} {mc : Str → Option Value} {Q : Value → Shared → Prop} (F : Fx B T s₀ fr mu L m S own s) (hm : (C, oc) ∈ own) (hn : NsO oc mc) (hv : mc y = some v) (h : Q v s) (hL : env.locals = C := by rfl) (hk : env.scope.kind = .function := by rfl) (hx : env.kindOf y = some .local := by rfl)
    (hd : (y == ("__debug__" : Str)) = false := by decide) : wpAny M A (eval (.Name y pos) env) Q E s := wpAny_Name (wpAny_loadName_local hk hx (hL ▸ hn.at (F.mine _ hm).1) hv h) hd
theorem stoO {M : Model} {env : Env} {y : Str} {v : Value} {C : Addr} {oc : Obj} {mc : Str → Option Value} {Q : Unit → Shared → Prop} (F : Fx B T s₀ fr mu L m S ((C, oc) :: own) s) (hn : NsO oc mc)
    (h : ∀ s' oc', Fx B T s₀ fr mu L m S ((C, oc') :: own) s' → NsO oc' (fun z => if z = y then some v else mc z) → Q () s')
    (hL : env.locals = C := by rfl) (hx : env.kindOf y = some .local := by rfl) (hp : (env.scope.kind == .class || (env.scope.kind == .module && env.locals != env.globals)) = false := by rfl) : wpAny M A (storeName env y v) Q E s :=
  wpAny_storeName_local hx (hL ▸ hn.at (F.mine _ (.head _)).1) (fun _ hn' hs => by
    subst hL
    obtain ⟨o', e, N'⟩ := NsO.of hn'
    exact h _ o' (F.upd hs e) N') hp

/-- the item of a list that is one's own -/
theorem app {D : Addr} {out : List Value} {k : Nat} {x : Value} {Q : Value → Shared → Prop} (F : Fx B T s₀ fr mu L m S ((D, listOf out.toArray k) :: own) s) (hsz : out.length ≤ sizeLine)
    (h : ∀ s' k', Fx B T s₀ fr mu L m S ((D, listOf (out ++ [x]).toArray k') :: own) s' → Q .none s') : wpAny (model pw w) A (call (.builtin "list.append") [.ref D, x]) Q E s := by
  refine wpAny_list_append_plain ⟨k, (F.mine _ (.head _)).1⟩ (fun h' hl hs => ?_) (by rw [List.size_toArray]; exact hsz)
  obtain ⟨k', e⟩ := hl
  rw [List.push_toArray] at e
  exact h _ k' (F.upd hs e)
end

def CAfter (B : Heap) (T : Sto) (s₀ : Shared) (fr mu : List Addr) (L : Addr) (m : Str → Option Value) (Inv : Nat → List Value → Sto → List (Addr × Obj) → Prop) (i : Nat) (out : List Value) (C D : Addr) (od : Obj) (s : Shared) : Prop :=
  ∃ S own oc mc, Fx B T s₀ fr mu L m S ((C, oc) :: (D, od) :: own) s ∧ NsO oc mc ∧ Inv i out S own

/-- what is asked of an iterator and a turn of a list comprehension -/
structure LTurns (w : World) (A : Around) (B : Heap) (T : Sto) (s₀ : Shared) (fr mu : List Addr) (L : Addr) (m : Str → Option Value) (env : Env) (elt target : Expr) (ifs : List Expr) (scope : Scope) (cl : List (Str × Addr)) (n : Nat)
    (Inv : Nat → List Value → Sto → List (Addr × Obj) → Prop) (Fin : List Value → Sto → List (Addr × Obj) → Prop) (it : Value) : Prop where
  self : ∀ i out S own own' s E Q, Inv i out S own → Fx B T s₀ fr mu L m S (own' ++ own) s → Q it s → wpAny (model pw w) A (pyIter it) Q E s
  item : ∀ i out S own s C oc D od mc E, i < n → Inv i out S own → out.length ≤ i → Fx B T s₀ fr mu L m S ((C, oc) :: (D, od) :: own) s → NsO oc mc →
    wpAny (model pw w) A (pyNext it) (fun r s₁ => ∃ v, r = some v ∧ wpAny (model pw w) A (letOwnedTupleGo target it v) (fun _ s₂ => wpAny (model pw w) A (assign target (compEnvC scope cl C env) v) (fun _ s₃ =>
      wpAny (model pw w) A (forIn ifs true fun c r => if r = true then do let ok ← isTrue c (compEnvC scope cl C env) (eval c (compEnvC scope cl C env)); pure (ForInStep.yield ok) else pure (ForInStep.yield r)) (fun ok s₄ =>
        if ok = true then wpAny (model pw w) A (eval elt (compEnvC scope cl C env)) (fun x s₅ => CAfter B T s₀ fr mu L m Inv (i + 1) (out ++ [x]) C D od s₅) E s₄ else CAfter B T s₀ fr mu L m Inv (i + 1) out C D od s₄) E s₃) E s₂) E s₁) E s
  done : ∀ out S own s C oc D od E, Inv n out S own → Fx B T s₀ fr mu L m S ((C, oc) :: (D, od) :: own) s → wpAny (model pw w) A (pyNext it) (fun r s₁ => r = none ∧ ∃ S' own', Fx B T s₀ fr mu L m S' ((C, oc) :: (D, od) :: own') s₁ ∧ Fin out S' own') E s

section
variable {w : World} {A : Around} {E : Value → Shared → Prop} {B : Heap} {fr mu : List Addr} {s₀ s : Shared} {L : Addr} {m : Str → Option Value} {T S : Sto} {own : List (Addr × Obj)} {env : Env} {elt target iter : Expr} {ifs : List Expr} {scope : Scope} {cl : List (Str × Addr)} {n : Nat} {pos : Pos}
  {Inv : Nat → List Value → Sto → List (Addr × Obj) → Prop} {Fin : List Value → Sto → List (Addr × Obj) → Prop} {R : Result → Shared → Prop}

theorem compLoop_gen {it acc : Value} {cenv : Env} (I : Nat → Shared → Prop)
    (turn : ∀ n s, I n s → wpAny (model pw w) A (pyNext it) (fun r s₁ => match r with
      | none => R (.ok .next) s₁
      | some v => wpAny (model pw w) A (letOwnedTupleGo target it v) (fun _ s₁' => wpAny (model pw w) A (assign target cenv v) (fun _ s₂ =>
          wpAny (model pw w) A (forIn ifs true fun c r => if r = true then do let ok ← isTrue c cenv (eval c cenv); pure (ForInStep.yield ok) else pure (ForInStep.yield r)) (fun ok s₃ =>
            if ok = true then wpAny (model pw w) A (eval elt cenv) (fun x s₄ =>
              wpAny (model pw w) A (call (.builtin "list.append") [acc, x]) (fun _ s₅ => ∃ m, m < n ∧ I m s₅) (notedBy (model pw w) A cenv fun e s' => R (.error e) s') s₄) (notedBy (model pw w) A cenv fun e s' => R (.error e) s') s₃
            else ∃ m, m < n ∧ I m s₃) (notedBy (model pw w) A cenv fun e s' => R (.error e) s') s₂) (notedBy (model pw w) A cenv fun e s' => R (.error e) s') s₁') (notedBy (model pw w) A cenv fun e s' => R (.error e) s') s₁) (notedBy (model pw w) A cenv fun e s' => R (.error e) s') s)
    (n : Nat) (h : I n s) : codeAny (model pw w) A (.compLoop (.ListComp elt [⟨target, iter, ifs, 0⟩] scope pos) 0 it acc cenv) R s := by
  refine codeAny_loop rfl I (fun n s hI => ?_) n h
  show wpAny _ A ((compTurn (.ListComp elt [⟨target, iter, ifs, 0⟩] scope pos) 0 it acc cenv).onRaise (fun x => do noteFrame x cenv; theTreesLotGoes x)) _ _ s
  refine wpAny_noted ?_
  rw [compTurn_list]
  refine wpAny_bind (wpAny_standAt (wpAny_bind (wpAny_mono (turn n s hI) (fun r s₁ h₁ => ?_) fun _ _ h' => h')))
  cases r with
  | none => exact wpAny_pure h₁
  | some v =>
    refine wpAny_bind (wpAny_mono h₁ (fun _ s₁' h₁' => ?_) fun _ _ h' => h')
    refine wpAny_bind (wpAny_mono h₁' (fun _ s₂ h₂ => wpAny_bind (wpAny_mono h₂ (fun ok s₃ h₃ => ?_) fun _ _ h' => h')) fun _ _ h' => h')
    cases ok with
    | false => exact wpAny_pure ⟨rfl, h₃⟩
    | true =>
      exact wpAny_bind (wpAny_bind (wpAny_mono h₃ (fun x s₄ h₄ => wpAny_bind (wpAny_mono h₄ (fun _ s₅ h₅ => wpAny_pure (wpAny_pure ⟨rfl, h₅⟩)) fun _ _ h' => h')) fun _ _ h' => h'))

/-- the loop of a list comprehension, from its namespace and its list -/
theorem lloop {C D : Addr} {oc : Obj} {mc : Str → Option Value} {it : Value} {k : Nat} (hsz : n ≤ sizeLine) (F : Fx B T s₀ fr mu L m S ((C, oc) :: (D, listOf #[] k) :: own) s) (N : NsO oc mc) (I : Inv 0 [] S own) (X : LTurns w A B T s₀ fr mu L m env elt target ifs scope cl n Inv Fin it)
    (h : ∀ S own oc mc out k s, Fx B T s₀ fr mu L m S ((C, oc) :: (D, listOf out.toArray k) :: own) s → NsO oc mc → Fin out S own → R (.ok .next) s) :
    codeAny (model pw w) A (.compLoop (.ListComp elt [⟨target, iter, ifs, 0⟩] scope pos) 0 it (.ref D) (compEnvC scope cl C env)) R s := by
  refine compLoop_gen (fun j s' => ∃ i out S own oc mc k, Fx B T s₀ fr mu L m S ((C, oc) :: (D, listOf out.toArray k) :: own) s' ∧ NsO oc mc ∧ Inv i out S own ∧ out.length ≤ i ∧ i ≤ n ∧ j = n - i) ?_ n ⟨0, [], S, own, oc, mc, k, F, N, I, Nat.le_refl _, Nat.zero_le _, rfl⟩
  rintro j s' ⟨i, out, S, own, oc, mc, k, F, N, I, hl, hi, rfl⟩
  by_cases hlt : i < n
  · refine wpAny_mono (X.item i out S own s' C oc D _ mc _ hlt I hl F N) (fun r s₁ h₁ => ?_) fun _ _ e => e
    obtain ⟨v, rfl, h₁⟩ := h₁
    refine wpAny_mono h₁ (fun _ s₂ h₂ => wpAny_mono h₂ (fun _ s₃ h₃ => wpAny_mono h₃ (fun ok s₄ h₄ => ?_) fun _ _ e => e) fun _ _ e => e) fun _ _ e => e
    cases ok with
    | true =>
      rw [if_pos rfl] at h₄ ⊢
      refine wpAny_mono h₄ (fun x s₅ h₅ => ?_) fun _ _ e => e
      obtain ⟨S', own', oc', mc', F', N', I'⟩ := h₅
      refine app F'.swap (by omega) fun s₆ k' F'' => ?_
      exact ⟨n - (i + 1), by omega, i + 1, out ++ [x], S', own', oc', mc', k', F''.swap, N', I', by simp; omega, hlt, rfl⟩
    | false =>
      rw [if_neg (by decide)] at h₄ ⊢
      obtain ⟨S', own', oc', mc', F', N', I'⟩ := h₄
      exact ⟨n - (i + 1), by omega, i + 1, out, S', own', oc', mc', k, F', N', I', by omega, hlt, rfl⟩
  · have : i = n := by omega
    subst this
    refine wpAny_mono (X.done out S own s' C oc D _ _ I F) (fun r s₁ h₁ => ?_) fun _ _ e => e
    obtain ⟨rfl, S', own', F', hF⟩ := h₁
    exact h S' own' oc mc out k s₁ F' N hF

theorem lcore {it : Value} {RR : Value → Addr → Result → Shared → Prop} (hsz : n ≤ sizeLine) (F : Fx B T s₀ fr mu L m S own s) (I : Inv 0 [] S own) (X : LTurns w A B T s₀ fr mu L m env elt target ifs scope cl n Inv Fin it)
    (hcell : ∀ y ∈ scope.names, y.2 ≠ .cell) (hkind : scope.kind = .function)
    (hRR : ∀ D C out S own oc mc k s, Fin out S own → NsO oc mc → Fx B T s₀ fr mu L m S ((C, oc) :: (D, listOf out.toArray k) :: own) s → RR (.ref D) C (.ok .next) s) :
    wpAny (model pw w) A (newList []) (fun acc s₃ => wpAny (model pw w) A (newFunctionEnv scope env.globals cl [] env.qual none .none (some env)) (fun cenv s₄ =>
      codeAny (model pw w) A (.compStart (.ListComp elt [⟨target, iter, ifs, 0⟩] scope pos) 0 it acc { cenv with scope := relabel scope env }) (RR acc cenv.locals) s₄) E s₃) E s := by
  refine newL F (fun D s₃ F => ?_) (by show 0 ≤ _; omega)
  refine wpAny_newFunctionEnv hcell (by intro y hy; simp at hy) (fun h₁ hns₁ hsb₁ => ?_) hkind
  obtain ⟨oc, e, N⟩ := NsO.of hns₁
  have F := (F.push { cls := .type "dict", data := .dict #[] }).upd (tk := s₃.toks + ([] : List (Str × Value)).length) hsb₁ e
  have go : ∀ s₄ S₂ own₂, Fx B T s₀ fr mu L m S₂ ((s₃.heap.objs.size, oc) :: (D, listOf #[] 0) :: own₂) s₄ → Inv 0 [] S₂ own₂ → codeAny (model pw w) A (.compLoop (.ListComp elt [⟨target, iter, ifs, 0⟩] scope pos) 0 it (.ref D) (compEnvC scope cl s₃.heap.objs.size env)) (RR (.ref D) s₃.heap.objs.size) s₄ := fun s₄ S₂ own₂ F I =>
    lloop hsz F N I X fun S own oc mc out k s F N hF => hRR D _ out S own oc mc k s hF N F
  refine codeAny_compStart_list (go _ _ _ F I) ?_
  exact X.self 0 [] S own [(s₃.heap.objs.size, oc), (D, listOf #[] 0)] _ _ _ I F (go _ _ _ F I)

/-- a list comprehension of one clause -/
theorem lcomp {Q : Value → Shared → Prop} (_F : Fx B T s₀ fr mu L m S own s) (hclos : closureFor scope env = pure cl)
    (h : wpAny (model pw w) A (eval iter env) (fun x s₁ => wpAny (model pw w) A (pyIter x) (fun it s₂ => ∃ S₂ own₂ n, ∃ Inv : Nat → List Value → Sto → List (Addr × Obj) → Prop, ∃ Fin : List Value → Sto → List (Addr × Obj) → Prop, n ≤ sizeLine ∧ Fx B T s₀ fr mu L m S₂ own₂ s₂ ∧ Inv 0 [] S₂ own₂ ∧ LTurns w A B T s₀ fr mu L m env elt target ifs scope cl n Inv Fin it ∧
      ∀ D out S own k s, Fin out S own → Fx B T s₀ fr mu L m S ((D, listOf out.toArray k) :: own) s → Q (.ref D) s) E s₁) E s)
    (hkind : scope.kind = .function := by rfl) (hcell : ∀ y ∈ scope.names, y.2 ≠ .cell := by decide) (hnames : ∀ x ∈ scope.names, x.2 = .local → scope.names.lookup x.1 = some .local := by decide)
    (hs : ∀ x, foldedSetIterable iter env x = pure x := by intro _; rfl) :
    wpAny (model pw w) A (eval (.ListComp elt [⟨target, iter, ifs, 0⟩] scope pos) env) Q E s := by
  rw [eval_ListComp]
  refine wpAny_comprehension_free rfl hs hclos hkind hnames (wpAny_mono h (fun x s₁ h₁ => wpAny_mono h₁ (fun it s₂ h₂ => ?_) fun _ _ e => e) fun _ _ e => e)
  obtain ⟨S₂, own₂, n, Inv, Fin, hsz, F, I, X, hQ⟩ := h₂
  exact lcore (RR := fun acc C => compPost (model pw w) A E none Q acc C) hsz F I X hcell hkind fun D C out S own oc mc k s hF N F => ⟨mc, N.at (F.mine _ (.head _)).1, fun h' hs' => hQ D out S own k _ hF (F.letGo hs')⟩
/-- a name is bound to a list comprehension -/
theorem lassign {Q : Flow → Shared → Prop} {y : Str} {py spos : Pos} (_F : Fx B T s₀ fr mu L m S own s) (hclos : closureFor scope env = pure cl)
    (h : wpAny (model pw w) A (eval iter env) (fun x s₁ => wpAny (model pw w) A (pyIter x) (fun it s₂ => ∃ S₂ own₂ n, ∃ Inv : Nat → List Value → Sto → List (Addr × Obj) → Prop, ∃ Fin : List Value → Sto → List (Addr × Obj) → Prop, n ≤ sizeLine ∧ Fx B T s₀ fr mu L m S₂ own₂ s₂ ∧ Inv 0 [] S₂ own₂ ∧ LTurns w A B T s₀ fr mu L m env elt target ifs scope cl n Inv Fin it ∧
      ∀ D out S own k s, Fin out S own → Fx B T s₀ fr mu L (fun z => if z = y then some (.ref D) else m z) S ((D, listOf out.toArray k) :: own) s → Q .next s) E s₁) E s)
    (hsw : swapsWith (.ListComp elt [⟨target, iter, ifs, 0⟩] scope pos) (some (.Name y py)) spos.line env = pure true := by rfl)
    (hkind : scope.kind = .function := by rfl) (hcell : ∀ y ∈ scope.names, y.2 ≠ .cell := by decide) (hnames : ∀ x ∈ scope.names, x.2 = .local → scope.names.lookup x.1 = some .local := by decide)
    (hs : ∀ x, foldedSetIterable iter env x = pure x := by intro _; rfl)
    (hL : env.locals = L := by rfl) (hx : env.kindOf y = some .local := by rfl) (hp : (env.scope.kind == .class || (env.scope.kind == .module && env.locals != env.globals)) = false := by rfl) :
    wpAny (model pw w) A (exec (.Assign [.Name y py] (.ListComp elt [⟨target, iter, ifs, 0⟩] scope pos) spos) env) Q E s := by
  rw [exec_Assign_Name_used _ _ _ _ hsw]
  refine wpAny_bind (wpAny_standAt (wpAny_bind ?_))
  show wpAny _ A (do let _ ← comprehension (.ListComp elt [⟨target, iter, ifs, 0⟩] scope pos) scope env _ (newList []) false (eval iter env) (some (assign (.Name y py) env))) _ _ s
  refine wpAny_bind (wpAny_mono (wpAny_comprehension_free (use := some (assign (.Name y py) env)) (Q := fun _ s' => Q .next s') rfl hs hclos hkind hnames
    (wpAny_mono h (fun xv s₁ h₁ => wpAny_mono h₁ (fun it s₂ h₂ => ?_) fun _ _ e => e) fun _ _ e => e)) (fun _ s' hq => wpAny_pure (wpAny_pure hq)) fun _ _ e => e)
  obtain ⟨S₂, own₂, n, Inv, Fin, hsz, F, I, X, hQ⟩ := h₂
  refine lcore (RR := fun acc C => compPost (model pw w) A E (some (assign (.Name y py) env)) (fun _ s' => Q .next s') acc C) hsz F I X hcell hkind fun D C out S own oc mc k s hF N F => ?_
  show wpAny _ A (assign (.Name y py) env (.ref D)) _ _ _
  exact wpAny_assign_Name (sto F (fun s' F => ⟨mc, N.at (F.mine _ (.head _)).1, fun h' hs' => hQ D out S own k _ hF (F.letGo hs')⟩) hL hx hp)
end

/-- an iterator that hands out plain values -/
structure Itn (w : World) (A : Around) (n : Nat) (it : Value) (P : Nat → Sto → List (Addr × Obj) → Prop) (V : Nat → Value → Prop) : Prop where
  mono : ∀ {i S S' ows}, P i S ows → (∀ a o, S a o → S' a o) → P i S' ows
  self : ∀ {B T s₀ fr mu L m i S ows own s E} {Q : Value → Shared → Prop}, P i S ows → Fx B T s₀ fr mu L m S (ows ++ own) s → Q it s → wpAny (model pw w) A (pyIter it) Q E s
  item : ∀ {B T s₀ fr mu L m i S ows own s E} {Q : Option Value → Shared → Prop}, i < n → P i S ows → Fx B T s₀ fr mu L m S (ows ++ own) s → (∀ v s' ows', Fx B T s₀ fr mu L m S (ows' ++ own) s' → P (i + 1) S ows' → V i v → Q (some v) s') → wpAny (model pw w) A (pyNext it) Q E s
  done : ∀ {B T s₀ fr mu L m S ows own s E} {Q : Option Value → Shared → Prop}, P n S ows → Fx B T s₀ fr mu L m S (ows ++ own) s → (∀ s', Fx B T s₀ fr mu L m S own s' → Q none s') → wpAny (model pw w) A (pyNext it) Q E s

def LI (I l : Addr) (items : List Value) (i : Nat) (S : Sto) (ows : List (Addr × Obj)) : Prop := ∃ o, ows = [(I, o)] ∧ (o.cls = .type "list_iterator" ∧ o.data = .fields #[.ref l, .int i 0]) ∧ ∃ k, S l (listOf items.toArray k)
def TI (I l : Addr) (items : List Value) (i : Nat) (S : Sto) (ows : List (Addr × Obj)) : Prop := ∃ o, ows = [(I, o)] ∧ (o.cls = .type "tuple_iterator" ∧ o.data = .fields #[.ref l, .int i 0]) ∧ S l (tupOf items)
def RI (I : Addr) (a c : Int) (n : Nat) (i : Nat) (S : Sto) (ows : List (Addr × Obj)) : Prop := ∃ o, ows = [(I, o)] ∧ o = { cls := .type "range_iterator", dict := none, data := .fields #[rawInt (a + i * c), rawInt ((n : Int) - i), rawInt c], slots := #[] }
theorem Itn.list {w : World} {A : Around} {I l : Addr} {items : List Value} (hh : A.handled = none) : Itn w A items.length (.ref I) (LI I l items) (fun i v => items[i]? = some v) where
  mono := fun ⟨o, e, h, k, x⟩ M => ⟨o, e, h, k, M _ _ x⟩
  self := fun ⟨o, e, h, k, x⟩ F hq => by subst e; exact wpAny_pyIter_listiter ⟨o, (F.mine _ (.head _)).1, h.1, h.2⟩ hq
  item := fun {B T s₀ fr mu L m i S ows own s E Q} hi ⟨o, e, h, k, x⟩ F hq => by
    subst e
    refine wpAny_pyNext_list_item (x := items[i]) ⟨o, (F.mine _ (.head _)).1, h.1, h.2⟩ ⟨_, F.has.get x, rfl, k, rfl⟩ (by simp [hi]) fun h' hit hs => ?_
    obtain ⟨o', e', hc, hd⟩ := hit
    exact hq _ _ [(I, o')] (F.upd hs e') ⟨o', rfl, ⟨hc, hd⟩, k, x⟩ (by simp [hi])
  done := fun ⟨o, e, h, k, x⟩ F hq => by
    subst e
    exact wpAny_pyNext_list_end hh ⟨o, (F.mine _ (.head _)).1, h.1, h.2⟩ ⟨_, F.has.get x, rfl, k, rfl⟩ (by simp) fun h' hs => hq _ (F.lose hs)
theorem Itn.tuple {w : World} {A : Around} {I l : Addr} {items : List Value} (hh : A.handled = none) : Itn w A items.length (.ref I) (TI I l items) (fun i v => items[i]? = some v) where
  mono := fun ⟨o, e, h, x⟩ M => ⟨o, e, h, M _ _ x⟩
  self := fun ⟨o, e, h, x⟩ F hq => by subst e; exact wpAny_pyIter_tupleiter ⟨o, (F.mine _ (.head _)).1, h.1, h.2⟩ hq
  item := fun {B T s₀ fr mu L m i S ows own s E Q} hi ⟨o, e, h, x⟩ F hq => by
    subst e
    refine wpAny_pyNext_tuple_item (x := items[i]) ⟨o, (F.mine _ (.head _)).1, h.1, h.2⟩ ⟨_, F.has.get x, rfl, _, rfl⟩ (by simp [hi]) fun h' hit hs => ?_
    obtain ⟨o', e', hc, hd⟩ := hit
    exact hq _ _ [(I, o')] (F.upd hs e') ⟨o', rfl, ⟨hc, hd⟩, x⟩ (by simp [hi])
  done := fun ⟨o, e, h, x⟩ F hq => by
    subst e
    exact wpAny_pyNext_tuple_end hh ⟨o, (F.mine _ (.head _)).1, h.1, h.2⟩ ⟨_, F.has.get x, rfl, _, rfl⟩ (by simp) fun h' hs => hq _ (F.lose hs)
theorem Itn.range {w : World} {A : Around} {I : Addr} {a c : Int} {n : Nat} (hh : A.handled = none) : Itn w A n (.ref I) (RI I a c n) (fun i v => ∃ t, v = .int (a + i * c) t) where
  mono := fun ⟨o, e, h⟩ _ => ⟨o, e, h⟩
  self := fun ⟨o, e, h⟩ F hq => by subst e; subst h; exact wpAny_pyIter_rangeiter (F.mine _ (.head _)).1 hq
  item := fun {B T s₀ fr mu L m i S ows own s E Q} hi ⟨o, e, h⟩ F hq => by
    subst e; subst h
    refine wpAny_pyNext_range_item (F.mine _ (.head _)).1 (by omega) fun h' hit hs => ?_
    refine hq _ _ [(I, _)] (F.upd hs hit) ⟨_, rfl, ?_⟩ ⟨_, rfl⟩
    have e1 : a + ((i + 1 : Nat) : Int) * c = a + (i : Int) * c + c := by push_cast; rw [Int.add_mul, Int.one_mul, Int.add_assoc]
    rw [e1, show ((n : Int) - ((i + 1 : Nat) : Int)) = (n : Int) - i - 1 by push_cast; omega]
  done := fun ⟨o, e, h⟩ F hq => by
    subst e; subst h
    exact wpAny_pyNext_range_end hh (F.mine _ (.head _)).1 (by omega) fun h' hs => hq _ (F.lose hs)

section
variable {w : World} {A : Around} {E : Value → Shared → Prop} {B : Heap} {fr mu : List Addr} {s₀ s : Shared} {L : Addr} {m : Str → Option Value} {T S : Sto} {own : List (Addr × Obj)} {Q : Value → Shared → Prop}
theorem iterL {l : Addr} {items : List Value} {k : Nat} (F : Fx B T s₀ fr mu L m S own s) (x : S l (listOf items.toArray k)) (h : ∀ I s' ows, Fx B T s₀ fr mu L m S (ows ++ own) s' → LI I l items 0 S ows → Q (.ref I) s') : wpAny (model pw w) A (pyIter (.ref l)) Q E s :=
  wpAny_pyIter_list ⟨_, F.has.get x, rfl, k, rfl⟩ (h _ _ [(_, _)] (F.push _) ⟨_, rfl, ⟨rfl, rfl⟩, k, x⟩)
theorem iterT {l : Addr} {items : List Value} (F : Fx B T s₀ fr mu L m S own s) (x : S l (tupOf items)) (h : ∀ I s' ows, Fx B T s₀ fr mu L m S (ows ++ own) s' → TI I l items 0 S ows → Q (.ref I) s') : wpAny (model pw w) A (pyIter (.ref l)) Q E s :=
  wpAny_pyIter_tuple ⟨_, F.has.get x, rfl, _, rfl⟩ (h _ _ [(_, _)] (F.push _) ⟨_, rfl, ⟨rfl, rfl⟩, x⟩)
variable {env : Env} {elt iter : Expr} {ifs : List Expr} {scope : Scope} {cl : List (Str × Addr)} {n : Nat} {pos px : Pos} {it : Value} {P : Nat → Sto → List (Addr × Obj) → Prop} {V : Nat → Value → Prop} {y : Str}
theorem LTurns.of {Fin : List Value → Sto → List (Addr × Obj) → Prop} (X : Itn w A n it P V) (J : Nat → List Value → Sto → List (Addr × Obj) → Prop) (hx : scope.names.lookup y = some .local) (hkind : scope.kind = .function)
    (step : ∀ i out S ows rest s C oc D od mc v E, i < n → V i v → J i out S rest → Fx B T s₀ fr mu L m S ((C, oc) :: (D, od) :: (ows ++ rest)) s → NsO oc mc → mc y = some v →
      wpAny (model pw w) A (forIn ifs true fun c r => if r = true then do let ok ← isTrue c (compEnvC scope cl C env) (eval c (compEnvC scope cl C env)); pure (ForInStep.yield ok) else pure (ForInStep.yield r)) (fun ok s₄ =>
        if ok = true then wpAny (model pw w) A (eval elt (compEnvC scope cl C env)) (fun x s₅ => ∃ S' rest' oc' mc', Fx B T s₀ fr mu L m S' ((C, oc') :: (D, od) :: (ows ++ rest')) s₅ ∧ NsO oc' mc' ∧ (∀ a o, S a o → S' a o) ∧ J (i + 1) (out ++ [x]) S' rest') E s₄
        else ∃ S' rest' oc' mc', Fx B T s₀ fr mu L m S' ((C, oc') :: (D, od) :: (ows ++ rest')) s₄ ∧ NsO oc' mc' ∧ (∀ a o, S a o → S' a o) ∧ J (i + 1) out S' rest') E s)
    (fin : ∀ out S rest, J n out S rest → Fin out S rest) : LTurns w A B T s₀ fr mu L m env elt (.Name y px) ifs scope cl n (fun i out S own => ∃ ows rest, own = ows ++ rest ∧ P i S ows ∧ J i out S rest) Fin it where
  self := fun i out S own own' s E Q ⟨ows, rest, e, p, _⟩ F hq => by
    subst e
    exact X.self (own := own' ++ rest) p (F.perm (List.perm_append_comm_assoc ..)) hq
  item := fun i out S own s C oc D od mc E hi ⟨ows, rest, e, p, j⟩ _ F N => by
    subst e
    refine X.item (own := (C, oc) :: (D, od) :: rest) hi p (F.perm (List.perm_append_comm_assoc [(C, oc), (D, od)] ows rest)) fun v s' ows' F p hv => ⟨v, rfl, ?_⟩
    refine wpAny_of_eq (show letOwnedTupleGo (.Name y px) it v = pure () by rfl) ?_
    have F := F.perm (own' := (C, oc) :: (D, od) :: (ows' ++ rest)) (List.perm_append_comm_assoc ows' [(C, oc), (D, od)] rest)
    refine wpAny_assign_Name (stoO F N (fun s₂ oc' F N => ?_) rfl (lookup_relabel_local hx) (by simp [compEnvC, relabel, hkind]))
    refine wpAny_mono (step i out S ows' rest s₂ C oc' D od _ v E hi hv j F N (by simp)) (fun ok s₄ h₄ => ?_) fun _ _ e => e
    cases ok with
    | true =>
      rw [if_pos rfl] at h₄ ⊢
      refine wpAny_mono h₄ (fun x s₅ ⟨S', rest', oc', mc', F, N, M, j⟩ => ?_) fun _ _ e => e
      exact ⟨S', _, oc', mc', F, N, ows', rest', rfl, X.mono p M, j⟩
    | false =>
      rw [if_neg (by decide)] at h₄ ⊢
      obtain ⟨S', rest', oc', mc', F, N, M, j⟩ := h₄
      exact ⟨S', _, oc', mc', F, N, ows', rest', rfl, X.mono p M, j⟩
  done := fun out S own s C oc D od E ⟨ows, rest, e, p, j⟩ F => by
    subst e
    exact X.done (own := (C, oc) :: (D, od) :: rest) p (F.perm (List.perm_append_comm_assoc [(C, oc), (D, od)] ows rest)) fun s' F => ⟨rfl, S, rest, F, fin _ _ _ j⟩
end
end DescLaw
end
section
open PySem PySem.W PyProof.Rows PySem.Calls
set_option Elab.async false
set_option maxRecDepth 100000
namespace DescLaw
/-! list comprehensions of two clauses -/
section
variable {elt i0 i1 t0 t1 : Expr} {scope : Scope} {pos : Pos} {it acc : Value} {env : Env}
theorem compTurn_nest : compTurn (.ListComp elt [⟨t0, i0, [], 0⟩, ⟨t1, i1, [], 0⟩] scope pos) 0 it acc env = (do
      standAt i0.pos
      match ← pyNext it with
      | none => pure (.done .next)
      | some v =>
        letOwnedTupleGo t0 it v
        assign t0 env v
        let x ← eval i1 env
        standAt i1.pos
        let x ← foldedSetIterable i1 env x
        let y ← holding [x] (pyIter x)
        let _ ← runOwn (.compStart (.ListComp elt [⟨t0, i0, [], 0⟩, ⟨t1, i1, [], 0⟩] scope pos) 1 y acc env) env
        again (.compLoop (.ListComp elt [⟨t0, i0, [], 0⟩, ⟨t1, i1, [], 0⟩] scope pos) 0 it acc env)) := by
  unfold compTurn
  simp only [List.getElem?_cons_zero, List.getElem?_cons_succ, Nat.zero_add, bne_self_eq_false, Bool.false_eq_true, if_false, List.forIn_nil]
  rfl
theorem compTurn_in : compTurn (.ListComp elt [⟨t0, i0, [], 0⟩, ⟨t1, i1, [], 0⟩] scope pos) 1 it acc env = (do
      standAt i1.pos
      match ← pyNext it with
      | none => pure (.done .next)
      | some v =>
        letOwnedTupleGo t1 it v
        assign t1 env v
        (do let _ ← call (.builtin "list.append") [acc, ← eval elt env])
        again (.compLoop (.ListComp elt [⟨t0, i0, [], 0⟩, ⟨t1, i1, [], 0⟩] scope pos) 1 it acc env)) := by rfl
end
section
variable {w : World} {A : Around} {s : Shared} {R : Result → Shared → Prop} {elt i0 i1 t0 t1 : Expr} {scope : Scope} {pos : Pos} {it acc : Value} {env : Env}
theorem compStart_nest (k : Nat) (hk : k = 0 ∨ k = 1)
    (h0 : codeAny (model pw w) A (.compLoop (.ListComp elt [⟨t0, i0, [], 0⟩, ⟨t1, i1, [], 0⟩] scope pos) k it acc env) R s)
    (h : wpAny (model pw w) A (pyIter it) (fun it' s' => codeAny (model pw w) A (.compLoop (.ListComp elt [⟨t0, i0, [], 0⟩, ⟨t1, i1, [], 0⟩] scope pos) k it' acc env) R s')
      (notedBy (model pw w) A env fun x s' => R (.error x) s') s) :
    codeAny (model pw w) A (.compStart (.ListComp elt [⟨t0, i0, [], 0⟩, ⟨t1, i1, [], 0⟩] scope pos) k it acc env) R s := by
  refine codeAny_of_tree ?_
  rcases hk with rfl | rfl
  · show wpAny _ _ ((compStart (.ListComp elt [⟨t0, i0, [], 0⟩, ⟨t1, i1, [], 0⟩] scope pos) 0 it acc env).onRaise (fun x => do noteFrame x env; standAt theWindowsPlace)) _ _ s
    refine wpAny_notedAt ?_
    unfold compStart
    show wpAny _ _ (ask >>= _) _ _ s
    refine wpAny_bind (wpAny_askSetting (wpAny_ite ?_))
    split
    · first
        | exact wpAny_bind (wpAny_pure (wpAny_pure (And.intro rfl h0)))
        | exact wpAny_pure (And.intro rfl h0)
    · refine wpAny_bind (wpAny_rule ?_); show wpAny _ _ (standAt i0.pos >>= _) _ _ s; exact wpAny_bind (wpAny_standAt (wpAny_bind (wpAny_mono h (fun it' s' h' => wpAny_pure (And.intro rfl h')) fun _ _ x => x)))
  · show wpAny _ _ ((compStart (.ListComp elt [⟨t0, i0, [], 0⟩, ⟨t1, i1, [], 0⟩] scope pos) 1 it acc env).onRaise (fun x => do noteFrame x env; standAt theWindowsPlace)) _ _ s
    refine wpAny_notedAt ?_
    unfold compStart
    show wpAny _ _ (ask >>= _) _ _ s
    refine wpAny_bind (wpAny_askSetting (wpAny_ite ?_))
    split
    · first
        | exact wpAny_bind (wpAny_pure (wpAny_pure (And.intro rfl h0)))
        | exact wpAny_pure (And.intro rfl h0)
    · refine wpAny_bind (wpAny_rule ?_); show wpAny _ _ (standAt i1.pos >>= _) _ _ s; exact wpAny_bind (wpAny_standAt (wpAny_bind (wpAny_mono h (fun it' s' h' => wpAny_pure (And.intro rfl h')) fun _ _ x => x)))

theorem compLoop_in {cenv : Env} (I : Nat → Shared → Prop)
    (turn : ∀ n s, I n s → wpAny (model pw w) A (pyNext it) (fun r s₁ => match r with
      | none => R (.ok .next) s₁
      | some v => wpAny (model pw w) A (letOwnedTupleGo t1 it v) (fun _ s₁' => wpAny (model pw w) A (assign t1 cenv v) (fun _ s₂ =>
          wpAny (model pw w) A (eval elt cenv) (fun x s₄ =>
              wpAny (model pw w) A (call (.builtin "list.append") [acc, x]) (fun _ s₅ => ∃ m, m < n ∧ I m s₅) (notedBy (model pw w) A cenv fun e s' => R (.error e) s') s₄) (notedBy (model pw w) A cenv fun e s' => R (.error e) s') s₂) (notedBy (model pw w) A cenv fun e s' => R (.error e) s') s₁') (notedBy (model pw w) A cenv fun e s' => R (.error e) s') s₁) (notedBy (model pw w) A cenv fun e s' => R (.error e) s') s)
    (n : Nat) (h : I n s) : codeAny (model pw w) A (.compLoop (.ListComp elt [⟨t0, i0, [], 0⟩, ⟨t1, i1, [], 0⟩] scope pos) 1 it acc cenv) R s := by
  refine codeAny_loop rfl I (fun n s hI => ?_) n h
  show wpAny _ A ((compTurn (.ListComp elt [⟨t0, i0, [], 0⟩, ⟨t1, i1, [], 0⟩] scope pos) 1 it acc cenv).onRaise (fun x => do noteFrame x cenv; theTreesLotGoes x)) _ _ s
  refine wpAny_noted ?_
  rw [compTurn_in]
  refine wpAny_bind (wpAny_standAt (wpAny_bind (wpAny_mono (turn n s hI) (fun r s₁ h₁ => ?_) fun _ _ h' => h')))
  cases r with
  | none => exact wpAny_pure h₁
  | some v =>
    refine wpAny_bind (wpAny_mono h₁ (fun _ s₁' h₁' => ?_) fun _ _ h' => h')
    refine wpAny_bind (wpAny_mono h₁' (fun _ s₂ h₂ => ?_) fun _ _ h' => h')
    exact wpAny_bind (wpAny_bind (wpAny_mono h₂ (fun x s₄ h₄ => wpAny_bind (wpAny_mono h₄ (fun _ s₅ h₅ => wpAny_pure (wpAny_pure ⟨rfl, h₅⟩)) fun _ _ h' => h')) fun _ _ h' => h'))
theorem compLoop_nest {cenv : Env} (hfs : ∀ x, foldedSetIterable i1 cenv x = pure x) (I : Nat → Shared → Prop)
    (turn : ∀ n s, I n s → wpAny (model pw w) A (pyNext it) (fun r s₁ => match r with
      | none => R (.ok .next) s₁
      | some v => wpAny (model pw w) A (letOwnedTupleGo t0 it v) (fun _ s₁' => wpAny (model pw w) A (assign t0 cenv v) (fun _ s₂ =>
          wpAny (model pw w) A (eval i1 cenv) (fun x s₄ => wpAny (model pw w) A (pyIter x) (fun it2 s₅ => ∀ R' : Result → Shared → Prop, (∀ s₆, (∃ m, m < n ∧ I m s₆) → R' (.ok .next) s₆) →
              codeAny (model pw w) A (.compStart (.ListComp elt [⟨t0, i0, [], 0⟩, ⟨t1, i1, [], 0⟩] scope pos) 1 it2 acc cenv) R' s₅) (notedBy (model pw w) A cenv fun e s' => R (.error e) s') s₄) (notedBy (model pw w) A cenv fun e s' => R (.error e) s') s₂) (notedBy (model pw w) A cenv fun e s' => R (.error e) s') s₁') (notedBy (model pw w) A cenv fun e s' => R (.error e) s') s₁) (notedBy (model pw w) A cenv fun e s' => R (.error e) s') s)
    (n : Nat) (h : I n s) : codeAny (model pw w) A (.compLoop (.ListComp elt [⟨t0, i0, [], 0⟩, ⟨t1, i1, [], 0⟩] scope pos) 0 it acc cenv) R s := by
  refine codeAny_loop rfl I (fun n s hI => ?_) n h
  show wpAny _ A ((compTurn (.ListComp elt [⟨t0, i0, [], 0⟩, ⟨t1, i1, [], 0⟩] scope pos) 0 it acc cenv).onRaise (fun x => do noteFrame x cenv; theTreesLotGoes x)) _ _ s
  refine wpAny_noted ?_
  rw [compTurn_nest]
  refine wpAny_bind (wpAny_standAt (wpAny_bind (wpAny_mono (turn n s hI) (fun r s₁ h₁ => ?_) fun _ _ h' => h')))
  cases r with
  | none => exact wpAny_pure h₁
  | some v =>
    refine wpAny_bind (wpAny_mono h₁ (fun _ s₁' h₁' => ?_) fun _ _ h' => h')
    refine wpAny_bind (wpAny_mono h₁' (fun _ s₂ h₂ => ?_) fun _ _ h' => h')
    refine wpAny_bind (wpAny_mono h₂ (fun x s₄ h₄ => ?_) fun _ _ h' => h')
    refine wpAny_bind (wpAny_standAt (wpAny_bind (wpAny_of_eq (hfs x) (wpAny_bind (wpAny_holding (wpAny_mono h₄ (fun it2 s₅ h₅ => ?_) fun _ _ h' => h'))))))
    refine wpAny_bind (wpAny_runOwn (h₅ _ fun s₆ h₆ => ?_))
    exact wpAny_pure ⟨rfl, h₆⟩
end
section
variable {w : World} {A : Around} {E : Value → Shared → Prop} {B : Heap} {fr mu : List Addr} {s₀ s : Shared} {L : Addr} {m : Str → Option Value} {T S : Sto} {own : List (Addr × Obj)} {env : Env} {elt i0 i1 : Expr} {scope : Scope} {cl : List (Str × Addr)} {pos p0 p1 : Pos} {y0 y1 : Str}

/-- the inner clause of a comprehension: what is asked -/
structure Inner (w : World) (A : Around) (B : Heap) (T : Sto) (s₀ : Shared) (fr mu : List Addr) (L : Addr) (m : Str → Option Value) (cenv : Env) (elt : Expr) (y0 y1 : Str) (C D : Addr) (v : Value) (Z : Nat) (od : Obj) (out₀ : List Value) (Fin : List Value → Sto → Prop) (S : Sto) (own : List (Addr × Obj)) (it : Value) (s : Shared) : Prop where
  go : ∃ S₃ ows n P V, ∃ J : Nat → List Value → Sto → Prop, Fx B T s₀ fr mu L m S₃ (ows ++ own) s ∧ (∀ a o, S a o → S₃ a o) ∧ P 0 S₃ ows ∧ Itn w A n it P V ∧ J 0 out₀ S₃ ∧ (∀ j out S, J j out S → out.length < Z) ∧ (∀ out S, J n out S → Fin out S) ∧
    ∀ j out S rest s oc od mc v2 E, j < n → V j v2 → J j out S → (∀ a o, S₃ a o → S a o) → Fx B T s₀ fr mu L m S ((C, oc) :: (D, od) :: rest) s → NsO oc mc → mc y1 = some v2 → mc y0 = some v → wpAny (model pw w) A (eval elt cenv) (fun x s₅ => ∃ S', Fx B T s₀ fr mu L m S' ((C, oc) :: (D, od) :: rest) s₅ ∧ (∀ a o, S a o → S' a o) ∧ J (j + 1) (out ++ [x]) S') E s

theorem inner_loop {C D : Addr} {oc : Obj} {mc : Str → Option Value} {it v : Value} {k Z : Nat} {out₀ : List Value} {rest : List (Addr × Obj)} {R : Result → Shared → Prop} {Fin : List Value → Sto → Prop} (hZ : Z ≤ sizeLine) (hy : y0 ≠ y1) (hx1 : scope.names.lookup y1 = some .local) (hkind : scope.kind = .function) (N : NsO oc mc) (hv : mc y0 = some v)
    (X : Inner w A B T s₀ fr mu L m (compEnvC scope cl C env) elt y0 y1 C D v Z (listOf out₀.toArray k) out₀ Fin S ((C, oc) :: (D, listOf out₀.toArray k) :: rest) it s)
    (h : ∀ S' oc mc out k s, (∀ a o, S a o → S' a o) → Fx B T s₀ fr mu L m S' ((C, oc) :: (D, listOf out.toArray k) :: rest) s → NsO oc mc → Fin out S' → R (.ok .next) s) :
    codeAny (model pw w) A (.compStart (.ListComp elt [⟨.Name y0 p0, i0, [], 0⟩, ⟨.Name y1 p1, i1, [], 0⟩] scope pos) 1 it (.ref D) (compEnvC scope cl C env)) R s := by
  obtain ⟨S₃, ows, n, P, V, J, F, M, p, It, j0, hz, hfin, step⟩ := X.go
  have F₀ := F.perm (own' := (C, oc) :: (D, listOf out₀.toArray k) :: (ows ++ rest)) (List.perm_append_comm_assoc ows [(C, oc), (D, listOf out₀.toArray k)] rest)
  have go : codeAny (model pw w) A (.compLoop (.ListComp elt [⟨.Name y0 p0, i0, [], 0⟩, ⟨.Name y1 p1, i1, [], 0⟩] scope pos) 1 it (.ref D) (compEnvC scope cl C env)) R s := by
    refine compLoop_in (fun q s' => ∃ j out S oc mc k ows, Fx B T s₀ fr mu L m S ((C, oc) :: (D, listOf out.toArray k) :: (ows ++ rest)) s' ∧ NsO oc mc ∧ mc y0 = some v ∧ (∀ a o, S₃ a o → S a o) ∧ P j S ows ∧ J j out S ∧ j ≤ n ∧ q = n - j) ?_ n
      ⟨0, out₀, S₃, oc, mc, k, ows, F₀, N, hv, fun _ _ h => h, p, j0, Nat.zero_le _, rfl⟩
    rintro q s' ⟨j, out, S, oc, mc, k, ows, F, N, hv, M', p, jj, hj, rfl⟩
    have F := F.perm (own' := ows ++ (C, oc) :: (D, listOf out.toArray k) :: rest) (List.perm_append_comm_assoc [(C, oc), (D, listOf out.toArray k)] ows rest)
    by_cases hlt : j < n
    · refine It.item hlt p F fun v2 s₁ ows' F p hv2 => ?_
      refine wpAny_of_eq (show letOwnedTupleGo (.Name y1 p1) it v2 = pure () by rfl) ?_
      have F := F.perm (own' := (C, oc) :: (D, listOf out.toArray k) :: (ows' ++ rest)) (List.perm_append_comm_assoc ows' [(C, oc), (D, listOf out.toArray k)] rest)
      refine wpAny_assign_Name (stoO F N (fun s₂ oc' F N => ?_) rfl (lookup_relabel_local hx1) (by simp [compEnvC, relabel, hkind]))
      refine wpAny_mono (step j out S (ows' ++ rest) s₂ oc' _ _ v2 _ hlt hv2 jj M' F N (by simp) (by simp [hy, hv])) (fun x s₃ ⟨S', F, M2, j'⟩ => ?_) fun _ _ e => e
      have := hz _ _ _ jj
      refine app F.swap (by omega) fun s₄ k' F => ?_
      exact ⟨n - (j + 1), by omega, j + 1, out ++ [x], S', oc', _, k', ows', F.swap, N, by simp [hy, hv], fun a o h => M2 _ _ (M' _ _ h), It.mono p M2, j', hlt, rfl⟩
    · have : j = n := by omega
      subst this
      exact It.done p F fun s₁ F => h S oc mc out k s₁ (fun a o q => M' _ _ (M _ _ q)) F N (hfin _ _ jj)
  exact compStart_nest 1 (.inr rfl) go (It.self p F go)

theorem ncomp {Q : Value → Shared → Prop} (_F : Fx B T s₀ fr mu L m S own s) (Z : Nat) (hZ : Z ≤ sizeLine) (hclos : closureFor scope env = pure cl)
    (h : wpAny (model pw w) A (eval i0 env) (fun x s₁ => wpAny (model pw w) A (pyIter x) (fun it s₂ => ∃ S₂ ows n P V, ∃ J : Nat → List Value → Sto → Prop, Fx B T s₀ fr mu L m S₂ (ows ++ own) s₂ ∧ P 0 S₂ ows ∧ Itn w A n it P V ∧ J 0 [] S₂ ∧
      (∀ i out S rest s C oc D k mc v E, i < n → V i v → J i out S → (∀ a o, S₂ a o → S a o) → Fx B T s₀ fr mu L m S ((C, oc) :: (D, listOf out.toArray k) :: rest) s → (∀ p ∈ own, p ∈ rest) → NsO oc mc → mc y0 = some v →
        wpAny (model pw w) A (eval i1 (compEnvC scope cl C env)) (fun x s₃ => wpAny (model pw w) A (pyIter x) (fun it2 s₄ => Inner w A B T s₀ fr mu L m (compEnvC scope cl C env) elt y0 y1 C D v Z (listOf out.toArray k) out (J (i + 1)) S ((C, oc) :: (D, listOf out.toArray k) :: rest) it2 s₄) E s₃) E s) ∧
      (∀ D out S k s, J n out S → Fx B T s₀ fr mu L m S ((D, listOf out.toArray k) :: own) s → Q (.ref D) s)) E s₁) E s)
    (hy : y0 ≠ y1 := by decide) (hx0 : scope.names.lookup y0 = some .local := by rfl) (hx1 : scope.names.lookup y1 = some .local := by rfl)
    (hkind : scope.kind = .function := by rfl) (hcell : ∀ y ∈ scope.names, y.2 ≠ .cell := by decide) (hnames : ∀ x ∈ scope.names, x.2 = .local → scope.names.lookup x.1 = some .local := by decide)
    (hs : ∀ x, foldedSetIterable i0 env x = pure x := by intro _; rfl) (hs1 : ∀ C x, foldedSetIterable i1 (compEnvC scope cl C env) x = pure x := by intro _ _; rfl) :
    wpAny (model pw w) A (eval (.ListComp elt [⟨.Name y0 p0, i0, [], 0⟩, ⟨.Name y1 p1, i1, [], 0⟩] scope pos) env) Q E s := by
  rw [eval_ListComp]
  refine wpAny_comprehension_free rfl hs hclos hkind hnames (wpAny_mono h (fun x s₁ h₁ => wpAny_mono h₁ (fun it s₂ h₂ => ?_) fun _ _ e => e) fun _ _ e => e)
  obtain ⟨S₂, ows, n, P, V, J, F, p, It, j0, step, hfin⟩ := h₂
  refine newL F (fun D s₃ F => ?_) (by show 0 ≤ _; omega)
  refine wpAny_newFunctionEnv hcell (by intro y hy; simp at hy) (fun h₁ hns₁ hsb₁ => ?_) hkind
  obtain ⟨oc, e, N⟩ := NsO.of hns₁
  have F := (F.push { cls := .type "dict", data := .dict #[] }).upd (tk := s₃.toks + ([] : List (Str × Value)).length) hsb₁ e
  generalize s₃.heap.objs.size = C at F N e hns₁ hsb₁ ⊢
  have F := F.perm (own' := ows ++ (C, oc) :: (D, listOf #[] 0) :: own) (List.perm_append_comm_assoc [(C, oc), (D, listOf #[] 0)] ows own)
  generalize hs₄ : ({ s₃ with heap := h₁, toks := s₃.toks + ([] : List (Str × Value)).length } : Shared) = s₄ at F ⊢
  clear hs₄ e hns₁ hsb₁
  have go : codeAny (model pw w) A (.compLoop (.ListComp elt [⟨.Name y0 p0, i0, [], 0⟩, ⟨.Name y1 p1, i1, [], 0⟩] scope pos) 0 it (.ref D) (compEnvC scope cl C env)) (compPost (model pw w) A E none Q (.ref D) C) s₄ := by
    refine compLoop_nest (hs1 C) (fun q s' => ∃ i out S oc mc k ows, Fx B T s₀ fr mu L m S (ows ++ (C, oc) :: (D, listOf out.toArray k) :: own) s' ∧ NsO oc mc ∧ (∀ a o, S₂ a o → S a o) ∧ P i S ows ∧ J i out S ∧ i ≤ n ∧ q = n - i) ?_ n
      ⟨0, [], S₂, oc, _, 0, ows, F, N, fun _ _ h => h, p, j0, Nat.zero_le _, rfl⟩
    rintro q s' ⟨i, out, S, oc, mc, k, ows, F, N, M, p, jj, hi, rfl⟩
    by_cases hlt : i < n
    · refine It.item hlt p F fun v s₁ ows' F p hv => ?_
      refine wpAny_of_eq (show letOwnedTupleGo (.Name y0 p0) it v = pure () by rfl) ?_
      have F := F.perm (own' := (C, oc) :: (D, listOf out.toArray k) :: (ows' ++ own)) (List.perm_append_comm_assoc ows' [(C, oc), (D, listOf out.toArray k)] own)
      refine wpAny_assign_Name (stoO F N (fun s₂ oc' F N => ?_) rfl (lookup_relabel_local hx0) (by simp [compEnvC, relabel, hkind]))
      refine wpAny_mono (step i out S (ows' ++ own) s₂ C oc' D k _ v _ hlt hv jj M F (fun p hp => List.mem_append_right _ hp) N (by simp)) (fun x s₃ h₃ => wpAny_mono h₃ (fun it2 s₄ X R' hR => ?_) fun _ _ e => e) fun _ _ e => e
      refine inner_loop hZ hy hx1 hkind N (v := v) (by simp) X fun S' oc mc out k s₅ M2 F N hF => hR _ ?_
      have F := F.perm (own' := ows' ++ (C, oc) :: (D, listOf out.toArray k) :: own) (List.perm_append_comm_assoc [(C, oc), (D, listOf out.toArray k)] ows' own)
      exact ⟨n - (i + 1), by omega, i + 1, out, S', oc, mc, k, ows', F, N, fun a o h => M2 _ _ (M _ _ h), It.mono p M2, hF, hlt, rfl⟩
    · have : i = n := by omega
      subst this
      exact It.done p F fun s₁ F => ⟨mc, N.at (F.mine _ (.head _)).1, fun h' hs' => hfin D out S k _ jj (F.letGo hs')⟩
  exact compStart_nest 0 (.inl rfl) go (It.self p F go)
end
end DescLaw
end
section
open PySem PySem.W PyProof.Rows PySem.Calls
set_option Elab.async false
set_option maxRecDepth 100000
namespace DescLaw
theorem DocAt.handed {P : Params} {S : Sto} {d : Doc} (h : DocAt P S d) : handedIn d.val = true := by
  cases h with
  | @leaf v h => cases v <;> first | rfl | (simp [isLeaf] at h)
  | dict => rfl
  | list => rfl
theorem pathTruth {P : Params} {S : Sto} {v : Value} {p : Path} (h : PathAt P S v p) : ∃ q D l, v = .ref q ∧ Inst P S q D l ∧ truthOk P D = true := by
  cases h with
  | root h => exact ⟨_, _, _, rfl, h, by kernel_rfl⟩
  | this h => exact ⟨_, _, _, rfl, h, by kernel_rfl⟩
  | wild h => exact ⟨_, _, _, rfl, h, by kernel_rfl⟩
  | fields h => exact ⟨_, _, _, rfl, h, by kernel_rfl⟩
  | index h => exact ⟨_, _, _, rfl, h, by kernel_rfl⟩
  | slice _ h => exact ⟨_, _, _, rfl, h, by kernel_rfl⟩
  | child h => exact ⟨_, _, _, rfl, h, by kernel_rfl⟩
  | union h => exact ⟨_, _, _, rfl, h, by kernel_rfl⟩
  | desc h => exact ⟨_, _, _, rfl, h, by kernel_rfl⟩
theorem kp_find (P : Params) (p : Path) : keepIn (K P) (.ref (findOf p)) = true := by cases p <;> kernel_rfl
section
variable {w : World} {A : Around} {E : Value → Shared → Prop} {B : Heap} {fr mu : List Addr} {s₀ s : Shared} {L : Addr} {m : Str → Option Value} {T S : Sto} {own : List (Addr × Obj)}
theorem getFind {v : Value} {p : Path} {pl : Sem Bool} {Q : Value × List Value → Shared → Prop} (hB : Hp w B) (F : Fx B T s₀ fr mu L m S own s) (h : PathAt w.params S v p) (hq : Q (.ref (findOf p), [v]) s) : wpAny (model pw w) A (getMethod v (Str.ofString "find") pl) Q E s := by
  cases h with
  | root h => exact getM hB F h rfl (by kernel_rfl) (by kernel_rfl) (by kernel_rfl) hq
  | this h => exact getM hB F h rfl (by kernel_rfl) (by kernel_rfl) (by kernel_rfl) hq
  | wild h => exact getM hB F h rfl (by kernel_rfl) (by kernel_rfl) (by kernel_rfl) hq
  | fields h => exact getM hB F h rfl (by kernel_rfl) (by kernel_rfl) (by kernel_rfl) hq
  | index h => exact getM hB F h rfl (by kernel_rfl) (by kernel_rfl) (by kernel_rfl) hq
  | slice _ h => exact getM hB F h rfl (by kernel_rfl) (by kernel_rfl) (by kernel_rfl) hq
  | child h => exact getM hB F h rfl (by kernel_rfl) (by kernel_rfl) (by kernel_rfl) hq
  | union h => exact getM hB F h rfl (by kernel_rfl) (by kernel_rfl) (by kernel_rfl) hq
  | desc h => exact getM hB F h rfl (by kernel_rfl) (by kernel_rfl) (by kernel_rfl) hq

/-- a class's classmethod is looked up: a bound method -/
theorem getC {C p f : Addr} {rest : List Value} {name : Str} {pl : Sem Bool} {Q : Value × List Value → Shared → Prop} (hB : Hp w B) (F : Fx B T s₀ fr mu L m S own s) (hg : specialIn (K w.params) (.ref C) "__getattribute__" = some (some (.builtin "type.__getattribute__")))
    (hm : typeIn (K w.params) (.ref C) = some (.type "type")) (hr : readsIn (K w.params) C (.type "type") = true) (e : findCls (K w.params) (.ref C) (.type "type") name = some (.get (.builtin "classmethod.__get__") (.ref p) .none (.ref C))) (hp : recIn (K w.params) p "classmethod" = some (.ref f :: rest))
    (h : ∀ q s', Fx B T s₀ fr mu L m S ((q, methodObj (.ref f) (.ref C)) :: own) s' → Q (.ref q, []) s') : wpAny (model pw w) A (getMethod (.ref C) name pl) Q E s := by
  refine method_of_cls F.toFr hB.k hg (cls_cm F.toFr hB.k F.toNews hm hr e hp fun q h' F' N' l => ?_)
  have hq := fresh_lt F l (N' _ (.head _)).2.1 (N' _ (.head _)).2.2
  refine h q _ (F.back (own' := (q, methodObj (.ref f) (.ref C)) :: own) F' N' (fun p hp => ?_) (List.pairwise_cons.mpr ⟨fun p hp => Ne.symm (Nat.ne_of_lt (l p (List.mem_append_left _ hp))), F.apart⟩))
  rcases List.mem_cons.mp hp with rfl | hp
  · exact .inr hq
  · exact .inl (List.mem_map_of_mem hp)
/-- and called -/
theorem callC {C q f : Addr} {env : Env} {pos : Pos} {e : Expr} {rest : List Expr} {first : List Value} {Q : Value → Shared → Prop} (hB : Hp w B) (F : Fx B T s₀ fr mu L m S ((q, methodObj (.ref f) (.ref C)) :: own) s) (hf : fnIn (K w.params) f = true)
    (h : wpAny (model pw w) A (spliced (backTo pos (starEach (e :: rest) env))) (fun vs s₁ => ∃ S', Fx B T s₀ fr mu L m S' ((q, methodObj (.ref f) (.ref C)) :: own) s₁ ∧ first = [] ∧ codeAny (model pw w) A (.call (.ref f) ⟨.ref C :: vs, []⟩) (fun r s' => match r with | .ok (.ret v) => Q v s' | .ok _ => False | .error e => E e s') s₁) E s)
    (he : starEach (e :: rest) env = (false, eval e env) :: starEach rest env := by rfl) (hplain : (backTo pos (starEach rest env)).any (·.1) = false := by rfl) :
    wpAny (model pw w) A (callWith pos (.ref q) first (backTo pos (starEach (e :: rest) env)) []) Q E s :=
  callWith_M hB.k F.toNews (.head _) hf (wpAny_mono h (fun vs s₁ ⟨S', F, e, c⟩ => ⟨⟨(F.mine _ (.head _)).1, (hB.at F.st).k⟩, wpAny_call (method_call (F.mine _ (.head _)).1 (by subst e; exact c))⟩) fun _ _ e => e) he hplain
end

section
variable {w : World} {A : Around} {B : Heap} {fr : List Addr} {s : Shared} {S : Sto}
theorem wrap_ {R : Result → Shared → Prop} {v : Value} {f : Fnd} {b : Bool} (hB : Hp w B) (C : Cx A fr 4) (st : St B fr s) (H : Has S fr s) (I : InAt w.params S b v f)
    (h : ∀ v' s' S', Out fr [] S s S' s' → DatumAt w.params S' v' f → R (.ok (.ret v')) s') : codeAny (model pw w) A (.call (.ref f_DatumInContext_wrap) ⟨[.ref C_DatumInContext, v], []⟩) R s := by
  refine enter (n := 3) (own := []) (mu := []) (S := S) (binds := [(Str.ofString "cls", .ref C_DatumInContext), (Str.ofString "data", v)]) .nil hB C st H (by rfl) (by kernel_rfl) (BindsTo.of_eq rfl) (by decide) (locs rfl) (fun L h₁ tk F C' => ?_) rfl rfl rfl
  refine wpAny_execs_cons (wpAny_If (isTrue_plain (cb (hB.at F.st) (kn_isi _) bn_isi (spliced_more (nm F rfl (spliced_more (nm F rfl (spliced_none ?_))))))))
  cases I with
  | dat D =>
    obtain ⟨x, pv, cv, rfl, I⟩ := D.inst
    refine isi1 hB F (Kd.own I (dat_ownOk _)) (b := true) (by kernel_rfl) fun s₁ F => wpAny_truthy_bool ?_
    rw [if_pos rfl]
    exact wpAny_execs_cons (wpAny_Return_some (nm F rfl (h _ _ _ F.out0 D)))
  | @raw _ a cs D fit =>
    refine isi1 hB F (Kd.doc D) (b := false) (by kernel_rfl) fun s₁ F => wpAny_truthy_bool ?_
    rw [if_neg (by decide)]
    refine wpAny_execs_cons (wpAny_Return_some (wpAny_Call_Name_kw (nm F rfl (callWith_K (hB.at F.st).k (kp_Dat _) (spliced_more (nm F rfl (spliced_none ⟨(hB.at F.st).k, ?_⟩)))))))
    exact dat (n := 0) hB C' F (.inr (.inr ⟨rfl, rfl, rfl⟩)) (.inl rfl) (.inl rfl) fun x s₂ S₂ pv F M I _ => h _ _ _ F.out0 (.top I (D.mono M) fit)

theorem kn_Root (P : Params) : nsIn (K P) mainGlobals (Str.ofString "Root") = some (some (.ref C_Root)) := by kernel_rfl
theorem kp_Root (P : Params) : keepIn (K P) (.ref C_Root) = true := by kernel_rfl

/-- DatumInContext.wrap(x), x a local name, in a def's body -/
theorem wrapE {E : Value → Shared → Prop} {Q : Value → Shared → Prop} {mu : List Addr} {s₀ : Shared} {L : Addr} {m : Str → Option Value} {T : Sto} {own : List (Addr × Obj)} {env : Env} {y : Str} {p1 p2 p3 pos : Pos} {v : Value} {f : Fnd} {b : Bool} {pl : Sem Bool} (hB : Hp w B) (C : Cx A (L :: fr) 4) (F : Fx B T s₀ fr mu L m S own s) (hv : m y = some v) (I : InAt w.params S b v f)
    (h : ∀ v' s' S', Fx B T s₀ fr mu L m S' own s' → (∀ a o, S a o → S' a o) → DatumAt w.params S' v' f → Q v' s')
    (hL : env.locals = L := by rfl) (hk : env.scope.kind = .function := by rfl) (hx : env.kindOf y = some .local := by rfl) (hd : (y == ("__debug__" : Str)) = false := by decide)
    (hg : env.globals = mainGlobals := by rfl) (hx2 : env.kindOf (Str.ofString "DatumInContext") = some .globalImplicit := by rfl)
    (he : eval (.Call (.Attribute (.Name (Str.ofString "DatumInContext") p1) (Str.ofString "wrap") p2) [.Name y p3] [] pos) env = (do
      let ov ← eval (.Name (Str.ofString "DatumInContext") p1) env
      standAt p2.atName
      let (f, first) ← holding [ov] (getMethod ov (Str.ofString "wrap") pl)
      callWith pos f first (backTo pos (starEach [.Name y p3] env)) []) := by rfl) :
    wpAny (model pw w) A (eval (.Call (.Attribute (.Name (Str.ofString "DatumInContext") p1) (Str.ofString "wrap") p2) [.Name y p3] [] pos) env) Q E s := by
  refine MethodCall_ (gl (hB.at F.st) (kn_Dat _) (getC hB F (by kernel_rfl) (by kernel_rfl) (by kernel_rfl) (p := 163) (by kernel_rfl) (f := f_DatumInContext_wrap) (by rfl) fun q s₁ F => callC hB F (by kernel_rfl) (spliced_more (nm F hv (spliced_none ⟨S, F, rfl, wrap_ hB C F.st F.has I fun v' s' S' O D => ?_⟩) hL hk hx hd))) hg hk hx2) he
  exact h v' s' S' (F.call O).drop O.sub D

theorem find_this (w : World) (B : Heap) (hB : Hp w B) : FindSpec w B .this := by
  intro A fr s S self v b f E Q C st H hp I hok hcap h
  cases hp with
  | @this x hx =>
  refine wpAny_call ?_
  refine enter (n := 7) (own := []) (mu := []) (S := S) (binds := [(Str.ofString "self", .ref x), (Str.ofString "datum", v)]) .nil hB C st H (by rfl) (by kernel_rfl) (BindsTo.of_eq rfl) (by decide) (locs rfl) (fun L h₁ tk F C' => ?_) rfl rfl rfl
  refine wpAny_execs_cons (wpAny_Return_some (List_ (spliced_more (wrapE hB (C'.le (by omega)) F rfl I fun v' s' S' F M D => spliced_none (newL F fun a s₂ F => ?_)))))
  exact h a _ _ [v'] 0 F.freeze.out0 (.inr ⟨rfl, rfl⟩) (.cons (D.mono fun _ _ h => .inl h) .nil)

theorem find_root (w : World) (B : Heap) (hB : Hp w B) : FindSpec w B .root := by
  intro A fr s S self v b f E Q C st H hp I hok hcap h
  cases hp with
  | @root x hx =>
  have hb : b = true := hok
  subst hb
  cases I with
  | @raw _ a cs D fit =>
  refine wpAny_call ?_
  refine enter (n := 7) (own := []) (mu := []) (S := S) (binds := [(Str.ofString "self", .ref x), (Str.ofString "data", .ref a)]) .nil hB C st H (by rfl) (by kernel_rfl) (BindsTo.of_eq rfl) (by decide) (locs rfl) (fun L h₁ tk F C' => ?_) rfl rfl rfl
  refine wpAny_execs_cons (wpAny_If (isTrue_not (isTrue_plain (cb (hB.at F.st) (kn_isi _) bn_isi (spliced_more (nm F rfl (spliced_more (gl (hB.at F.st) (kn_Dat _) (spliced_none (isi1 hB F (Kd.doc D) (b := false) (by kernel_rfl) fun s₁ F => wpAny_truthy_bool ?_))))))))))
  rw [if_pos (by decide)]
  refine wpAny_execs_cons (wpAny_Return_some (List_ (spliced_more (cfK (hB.at F.st) (kn_Dat _) (kp_Dat _) (spliced_more (nm F rfl (spliced_none (kwAll_cons (cf0 (hB.at F.st) (kn_Root _) (kp_Root _) (mk0 hB F (by kernel_rfl) (by kernel_rfl) fun y dy s₂ F _ _ => ?_))))))))))
  refine kwAll_cons (wpAny_Constant_none (kwAll_nil ⟨(hB.at F.st).k, ?_⟩))
  have I2 : Inst w.params ((S.add y (instObj C_Root dy)).add dy (dictOf [] 0)) y C_Root [] := ⟨dy, [], 0, [], .inl (.inr ⟨rfl, rfl⟩), .inr ⟨rfl, rfl⟩, .nil, fun _ => rfl⟩
  refine dat (n := 4) hB C' F (.inl rfl) (.inr ⟨y, _, _, rfl, I2, by kernel_rfl⟩) (.inl rfl) fun z s₃ S₃ pv F M I _ => spliced_none (newL F fun l s₄ F => ?_)
  exact h l _ _ [.ref z] 0 F.freeze.out0 (.inr ⟨rfl, rfl⟩) (.cons ((DatumAt.top I (D.mono fun a o h => M _ _ (.inl (.inl h))) fit).mono fun _ _ h => .inl h) .nil)
end
end DescLaw
end
section
open PySem PySem.W PyProof.Rows PySem.Calls
set_option Elab.async false
set_option maxRecDepth 100000
namespace DescLaw
theorem cap_pos : ∀ p : Path, 0 < cap p
  | .root => by simp [cap]
  | .this => by simp [cap]
  | .wild => by simp [cap]
  | .fields ks => by simp [cap]
  | .index _ => by simp [cap]
  | .slice _ _ => by simp [cap]
  | .child l r => Nat.mul_pos (cap_pos l) (cap_pos r)
  | .union l r => by have := cap_pos l; simp only [cap]; omega
  | .desc l r => Nat.mul_pos (cap_pos l) (Nat.mul_pos (by decide) (cap_pos r))
theorem take_flat {α β : Type} (l : List α) (F : α → List β) {i : Nat} {g : α} (h : l[i]? = some g) : (l.take (i + 1)).flatMap F = (l.take i).flatMap F ++ F g := by
  rw [List.take_add_one, h]; simp
theorem take_flat_len {α β : Type} (l : List α) (F : α → List β) (i : Nat) : ((l.take i).flatMap F).length ≤ (l.flatMap F).length := by
  conv => rhs; rw [← List.take_append_drop i l]
  rw [List.flatMap_append, List.length_append]; omega
theorem Datums.snoc {P : Params} {S : Sto} {vs : List Value} {fs : List Fnd} {v : Value} {f : Fnd} (h : Datums P S vs fs) (d : DatumAt P S v f) : Datums P S (vs ++ [v]) (fs ++ [f]) := h.append (.cons d .nil)
theorem million : (1000000 : Nat) ≤ sizeLine := by decide
section
variable {w : World} {A : Around} {B : Heap} {fr : List Addr} {s : Shared} {S : Sto}

theorem find_union (w : World) (B : Heap) (hB : Hp w B) {l r : Path} (hl : FindSpec w B l) (hr : FindSpec w B r) : FindSpec w B (.union l r) := by
  intro A fr s S self v b f E Q C st H hp I hok hcap h
  have hlen := find_len hp.good I.fit
  cases hp with
  | @union x lv rv _ _ hx pl pr =>
  have hok : (ok b l && ok b r) = true := hok
  rw [Bool.and_eq_true] at hok
  have hcap : cap l + cap r ≤ 1000000 := hcap
  have hlen : (find l f ++ find r f).length ≤ cap l + cap r := hlen
  rw [List.length_append] at hlen
  have C : Cx A fr (max (room l) (room r) + 2 + 1) := C
  refine wpAny_call ?_
  refine enter (n := max (room l) (room r) + 2) (own := []) (mu := []) (S := S) (binds := [(Str.ofString "self", .ref x), (Str.ofString "data", v)]) .nil hB C st H (by rfl) (by kernel_rfl) (BindsTo.of_eq rfl) (by decide) (locs rfl) (fun L h₁ tk F C' => ?_) rfl rfl rfl
  obtain ⟨_, _, _, rfl, _, _⟩ := pathTruth pl
  obtain ⟨_, _, _, rfl, _, _⟩ := pathTruth pr
  refine wpAny_execs_cons (wpAny_Return_some (wpAny_BinOp (MethodCall_ (Attribute_name (nm F rfl (getA hB F hx rfl (by kernel_rfl) (by kernel_rfl) (attr := none) (by kernel_rfl) (by kernel_rfl) rfl fun s₁ F => getFind hB F pl (callWith_K (hB.at F.st).k (kp_find _ _) (spliced_more (nm F rfl (spliced_none ⟨(hB.at F.st).k, ?_⟩))))))))))
  refine hl (C'.le (by omega)) F.st F.has pl I hok.1 (by omega) fun a s₂ S₂ vs n O ha hd => ?_
  have F := F.call O
  refine MethodCall_ (Attribute_name (nm F rfl (getA hB F (hx.mono O.sub) rfl (by kernel_rfl) (by kernel_rfl) (attr := none) (by kernel_rfl) (by kernel_rfl) rfl fun s₃ F => getFind hB F (pr.mono O.sub) (callWith_K (hB.at F.st).k (kp_find _ _) (spliced_more (nm F rfl (spliced_none ⟨(hB.at F.st).k, ?_⟩)))))))
  refine hr (C'.le (by omega)) F.st F.has (pr.mono O.sub) (I.mono O.sub) hok.2 (by omega) fun a' s₄ S₄ vs' n' O' ha' hd' => ?_
  have F := F.call O'
  have hz : vs.toArray.size + vs'.toArray.size ≤ sizeLine := by
    have := hd.length; have := hd'.length; have := million
    simp only [List.size_toArray]; omega
  refine P.add_list (F.has.get (O'.sub _ _ ha)) (F.has.get ha') ?_ hz
  have e : vs.toArray ++ vs'.toArray = (vs ++ vs').toArray := by simp
  rw [e]
  have F := F.push { cls := .type "list", data := .seq (vs ++ vs').toArray }
  exact h _ _ _ _ _ F.freeze.out0 (.inr ⟨rfl, rfl⟩) (((hd.mono O'.sub).append hd').mono fun _ _ h => .inl h)

theorem find_child (w : World) (B : Heap) (hB : Hp w B) {l r : Path} (hl : FindSpec w B l) (hr : FindSpec w B r) : FindSpec w B (.child l r) := by
  intro A fr s S self v b f E Q C st H hp I hok hcap h
  have gd := hp.good
  cases hp with
  | @child x lv rv _ _ hx pl pr =>
  have hok : (ok b l && ok false r) = true := hok
  rw [Bool.and_eq_true] at hok
  have hcap : cap l * cap r ≤ 1000000 := hcap
  have C : Cx A fr (max (room l) (room r) + 2 + 1) := C
  refine wpAny_call ?_
  refine enterC (n := max (room l) (room r) + 2) (own := []) (mu := []) (S := S) (binds := [(Str.ofString "self", .ref x), (Str.ofString "datum", v)]) .nil hB C st H (by rfl) (by kernel_rfl) (BindsTo.of_eq rfl) (by rfl) (by decide) (fun L h₁ tk cells Ce F C' => ?_) rfl rfl rfl
  obtain ⟨o, rfl, hod⟩ := Ce.one
  obtain ⟨_, _, _, rfl, _, _⟩ := pathTruth pl
  obtain ⟨_, _, _, rfl, _, _⟩ := pathTruth pr
  refine wpAny_execs_cons (wpAny_Return_some (ncomp F (cl := [(Str.ofString "self", L + 1)]) 1000001 (by decide) rfl ?_))
  refine MethodCall_ (Attribute_name (nmC F (.head _) hod (getA hB F hx rfl (by kernel_rfl) (by kernel_rfl) (attr := none) (by kernel_rfl) (by kernel_rfl) rfl fun s₁ F => getFind hB F pl (callWith_K (hB.at F.st).k (kp_find _ _) (spliced_more (nm F rfl (spliced_none ⟨(hB.at F.st).k, ?_⟩)))))))
  refine hl (C'.le (by omega)) F.st F.has pl I hok.1 ?_ fun a s₂ S₂ vs n O ha hd => ?_
  · exact Nat.le_trans (Nat.le_mul_of_pos_right _ (cap_pos r)) hcap
  have F := F.call O
  refine iterL F ha fun I s₃ ows F p0 => ?_
  refine ⟨S₂, ows, vs.length, LI I a vs, _, fun i out S => Datums w.params S out (((find l f).take i).flatMap (find r)), F, p0, Itn.list C'.handled, .nil, fun i out S₃ rest s₄ C₂ oc D k mc g E' hi hv J M F hown N hg => ?_, fun D out S₃ k s₄ J F => ?_⟩
  · obtain ⟨f', hf', dg⟩ := hd.get hv
    have hlen : ((find l f).flatMap (find r)).length ≤ cap l * cap r := find_len gd ‹InAt _ _ _ _ f›.fit
    refine MethodCall_ (Attribute_name (nmC F (.tail _ (.tail _ (hown _ (.head _)))) hod (getA hB F (hx.mono fun a o h => M _ _ (O.sub a o h)) rfl (by kernel_rfl) (by kernel_rfl) (attr := none) (by kernel_rfl) (by kernel_rfl) rfl fun s₅ F => getFind hB F (pr.mono fun a o h => M _ _ (O.sub a o h)) (callWith_K (hB.at F.st).k (kp_find _ _) (spliced_more (nmO F (.head _) N hg (spliced_none ⟨(hB.at F.st).k, ?_⟩)))))))
    refine hr (C'.le (by omega)) F.st F.has (pr.mono fun a o h => M _ _ (O.sub a o h)) (.dat (dg.mono M)) hok.2 (Nat.le_trans (Nat.le_mul_of_pos_left _ (cap_pos l)) hcap) fun a2 s₆ S₄ vs2 n2 O2 ha2 hd2 => ?_
    have F := F.call O2
    refine iterL F ha2 fun I2 s₇ ows2 F p2 => ?_
    refine ⟨S₄, ows2, vs2.length, LI I2 a2 vs2, _, fun j out S => Datums w.params S out (((find l f).take i).flatMap (find r) ++ (find r f').take j), F, O2.sub, p2, Itn.list C'.handled, ?_, fun j out S J2 => ?_, fun out S J2 => ?_, fun j out S rest s₈ oc od mc v2 E' hj hv2 J2 M2 F N h1 h0 => ?_⟩
    · simpa using J.mono O2.sub
    · have e1 := Datums.length J2
      have e2 := take_flat_len (find l f) (find r) (i + 1)
      rw [take_flat _ _ hf'] at e2
      simp only [List.length_append, List.length_take] at e1 e2
      omega
    · have J2 : Datums w.params S out (((find l f).take i).flatMap (find r) ++ (find r f').take vs2.length) := J2
      rw [List.take_of_length_le (l := find r f') (by rw [hd2.length]; exact Nat.le_refl _)] at J2
      show Datums _ _ _ _
      rw [take_flat _ _ hf']; exact J2
    · obtain ⟨f2, hf2, d2⟩ := hd2.get hv2
      refine nmO F (.head _) N h1 ⟨S, F, fun _ _ h => h, ?_⟩
      show Datums _ _ _ (_ ++ List.take (j + 1) _)
      rw [List.take_add_one, hf2, ← List.append_assoc]
      exact J2.snoc (d2.mono M2)
  · have J : Datums w.params S₃ out (((find l f).take vs.length).flatMap (find r)) := J
    rw [List.take_of_length_le (l := find l f) (by rw [hd.length]; exact Nat.le_refl _)] at J
    exact h D s₄ _ out k F.freeze.out0 (.inr ⟨rfl, rfl⟩) (J.mono fun _ _ h => .inl h)
end
end DescLaw
end
section
open PySem PySem.W PyProof.Rows PySem.Calls
set_option Elab.async false
set_option maxRecDepth 100000
namespace DescLaw
section
variable {w : World} {B : Heap} {A : Around} {fr mu : List Addr} {n : Nat} {s : Shared} {S : Sto} {f : Addr} {name qual : Str} {params : Arguments} {body : List Stmt} {scope : Scope} {dV kV doc pm cdv ct oc : Value} {an od : Option Addr} {osl : Array (Option Value)}
  {args : Args} {R : Result → Shared → Prop}
theorem Fx.start {own : List (Addr × Obj)} {L : Addr} {m : Str → Option Value} {h₁ : Heap} {tk : Nat} (Le : Lent B S fr mu s own) (st : St B fr s) (H : Has S fr s) (hns : h₁.Ns L m) (nL : s.heap.get? L = none) (hsz : B.objs.size ≤ L) (hk₁ : ∀ b o, s.heap.get? b = some o → h₁.get? b = some o) : Fx B S s fr mu L m S own { s with heap := h₁, toks := tk } := by
  refine ⟨hns, nL, Grow.of_keeps _ _ hk₁, fun a o q => ?_, fun p hp => ?_, Le.2, ⟨fun b o e => hk₁ b o (st.base b o e), fun b q => ?_, st.bare, ⟨⟨_, .head _, hsz⟩, .tail _ st.size.2.1, st.size.2.2⟩⟩, st.base, hsz, fun _ _ h => h, fun _ _ h => .inl h⟩
  · obtain ⟨e1, e2⟩ := H a o q
    refine ⟨hk₁ a o e1, fun q' => ?_⟩
    rcases List.mem_cons.mp q' with rfl | q'
    · rw [nL] at e1; cases e1
    · exact e2 q'
  · obtain ⟨h1, h2, h3, h4, h5⟩ := Le.1 p hp
    refine ⟨hk₁ _ _ h1, fun q => ?_, .inr ⟨h3, h4⟩, h5⟩
    rcases List.mem_cons.mp q with q | q
    · rw [q, nL] at h1; cases h1
    · exact h2 q
  · rcases List.mem_cons.mp q with rfl | q
    · refine ⟨?_, ?_⟩
      · cases e : B.get? b with
        | none => rfl
        | some o => rw [st.base _ _ e] at nL; cases nL
      · obtain ⟨o, es, ep, e, d, _⟩ := hns
        exact ⟨o, e, .dict (ne_tab hsz st.size.2.2) d⟩
    · obtain ⟨n0, o, e, d⟩ := st.frs b q
      exact ⟨n0, o, hk₁ b o e, d⟩
theorem Fx.adopt {T : Sto} {s₀ : Shared} {own : List (Addr × Obj)} {L a : Addr} {o : Obj} {m : Str → Option Value} (x : Fx B T s₀ fr mu L m S own s) (hn : s₀.heap.get? a = none) (ho : s.heap.get? a = some o) (hf : a ∉ L :: fr) (hS : ∀ o, ¬ S a o) (hown : ∀ p ∈ own, p.1 ≠ a) : Fx B T s₀ fr mu L m S ((a, o) :: own) s :=
  { x with
    mine := fun p hp => by
      rcases List.mem_cons.mp hp with rfl | hp
      · exact ⟨ho, hf, .inl hn, hS⟩
      · exact x.mine p hp
    apart := List.pairwise_cons.mpr ⟨fun p hp => Ne.symm (hown p hp), x.apart⟩ }

/-- a def with *args is entered -/
theorem enterV {own : List (Addr × Obj)} {vs : List Value} {front : List (Str × Value)} {nm : Str} (Le : Lent B S fr mu s own) (hB : Hp w B) (C : Cx A fr (n + 1)) (st : St B fr s) (H : Has S fr s)
    (hk : (K w.params).lookup f = some ⟨oc, od, .func (fnX name qual params body scope [] dV kV doc pm an cdv ct), osl⟩) (hcd : codeIn (K w.params) cdv qual = true)
    (hb : bindArgs (fnX name qual params body scope [] dV kV doc pm an cdv ct) args = (newTuple vs >>= fun t => pure (front ++ [(nm, t)]))) (hvs : vs.length ≤ sizeLine)
    (hcell : ∀ x ∈ scope.names, x.2 ≠ .cell) (hloc : ∀ t : Value, ∀ y ∈ front ++ [(nm, t)], scope.names.lookup y.1 = some .local)
    (h : ∀ L D h₁ tk, Fx B S s fr mu L (fun y => (front ++ [(nm, Value.ref D)]).reverse.lookup y) S ((D, tupOf vs) :: own) { s with heap := h₁, toks := tk } → Cx (A.deeper (envX qual scope L f cdv [])) (L :: fr) n →
      wpAny (model pw w) (A.deeper (envX qual scope L f cdv [])) (execs body (envX qual scope L f cdv [])) (fun fl s' => R (.ok (.ret (match fl with | .ret v => v | _ => .none))) s') (fun _ _ => False) { s with heap := h₁, toks := tk })
    (hco : scope.isCoroutine = false) (hgen : scope.isGenerator = false) (hkd : scope.kind = .function) : codeAny (model pw w) A (.call (.ref f) args) R s := by
  have Hh := hB.at st
  refine codeAny_call_function (fd := fnX name qual params body scope [] dV kV doc pm an cdv ct) C.room (Hh.k _ _ hk) rfl hco hgen rfl (codeRec_of Hh.k hcd) ?_
  rw [hb]
  refine wpAny_bind (wpAny_newObj_type ?_ (by show vs.toArray.size ≤ sizeLine; rw [List.size_toArray]; exact hvs))
  refine wpAny_pure (wpAny_newFunctionEnv (scope := scope) hcell (hloc _) (fun h₁ hns hsb => ⟨?_, codeAny_func ?_⟩) hkd)
  · exact (Hh.nolimit.keeps fun b o e => Heap.get?_push_of_some _ e).fresh _ hsb
  have nD : s.heap.get? s.heap.objs.size = none := Heap.get?_none_of_le (Nat.le_refl _)
  dsimp only at hns hsb ⊢
  rw [Heap.size_push] at hns hsb ⊢
  have nL : s.heap.get? (s.heap.objs.size + 1) = none := Heap.get?_none_of_le (Nat.le_succ _)
  have hsz : B.objs.size ≤ s.heap.objs.size := by
    obtain ⟨⟨b, hb, hl⟩, _⟩ := st.size
    obtain ⟨_, o, e, _⟩ := st.frs b hb
    exact Nat.le_trans hl (Nat.le_of_lt (Heap.lt_size e))
  have hk₁ : ∀ b o, s.heap.get? b = some o → h₁.get? b = some o := fun b o e => hsb.extBut b o (Nat.ne_of_lt (Nat.lt_succ_of_lt (Heap.lt_size e))) (Heap.get?_push_of_some _ (Heap.get?_push_of_some _ e))
  have eD : h₁.get? s.heap.objs.size = some (tupOf vs) := hsb.extBut _ _ (Nat.ne_of_lt (Nat.lt_succ_self _)) (Heap.get?_push_of_some _ (Heap.get?_push_size _ rfl))
  have F := Fx.start (tk := s.toks + (front ++ [(nm, Value.ref s.heap.objs.size)]).length) Le st H hns nL (Nat.le_succ_of_le hsz) hk₁
  have F := F.adopt nD eD (fun q => by
    rcases List.mem_cons.mp q with q | q
    · exact absurd q (Nat.ne_of_lt (Nat.lt_succ_self _))
    · obtain ⟨_, o, e, _⟩ := st.frs _ q
      rw [nD] at e; cases e) (fun o q => by rw [(H _ o q).1] at nD; cases nD) fun p hp q => by
        have := (Le.1 p hp).1
        rw [q, nD] at this; cases this
  exact wpAny_mono (h _ _ h₁ _ F (C.deeper rfl hkd (ne_tab (Nat.le_succ_of_le hsz) st.size.2.2))) (fun _ _ x => x) fun _ _ x => x.elim
end
end DescLaw
end
section
open PySem PySem.W PyProof.Rows PySem.Calls
set_option Elab.async false
set_option maxRecDepth 100000
namespace DescLaw
/-! constructors -/
theorem lookup2 {a b : Str} {x y : Value} {as : List (Str × Value)} (l : ∀ k, as.lookup k = if k = b then some y else if k = a then some x else ([] : List (Str × Value)).lookup k) (h : a ≠ b) (k : Str) : as.lookup k = [(a, x), (b, y)].lookup k := by
  rw [l]
  simp only [List.lookup_cons, List.lookup_nil]
  by_cases k1 : k = b
  · subst k1; rw [beq_eq_false_iff_ne.mpr (Ne.symm h)]; simp
  · by_cases k2 : k = a
    · subst k2; simp [k1]
    · simp [k1, k2, beq_eq_false_iff_ne.mpr]
def isStr (x : Str) (y : Value) : Bool := match y with | .str z _ => z == x | _ => false
theorem StrsAre.any {x : Str} {vs : List Value} {ks : List Str} (h : StrsAre vs ks) : vs.any (isStr x) = ks.any (· == x) := by
  induction h with
  | nil => rfl
  | cons _ ih => rw [List.any_cons, List.any_cons, ih]; rfl
theorem StrsAre.mem {vs : List Value} {ks : List Str} (h : StrsAre vs ks) {y : Value} (hy : y ∈ vs) : ∃ z t, y = .str z t := by
  induction h with
  | nil => cases hy
  | cons _ ih => rcases List.mem_cons.mp hy with rfl | h; exact ⟨_, _, rfl⟩; exact ih h
section
variable {w : World} {B : Heap} {A : Around} {fr : List Addr} {s : Shared} {S : Sto}
theorem child_init {R : Result → Shared → Prop} {x dx : Addr} {lv rv : Value} (hB : Hp w B) (C : Cx A fr 2) (st : St B fr s) (H : Has S fr s) (hx : S x (instObj C_Child dx)) (ho : s.heap.get? dx = some (dictOf [] 0)) (hf : dx ∉ fr) (hb : B.get? dx = none) (hn : ∀ o, ¬ S dx o)
    (h : ∀ s' es n as, Out fr [dx] S s S s' → s'.heap.get? dx = some (dictOf es n) → Ents w.params es as → (∀ k, as.lookup k = [(Str.ofString "left", lv), (Str.ofString "right", rv)].lookup k) → R (.ok (.ret .none)) s') :
    codeAny (model pw w) A (.call (.ref f_Child__init_) ⟨[.ref x, lv, rv], []⟩) R s := by
  refine enter (n := 1) (own := [(dx, dictOf [] 0)]) (mu := [dx]) (S := S) (binds := [(Str.ofString "self", .ref x), (Str.ofString "left", lv), (Str.ofString "right", rv)]) (.one ho hf hb hn) hB C st H (by rfl) (by kernel_rfl) (BindsTo.of_eq rfl) (by decide) (locs rfl) (fun L h₁ tk F C' => ?_) rfl rfl rfl
  refine wpAny_execs_cons (plainObj_wpAny_Assign_Attribute (nm F rfl (nm F rfl (setA hB F hx .nil (by kernel_rfl) (by kernel_rfl) (by kernel_rfl) (by kernel_rfl) (by decide) fun s₁ es1 n1 as1 F X1 l1 z1 => ?_))))
  refine wpAny_execs_cons (plainObj_wpAny_Assign_Attribute (nm F rfl (nm F rfl (setA hB F hx X1 (by kernel_rfl) (by kernel_rfl) (by kernel_rfl) (by kernel_rfl) (by have : as1.length ≤ 1 := z1; omega) fun s₂ es2 n2 as2 F X2 l2 z2 => ?_))))
  refine wpAny_execs_nil (h _ _ _ _ (F.out (by simp)) (F.mine _ (.head _)).1 X2 (lookup2 (fun k => by rw [l2, l1]) (by decide)))
theorem union_init {R : Result → Shared → Prop} {x dx : Addr} {lv rv : Value} (hB : Hp w B) (C : Cx A fr 2) (st : St B fr s) (H : Has S fr s) (hx : S x (instObj C_Union dx)) (ho : s.heap.get? dx = some (dictOf [] 0)) (hf : dx ∉ fr) (hb : B.get? dx = none) (hn : ∀ o, ¬ S dx o)
    (h : ∀ s' es n as, Out fr [dx] S s S s' → s'.heap.get? dx = some (dictOf es n) → Ents w.params es as → (∀ k, as.lookup k = [(Str.ofString "left", lv), (Str.ofString "right", rv)].lookup k) → R (.ok (.ret .none)) s') :
    codeAny (model pw w) A (.call (.ref f__Union__init_) ⟨[.ref x, lv, rv], []⟩) R s := by
  refine enter (n := 1) (own := [(dx, dictOf [] 0)]) (mu := [dx]) (S := S) (binds := [(Str.ofString "self", .ref x), (Str.ofString "left", lv), (Str.ofString "right", rv)]) (.one ho hf hb hn) hB C st H (by rfl) (by kernel_rfl) (BindsTo.of_eq rfl) (by decide) (locs rfl) (fun L h₁ tk F C' => ?_) rfl rfl rfl
  refine wpAny_execs_cons (plainObj_wpAny_Assign_Attribute (nm F rfl (nm F rfl (setA hB F hx .nil (by kernel_rfl) (by kernel_rfl) (by kernel_rfl) (by kernel_rfl) (by decide) fun s₁ es1 n1 as1 F X1 l1 z1 => ?_))))
  refine wpAny_execs_cons (plainObj_wpAny_Assign_Attribute (nm F rfl (nm F rfl (setA hB F hx X1 (by kernel_rfl) (by kernel_rfl) (by kernel_rfl) (by kernel_rfl) (by have : as1.length ≤ 1 := z1; omega) fun s₂ es2 n2 as2 F X2 l2 z2 => ?_))))
  refine wpAny_execs_nil (h _ _ _ _ (F.out (by simp)) (F.mine _ (.head _)).1 X2 (lookup2 (fun k => by rw [l2, l1]) (by decide)))
theorem desc_init {R : Result → Shared → Prop} {x dx : Addr} {lv rv : Value} (hB : Hp w B) (C : Cx A fr 2) (st : St B fr s) (H : Has S fr s) (hx : S x (instObj C_Descendants dx)) (ho : s.heap.get? dx = some (dictOf [] 0)) (hf : dx ∉ fr) (hb : B.get? dx = none) (hn : ∀ o, ¬ S dx o)
    (h : ∀ s' es n as, Out fr [dx] S s S s' → s'.heap.get? dx = some (dictOf es n) → Ents w.params es as → (∀ k, as.lookup k = [(Str.ofString "left", lv), (Str.ofString "right", rv)].lookup k) → R (.ok (.ret .none)) s') :
    codeAny (model pw w) A (.call (.ref f_Descendants__init_) ⟨[.ref x, lv, rv], []⟩) R s := by
  refine enter (n := 1) (own := [(dx, dictOf [] 0)]) (mu := [dx]) (S := S) (binds := [(Str.ofString "self", .ref x), (Str.ofString "left", lv), (Str.ofString "right", rv)]) (.one ho hf hb hn) hB C st H (by rfl) (by kernel_rfl) (BindsTo.of_eq rfl) (by decide) (locs rfl) (fun L h₁ tk F C' => ?_) rfl rfl rfl
  refine wpAny_execs_cons (plainObj_wpAny_Assign_Attribute (nm F rfl (nm F rfl (setA hB F hx .nil (by kernel_rfl) (by kernel_rfl) (by kernel_rfl) (by kernel_rfl) (by decide) fun s₁ es1 n1 as1 F X1 l1 z1 => ?_))))
  refine wpAny_execs_cons (plainObj_wpAny_Assign_Attribute (nm F rfl (nm F rfl (setA hB F hx X1 (by kernel_rfl) (by kernel_rfl) (by kernel_rfl) (by kernel_rfl) (by have : as1.length ≤ 1 := z1; omega) fun s₂ es2 n2 as2 F X2 l2 z2 => ?_))))
  refine wpAny_execs_nil (h _ _ _ _ (F.out (by simp)) (F.mine _ (.head _)).1 X2 (lookup2 (fun k => by rw [l2, l1]) (by decide)))

theorem index_init {R : Result → Shared → Prop} {x dx : Addr} {v : Value} (hB : Hp w B) (C : Cx A fr 2) (st : St B fr s) (H : Has S fr s) (hx : S x (instObj C_Index dx)) (ho : s.heap.get? dx = some (dictOf [] 0)) (hf : dx ∉ fr) (hb : B.get? dx = none) (hn : ∀ o, ¬ S dx o)
    (h : ∀ s' S' es n as ta, Out fr [dx] S s S' s' → s'.heap.get? dx = some (dictOf es n) → S' ta (tupOf [v]) → Ents w.params es as → (∀ k, as.lookup k = [(Str.ofString "indices", .ref ta)].lookup k) → R (.ok (.ret .none)) s') :
    codeAny (model pw w) A (.call (.ref f_Index__init_) ⟨[.ref x, v], []⟩) R s := by
  refine enterV (n := 1) (own := [(dx, dictOf [] 0)]) (mu := [dx]) (S := S) (vs := [v]) (front := [(Str.ofString "self", .ref x)]) (nm := Str.ofString "indices") (.one ho hf hb hn) hB C st H (by rfl) (by kernel_rfl) (by rfl) (show 1 ≤ sizeLine by decide) (by decide) (fun t => locs rfl) (fun L D h₁ tk F C' => ?_) rfl rfl rfl
  have F := F.freeze
  refine wpAny_execs_cons (plainObj_wpAny_Assign_Attribute (nm F rfl (nm F rfl (setA hB F (.inl hx) .nil (by kernel_rfl) (by kernel_rfl) (by kernel_rfl) (by kernel_rfl) (by decide) fun s₁ es1 n1 as1 F X1 l1 z1 => ?_))))
  refine wpAny_execs_nil (h _ _ _ _ _ D (F.out (by simp)) (F.mine _ (.head _)).1 (.inr ⟨rfl, rfl⟩) X1 fun k => ?_)
  rw [l1]
  by_cases k1 : k = Str.ofString "indices"
  · subst k1; rfl
  · simp [k1, beq_eq_false_iff_ne.mpr, List.lookup_cons]

theorem fields_init {R : Result → Shared → Prop} {x dx : Addr} {vs : List Value} {ks : List Str} (hvs : (∃ v, vs = [v]) ∨ ∃ v u, vs = [v, u]) (hB : Hp w B) (C : Cx A fr 2) (st : St B fr s) (H : Has S fr s) (hx : S x (instObj C_Fields dx)) (ho : s.heap.get? dx = some (dictOf [] 0)) (hf : dx ∉ fr) (hb : B.get? dx = none) (hn : ∀ o, ¬ S dx o) (hk : StrsAre vs ks)
    (h : ∀ s' S' es n as ta, Out fr [dx] S s S' s' → s'.heap.get? dx = some (dictOf es n) → (∀ o, ¬ S' dx o) → S' ta (tupOf vs) → Ents w.params es as → (∀ k, as.lookup k = [(Str.ofString "_deprecated_wildcard_use", .bool (ks.any (· == Str.ofString "*"))), (Str.ofString "fields", .ref ta)].lookup k) → as.length ≤ 2 → R (.ok (.ret .none)) s') :
    codeAny (model pw w) A (.call (.ref f_Fields__init_) ⟨.ref x :: vs, []⟩) R s := by
  have hl : vs.length ≤ sizeLine := by rcases hvs with ⟨v, rfl⟩ | ⟨v, u, rfl⟩; exact (show 1 ≤ sizeLine by decide); exact (show 2 ≤ sizeLine by decide)
  refine enterV (n := 1) (own := [(dx, dictOf [] 0)]) (mu := [dx]) (S := S) (vs := vs) (front := [(Str.ofString "self", .ref x)]) (nm := Str.ofString "fields") (.one ho hf hb hn) hB C st H (by rfl) (by kernel_rfl) (by rcases hvs with ⟨v, rfl⟩ | ⟨v, u, rfl⟩ <;> rfl) hl (by decide) (fun t => locs rfl) (fun L D h₁ tk F C' => ?_) rfl rfl rfl
  have F := F.freeze
  refine wpAny_execs_cons (plainObj_wpAny_Assign_Attribute (wpAny_Compare1 (cstr F fun t s₁ F => nm F rfl ?_)))
  refine SeqAt.in_tupleAt (isStr (Str.ofString "*")) ⟨_, F.has.get (.inr ⟨rfl, rfl⟩), rfl, _, rfl⟩ (fun y hy => ?_) ?_
  · obtain ⟨z, t, rfl⟩ := hk.mem (by simpa using hy)
    exact SeqAt.EqAt.str_str _ _ _ _
  rw [List.any_toArray, hk.any]
  refine nm F rfl (setA hB F (.inl hx) .nil (by kernel_rfl) (by kernel_rfl) (by kernel_rfl) (by kernel_rfl) (by decide) fun s₁ es1 n1 as1 F X1 l1 z1 => ?_)
  refine wpAny_execs_cons (plainObj_wpAny_Assign_Attribute (nm F rfl (nm F rfl (setA hB F (.inl hx) X1 (by kernel_rfl) (by kernel_rfl) (by kernel_rfl) (by kernel_rfl) (by have : as1.length ≤ 1 := z1; omega) fun s₂ es2 n2 as2 F X2 l2 z2 => ?_))))
  exact wpAny_execs_nil (h _ _ _ _ _ D (F.out (by simp)) (F.mine _ (.head _)).1 (F.mine _ (.head _)).2.2.2 (.inr ⟨rfl, rfl⟩) X2 (lookup2 (fun k => by rw [l2, l1]) (by decide)) (by have : as1.length ≤ 1 := z1; omega))
end
section
variable {w : World} {A : Around} {E : Value → Shared → Prop} {B : Heap} {fr mu : List Addr} {s₀ s : Shared} {L : Addr} {m : Str → Option Value} {T S : Sto} {own : List (Addr × Obj)} {n : Nat} {Q : Value → Shared → Prop}
theorem child_ {lv rv : Value} (hB : Hp w B) (C : Cx A (L :: fr) (n + 3)) (F : Fx B T s₀ fr mu L m S own s) (h : ∀ x s' S', Fx B T s₀ fr mu L m S' own s' → (∀ a o, S a o → S' a o) → Inst w.params S' x C_Child [(Str.ofString "left", lv), (Str.ofString "right", rv)] → Q (.ref x) s') :
    wpAny (model pw w) A (call (.ref C_Child) [lv, rv]) Q E s := by
  refine mk hB F (by kernel_rfl) (fI := f_Child__init_) (by kernel_rfl) (by kernel_rfl) fun x dx s₁ F hx hdx => ?_
  obtain ⟨h1, h2, h3, h4⟩ := F.mine _ (.head _)
  refine child_init hB (C.le (k := 3) (by omega)).make F.st F.has (S.add_here _ _) h1 h2 (F.bnone (.head _)) h4 fun s' es k as O e X hl => ⟨rfl, ?_⟩
  exact h x s' _ (F.callM O e).freeze (fun a o q => .inl (.inl q)) ⟨dx, es, k, as, .inl (.inr ⟨rfl, rfl⟩), .inr ⟨rfl, rfl⟩, X, hl⟩
theorem union_ {lv rv : Value} (hB : Hp w B) (C : Cx A (L :: fr) (n + 3)) (F : Fx B T s₀ fr mu L m S own s) (h : ∀ x s' S', Fx B T s₀ fr mu L m S' own s' → (∀ a o, S a o → S' a o) → Inst w.params S' x C_Union [(Str.ofString "left", lv), (Str.ofString "right", rv)] → Q (.ref x) s') :
    wpAny (model pw w) A (call (.ref C_Union) [lv, rv]) Q E s := by
  refine mk hB F (by kernel_rfl) (fI := f__Union__init_) (by kernel_rfl) (by kernel_rfl) fun x dx s₁ F hx hdx => ?_
  obtain ⟨h1, h2, h3, h4⟩ := F.mine _ (.head _)
  refine union_init hB (C.le (k := 3) (by omega)).make F.st F.has (S.add_here _ _) h1 h2 (F.bnone (.head _)) h4 fun s' es k as O e X hl => ⟨rfl, ?_⟩
  exact h x s' _ (F.callM O e).freeze (fun a o q => .inl (.inl q)) ⟨dx, es, k, as, .inl (.inr ⟨rfl, rfl⟩), .inr ⟨rfl, rfl⟩, X, hl⟩
theorem desc_ {lv rv : Value} (hB : Hp w B) (C : Cx A (L :: fr) (n + 3)) (F : Fx B T s₀ fr mu L m S own s) (h : ∀ x s' S', Fx B T s₀ fr mu L m S' own s' → (∀ a o, S a o → S' a o) → Inst w.params S' x C_Descendants [(Str.ofString "left", lv), (Str.ofString "right", rv)] → Q (.ref x) s') :
    wpAny (model pw w) A (call (.ref C_Descendants) [lv, rv]) Q E s := by
  refine mk hB F (by kernel_rfl) (fI := f_Descendants__init_) (by kernel_rfl) (by kernel_rfl) fun x dx s₁ F hx hdx => ?_
  obtain ⟨h1, h2, h3, h4⟩ := F.mine _ (.head _)
  refine desc_init hB (C.le (k := 3) (by omega)).make F.st F.has (S.add_here _ _) h1 h2 (F.bnone (.head _)) h4 fun s' es k as O e X hl => ⟨rfl, ?_⟩
  exact h x s' _ (F.callM O e).freeze (fun a o q => .inl (.inl q)) ⟨dx, es, k, as, .inl (.inr ⟨rfl, rfl⟩), .inr ⟨rfl, rfl⟩, X, hl⟩
theorem index_ {i : Int} {t : Tok} (hB : Hp w B) (C : Cx A (L :: fr) (n + 3)) (F : Fx B T s₀ fr mu L m S own s) (h : ∀ x s' S', Fx B T s₀ fr mu L m S' own s' → (∀ a o, S a o → S' a o) → PathAt w.params S' (.ref x) (.index i) → Q (.ref x) s') :
    wpAny (model pw w) A (call (.ref C_Index) [.int i t]) Q E s := by
  refine mk hB F (by kernel_rfl) (fI := f_Index__init_) (by kernel_rfl) (by kernel_rfl) fun x dx s₁ F hx hdx => ?_
  obtain ⟨h1, h2, h3, h4⟩ := F.mine _ (.head _)
  refine index_init hB (C.le (k := 3) (by omega)).make F.st F.has (S.add_here _ _) h1 h2 (F.bnone (.head _)) h4 fun s' S' es k as ta O e ht X hl => ⟨rfl, ?_⟩
  exact h x s' _ (F.callM O e).freeze (fun a o q => .inl (O.sub _ _ (.inl q))) (.index (ta := ta) ⟨dx, es, k, as, .inl (O.sub _ _ (.inr ⟨rfl, rfl⟩)), .inr ⟨rfl, rfl⟩, X, hl⟩ (.inl ht))
theorem fieldsO {vs : List Value} {ks : List Str} (hvs : (∃ v, vs = [v]) ∨ ∃ v u, vs = [v, u]) (hk : StrsAre vs ks) (hB : Hp w B) (C : Cx A (L :: fr) (n + 3)) (F : Fx B T s₀ fr mu L m S own s)
    (h : ∀ x dx es k as ta s' S', Fx B T s₀ fr mu L m S' ((dx, dictOf es k) :: own) s' → (∀ a o, S a o → S' a o) → S' x (instObj C_Fields dx) → S' ta (tupOf vs) → Ents w.params es as → (∀ k, as.lookup k = [(Str.ofString "_deprecated_wildcard_use", .bool (ks.any (· == Str.ofString "*"))), (Str.ofString "fields", .ref ta)].lookup k) → as.length ≤ 2 → Q (.ref x) s') :
    wpAny (model pw w) A (call (.ref C_Fields) vs) Q E s := by
  refine mk hB F (by kernel_rfl) (fI := f_Fields__init_) (by kernel_rfl) (by kernel_rfl) fun x dx s₁ F hx hdx => ?_
  obtain ⟨h1, h2, h3, h4⟩ := F.mine _ (.head _)
  refine fields_init hvs hB (C.le (k := 3) (by omega)).make F.st F.has (S.add_here _ _) h1 h2 (F.bnone (.head _)) h4 hk fun s' S' es k as ta O e _ ht X hl hz => ⟨rfl, ?_⟩
  exact h x dx es k as ta s' _ (F.callM O e) (fun a o q => O.sub _ _ (.inl q)) (O.sub _ _ (.inr ⟨rfl, rfl⟩)) ht X hl hz
theorem fields_ {vs : List Value} {ks : List Str} (hvs : (∃ v, vs = [v]) ∨ ∃ v u, vs = [v, u]) (hk : StrsAre vs ks) (hs : ks.any (· == Str.ofString "*") = false) (hB : Hp w B) (C : Cx A (L :: fr) (n + 3)) (F : Fx B T s₀ fr mu L m S own s)
    (h : ∀ x s' S', Fx B T s₀ fr mu L m S' own s' → (∀ a o, S a o → S' a o) → PathAt w.params S' (.ref x) (.fields ks) → Q (.ref x) s') :
    wpAny (model pw w) A (call (.ref C_Fields) vs) Q E s :=
  fieldsO hvs hk hB C F fun x dx es k as ta s' S' F M hx ht X hl hz => h x s' _ F.freeze (fun a o q => .inl (M _ _ q)) (.fields (ta := ta) ⟨dx, es, k, as, .inl hx, .inr ⟨rfl, rfl⟩, X, fun k => by rw [hl, hs]⟩ (.inl ht) hk)

theorem starO {a : Addr} {vs : List Value} {Q : List Value → Shared → Prop} (F : Fx B T s₀ fr mu L m S own s) (ha : (a, tupOf vs) ∈ own) (hz : vs.length ≤ sizeLine) (h : ∀ s', Fx B T s₀ fr mu L m S own s' → Q vs s') : StarOf (model pw w) A E (.ref a) Q s :=
  star_seq F.toFr F.toNews (List.mem_append_left _ ha) rfl rfl (.inr rfl) (by simp) (by simpa using hz) fun h' F' N' => h _ (F.back F' N' (fun p hp => .inl (List.mem_map_of_mem hp)) F.apart)
end
section
variable {w : World} {B : Heap} {A : Around} {fr : List Addr} {s : Shared} {S : Sto}
theorem compliant {R : Result → Shared → Prop} {k : Str} {t : Tok} (hB : Hp w B) (C : Cx A fr 4) (st : St B fr s) (H : Has S fr s)
    (h : ∀ x s' S', Out fr [] S s S' s' → PathAt w.params S' (.ref x) (.fields [k]) → R (.ok (.ret (.ref x))) s') :
    codeAny (model pw w) A (.call (.ref f_Fields_compliant_constructor) ⟨[.ref C_Fields, .str k t], []⟩) R s := by
  refine enterV (n := 3) (own := []) (mu := []) (S := S) (vs := [.str k t]) (front := [(Str.ofString "cls", .ref C_Fields)]) (nm := Str.ofString "fields") .nil hB C st H (by rfl) (by kernel_rfl) (by rfl) (show 1 ≤ sizeLine by decide) (by decide) (fun t => locs rfl) (fun L D h₁ tk F C' => ?_) rfl rfl rfl
  refine wpAny_execs_cons (asg (wpAny_Call_Name_kw (nm F rfl (callWith_S (hB.at F.st).k (by kernel_rfl) (nm F rfl (starO F (.head _) (show 1 ≤ sizeLine by decide) fun s₁ F => ⟨(hB.at F.st).k, ?_⟩))))))
  refine fieldsO (n := 0) (.inl ⟨_, rfl⟩) (.cons .nil) hB C' F fun x dx es j as ta s₂ S₂ F M hx ht X hl hz => sto F fun s₃ F => ?_
  refine wpAny_execs_cons (plainObj_wpAny_Assign_Attribute (wpAny_Constant_bool (nm F rfl (setA hB F hx X (by kernel_rfl) (by kernel_rfl) (by kernel_rfl) (by kernel_rfl) (by omega) fun s₄ es' n' as' F X' l' z' => ?_))))
  refine wpAny_execs_cons (wpAny_Return_some (nm F rfl (h x _ _ F.freeze.out0 (.fields (ta := ta) ⟨dx, es', n', as', .inl hx, .inr ⟨rfl, rfl⟩, X', fun k => ?_⟩ (.inl ht) (.cons .nil)))))
  rw [l', hl]
  simp only [List.lookup_cons, List.lookup_nil]
  by_cases k1 : k = Str.ofString "_deprecated_wildcard_use"
  · subst k1; rfl
  · simp [k1, beq_eq_false_iff_ne.mpr]
end
end DescLaw
end
section
open PySem PySem.W PyProof.Rows PySem.Calls
set_option Elab.async false
set_option maxRecDepth 100000
namespace DescLaw
/-! iterators that hand out pairs -/
section
variable {w : World} {A : Around} {E : Value → Shared → Prop} {B : Heap} {fr mu : List Addr} {s₀ s : Shared} {L : Addr} {m : Str → Option Value} {T S : Sto} {own : List (Addr × Obj)} {n : Nat} {Q : Value → Shared → Prop}
theorem Fx.two {a b : Addr} {oa ob oa' ob' : Obj} {h' : Heap} {tk : Nat} (F : Fx B T s₀ fr mu L m S ((a, oa) :: (b, ob) :: own) s) (k : ∀ x o, x ≠ a → x ≠ b → s.heap.get? x = some o → h'.get? x = some o) (ea : h'.get? a = some oa') (eb : h'.get? b = some ob') :
    Fx B T s₀ fr mu L m S ((a, oa') :: (b, ob') :: own) { s with heap := h', toks := tk } := by
  have ma := F.mine _ (.head _)
  have mb := F.mine _ (.tail _ (.head _))
  have nB : ∀ x o, B.get? x = some o → x ≠ a ∧ x ≠ b := fun x o e => by
    refine ⟨fun q => ?_, fun q => ?_⟩
    · rw [q, F.bnone (p := (a, oa)) (.head _)] at e; cases e
    · rw [q, F.bnone (p := (b, ob)) (.tail _ (.head _))] at e; cases e
  refine F.back (own' := (a, oa') :: (b, ob') :: own) ⟨?_, fun x o e => k x o (nB x o e).1 (nB x o e).2 (F.st.base x o e), F.above⟩ (fun p hp => ?_) (fun p hp => .inl ?_) ?_
  · obtain ⟨o, es, ep, e, r⟩ := F.ns
    exact ⟨o, es, ep, k _ _ (fun q => ma.2.1 (q ▸ .head _)) (fun q => mb.2.1 (q ▸ .head _)) e, r⟩
  · rcases List.mem_cons.mp hp with rfl | hp
    · exact ⟨ea, fun q => ma.2.1 (q ▸ .head _), F.bnone (p := (a, oa)) (.head _)⟩
    · rcases List.mem_cons.mp hp with rfl | hp
      · exact ⟨eb, fun q => mb.2.1 (q ▸ .head _), F.bnone (p := (b, ob)) (.tail _ (.head _))⟩
      · have ap := List.pairwise_cons.mp F.apart
        have ap2 := List.pairwise_cons.mp ap.2
        rcases List.mem_append.mp hp with hp | hp
        · obtain ⟨e1, e2, e3, e4⟩ := F.mine p (.tail _ (.tail _ hp))
          exact ⟨k _ _ (Ne.symm (ap.1 p (.tail _ hp))) (Ne.symm (ap2.1 p hp)) e1, fun q => e2 (q ▸ .head _), F.bnone (.tail _ (.tail _ hp))⟩
        · obtain ⟨e1, e2, e3, e4⟩ := Fx.oth_mem.mp hp
          exact ⟨k _ _ (fun q => e4 (by simp [q])) (fun q => e4 (by simp [q])) e1, e2, e3⟩
  · rcases List.mem_cons.mp hp with rfl | hp
    · simp
    · rcases List.mem_cons.mp hp with rfl | hp
      · simp
      · simp only [List.map_cons, List.mem_cons]; exact .inr (.inr (List.mem_map_of_mem hp))
  · have ap := List.pairwise_cons.mp F.apart
    have ap2 := List.pairwise_cons.mp ap.2
    exact List.pairwise_cons.mpr ⟨fun p hp => by
      rcases List.mem_cons.mp hp with rfl | hp
      · exact ap.1 (b, ob) (.head _)
      · exact ap.1 p (.tail _ hp), List.pairwise_cons.mpr ⟨ap2.1, ap2.2⟩⟩
end

theorem Fx.upd' {B : Heap} {fr mu : List Addr} {s₀ s : Shared} {L a : Addr} {m : Str → Option Value} {T S : Sto} {own : List (Addr × Obj)} {o o' : Obj} {h' : Heap} {tk : Nat} (F : Fx B T s₀ fr mu L m S ((a, o) :: own) s) (k : ∀ x p, x ≠ a → s.heap.get? x = some p → h'.get? x = some p) (e : h'.get? a = some o') :
    Fx B T s₀ fr mu L m S ((a, o') :: own) { s with heap := h', toks := tk } := by
  obtain ⟨h1, h2, h3, h4⟩ := F.mine _ (.head _)
  exact F.stepM (s' := { s with heap := h', toks := tk }) ⟨rfl, fun b p _ hm e => k b p (fun q => hm (List.mem_singleton.mpr q)) e, fun b hb p e => ⟨p, k b _ (fun q => h2 (q ▸ hb)) e, .refl b p⟩, id, Nat.le_refl _⟩ e (fun b p e => ⟨k b p (fun q => h4 p (q ▸ e)) (F.has b p e).1, (F.has b p e).2⟩) (fun _ _ h => h) fun _ _ h => .inl h

structure Itp (w : World) (A : Around) (n : Nat) (it : Value) (P : Nat → Sto → List (Addr × Obj) → Prop) (V : Nat → Value → Value → Prop) : Prop where
  mono : ∀ {i S S' ows}, P i S ows → (∀ a o, S a o → S' a o) → P i S' ows
  self : ∀ {B T s₀ fr mu L m i S ows own s E} {Q : Value → Shared → Prop}, P i S ows → Fx B T s₀ fr mu L m S (ows ++ own) s → Q it s → wpAny (model pw w) A (pyIter it) Q E s
  item : ∀ {B T s₀ fr mu L m i S ows own s E} {Q : Option Value → Shared → Prop}, i < n → P i S ows → Fx B T s₀ fr mu L m S (ows ++ own) s →
    (∀ tp v1 v2 s₁, V i v1 v2 → (∀ {elts x1 pos} {Q' : Unit → Shared → Prop}, (∀ s₂ ows₂, Fx B T s₀ fr mu L m S (ows₂ ++ own) s₂ → s₂.heap.get? tp = some (tupOf [v1, v2]) → P (i + 1) S ows₂ → Q' () s₂) → wpAny (model pw w) A (letOwnedTupleGo (.Tuple elts x1 pos) it (.ref tp)) Q' E s₁) → Q (some (.ref tp)) s₁) → wpAny (model pw w) A (pyNext it) Q E s
  done : ∀ {B T s₀ fr mu L m S ows own s E} {Q : Option Value → Shared → Prop}, P n S ows → Fx B T s₀ fr mu L m S (ows ++ own) s → (∀ s', Fx B T s₀ fr mu L m S own s' → Q none s') → wpAny (model pw w) A (pyNext it) Q E s

def EI (e I l : Addr) (items : List Value) (i : Nat) (S : Sto) (ows : List (Addr × Obj)) : Prop :=
  ∃ oe oi old, ows = [(e, oe), (I, oi)] ∧ oe = { cls := .type "enumerate", dict := none, data := .fields #[.none, .bool false, .ref I, rawInt i, .none, old], slots := #[] } ∧ (oi.cls = .type "list_iterator" ∧ oi.data = .fields #[.ref l, .int i 0]) ∧ ∃ k, S l (listOf items.toArray k)
theorem Itp.enum {w : World} {A : Around} {e I l : Addr} {items : List Value} (hh : A.handled = none) : Itp w A items.length (.ref e) (EI e I l items) (fun i v1 v2 => (∃ t, v1 = .int i t) ∧ items[i]? = some v2) where
  mono := fun ⟨oe, oi, old, h1, h2, h3, k, x⟩ M => ⟨oe, oi, old, h1, h2, h3, k, M _ _ x⟩
  self := fun ⟨oe, oi, old, h1, h2, h3, k, x⟩ F hq => by
    subst h1 h2
    exact wpAny_pyIter_enum (F.mine _ (.head _)).1 hq
  item := fun {B T s₀ fr mu L m i S ows own s E Q} hi ⟨oe, oi, old, h1, h2, h3, k, x⟩ F hq => by
    subst h1 h2
    have le : e < s.heap.objs.size := Heap.lt_size (F.mine _ (.head _)).1
    have ne : e ≠ I := (List.pairwise_cons.mp F.apart).1 (I, oi) (.head _)
    refine wpAny_pyNext_enum_item (x := items[i]) (F.mine _ (.head _)).1 ⟨oi, (F.mine (I, oi) (.tail _ (.head _))).1, h3.1, h3.2⟩ ⟨_, F.has.get x, rfl, k, rfl⟩ (by simp [hi]) ne fun h' he hit ht hz kp => ?_
    obtain ⟨oi', ei, hc, hd⟩ := hit
    have F := F.two (tk := s.toks + 1) kp he ei
    refine hq _ (.int i s.toks) items[i] _ ⟨⟨_, rfl⟩, by simp [hi]⟩ fun {elts x1 pos Q'} hq' => ?_
    refine wpAny_letOwnedTupleGo_enum he fun h₂ he2 hs2 => ?_
    have F := F.upd (tk := s.toks + 1) hs2 he2
    refine hq' _ [(e, _), (I, oi')] F ?_ ⟨_, oi', items[i], rfl, ?_, ⟨hc, hd⟩, k, x⟩
    · exact hs2.extBut _ _ (Nat.ne_of_gt le) ht
    · rw [show ((i + 1 : Nat) : Int) = (i : Int) + 1 by push_cast; rfl]
  done := fun {B T s₀ fr mu L m S ows own s E Q} ⟨oe, oi, old, h1, h2, h3, k, x⟩ F hq => by
    subst h1 h2
    refine wpAny_pyNext_enum_end hh (F.mine _ (.head _)).1 ⟨oi, (F.mine (I, oi) (.tail _ (.head _))).1, h3.1, h3.2⟩ ⟨_, F.has.get x, rfl, k, rfl⟩ (by simp) fun h' hs => ?_
    exact hq _ (F.swap.lose hs).drop
theorem Ents.dictAt {w : World} {h : Heap} {d : Addr} {es : List DictEntry} {n : Nat} {as : List (Str × Value)} (e : h.get? d = some (dictOf es n)) (x : Ents w.params es as) (nd : (as.map (·.1)).Nodup) : h.DictAt (PySem.strKind pw w) d as n := by
  refine ⟨_, es.toArray, e, ⟨rfl, rfl, rfl⟩, rfl, ?_, ?_, nd⟩
  · clear e nd
    suffices hx : ∀ y ∈ es, ∃ k, (PySem.strKind pw w).is k y.key = true ∧ y.hash = (PySem.strKind pw w).hash k from fun y hy => hx y (List.mem_toArray.mp hy)
    intro y hy
    induction x with
    | nil => cases hy
    | cons x ih =>
      rcases List.mem_cons.mp hy with rfl | hy
      · exact ⟨_, strKind_is pw w _ _, rfl⟩
      · exact ih hy
  · show Pairs _ es.toArray.toList as
    clear e nd
    induction x with
    | nil => exact .nil
    | cons x ih => exact .cons (strKind_is pw w _ _) rfl ih

def DI (I d : Addr) (P : Params) (as : List (Str × Value)) (i : Nat) (S : Sto) (ows : List (Addr × Obj)) : Prop :=
  ∃ (ep : Nat) (ok ov : Value) (es : List DictEntry), ows = [(I, { cls := .type "dict_itemiterator", dict := none, data := .fields #[.none, .bool false, .ref d, .int i 0, .int as.length 0, .int ep 0, ok, ov], slots := #[] })] ∧ S d (dictOf es ep) ∧ Ents P es as ∧ (as.map (·.1)).Nodup
theorem entry_itemiter_iter : entryFor table "dict_itemiterator.__iter__" = some Builtin.«dict_keyiterator.__iter__» :=
  entryFor_alias (id' := "dict_keyiterator.__iter__") (by kernel_rfl) (by first | rfl | decide +kernel | (unfold String.splitOn; simp +decide [String.splitOnAux])) (by decide +kernel) (by kernel_rfl)
theorem Itp.items {w : World} {A : Around} {I d : Addr} {as : List (Str × Value)} (hh : A.handled = none) : Itp w A as.length (.ref I) (DI I d w.params as) (fun i v1 v2 => ∃ k t, v1 = .str k t ∧ as[i]? = some (k, v2)) where
  mono := fun ⟨ep, ok, ov, es, h1, h2, h3, h4⟩ M => ⟨ep, ok, ov, es, h1, M _ _ h2, h3, h4⟩
  self := fun {B T s₀ fr mu L m i S ows own s E Q} ⟨ep, ok, ov, es, h1, h2, h3, h4⟩ X hq => by
    subst h1
    have hT : Shared.TypeIs s (.ref I) "dict_itemiterator" := ⟨_, (X.mine _ (.head _)).1, rfl⟩
    refine wpAny_pyIter_slot hT F.slot_dict_itemiterator_iter (wpAny_call_entry F.slot_dict_itemiterator_iter hT entry_itemiter_iter ?_ (F.args_dict_itemiterator_iter_1 _))
    show wpAny _ _ (ret (.ref I)) _ _ _
    exact wpAny_pure ⟨_, rfl, "dict_itemiterator", _, hT, F.slot_dict_itemiterator_next.lookup, hq⟩
  item := fun {B T s₀ fr mu L m i S ows own s E Q} hi ⟨ep, ok, ov, es, h1, h2, h3, h4⟩ F hq => by
    subst h1
    have le : I < s.heap.objs.size := Heap.lt_size (F.mine _ (.head _)).1
    refine wpAny_pyNext_items_item (knd := PySem.strKind pw w) (k := as[i].1) (v := as[i].2) (F.mine _ (.head _)).1 (h3.dictAt (F.has.get h2) h4) (by simp [hi]) fun key h' hk he ht hz kp => ?_
    obtain ⟨t, rfl⟩ := Value.isStrOf_shape hk
    have F : Fx B T s₀ fr mu L m S ((I, _) :: own) { s with heap := h' } := F.upd' kp he
    refine hq _ (.str as[i].1 t) as[i].2 _ ⟨_, t, rfl, by simp [hi]⟩ fun {elts x1 pos Q'} hq' => ?_
    refine wpAny_letOwnedTupleGo_items he fun h₂ he2 hs2 => ?_
    have F := F.upd (tk := s.toks) hs2 he2
    refine hq' _ [(I, _)] F ?_ ⟨ep, _, _, es, rfl, h2, h3, h4⟩
    exact hs2.extBut _ _ (Nat.ne_of_gt le) ht
  done := fun {B T s₀ fr mu L m S ows own s E Q} ⟨ep, ok, ov, es, h1, h2, h3, h4⟩ F hq => by
    subst h1
    refine wpAny_pyNext_items_end (knd := PySem.strKind pw w) hh (F.mine _ (.head _)).1 (h3.dictAt (F.has.get h2) h4) (by simp) fun h' hs => ?_
    exact hq _ (F.lose hs)
section
variable {w : World} {A : Around} {E : Value → Shared → Prop} {B : Heap} {fr mu : List Addr} {s₀ s : Shared} {L : Addr} {m : Str → Option Value} {T S : Sto} {own : List (Addr × Obj)} {Q : Value → Shared → Prop}
variable {env : Env} {elt iter : Expr} {scope : Scope} {cl : List (Str × Addr)} {n : Nat} {pos px p2 tp : Pos} {k0 : Nat} {it : Value} {P : Nat → Sto → List (Addr × Obj) → Prop} {V : Nat → Value → Value → Prop} {y y2 : Str}
theorem LTurns.ofp {Fin : List Value → Sto → List (Addr × Obj) → Prop} (X : Itp w A n it P V) (hh : A.handled = none) (J : Nat → List Value → Sto → List (Addr × Obj) → Prop) (hx : scope.names.lookup y = some .local) (hx2 : scope.names.lookup y2 = some .local) (hy : y ≠ y2) (hkind : scope.kind = .function)
    (step : ∀ i out S ows rest s C oc D od mc v v2 E, i < n → V i v v2 → J i out S rest → Fx B T s₀ fr mu L m S ((C, oc) :: (D, od) :: (ows ++ rest)) s → NsO oc mc → mc y = some v → mc y2 = some v2 →
      wpAny (model pw w) A (eval elt (compEnvC scope cl C env)) (fun x s₅ => ∃ S' rest' oc' mc', Fx B T s₀ fr mu L m S' ((C, oc') :: (D, od) :: (ows ++ rest')) s₅ ∧ NsO oc' mc' ∧ (∀ a o, S a o → S' a o) ∧ J (i + 1) (out ++ [x]) S' rest') E s)
    (fin : ∀ out S rest, J n out S rest → Fin out S rest) : LTurns w A B T s₀ fr mu L m env elt (.Tuple [.Name y px, .Name y2 p2] k0 tp) [] scope cl n (fun i out S own => ∃ ows rest, own = ows ++ rest ∧ P i S ows ∧ J i out S rest) Fin it where
  self := fun i out S own own' s E Q ⟨ows, rest, e, p, _⟩ F hq => by
    subst e
    exact X.self (own := own' ++ rest) p (F.perm (List.perm_append_comm_assoc ..)) hq
  item := fun i out S own s C oc D od mc E hi ⟨ows, rest, e, p, j⟩ _ F N => by
    subst e
    refine X.item (own := (C, oc) :: (D, od) :: rest) hi p (F.perm (List.perm_append_comm_assoc [(C, oc), (D, od)] ows rest)) fun tp v1 v2 s₁ hv go => ⟨_, rfl, go fun s₂ ows' F ht p => ?_⟩
    refine assign_Tuple_tuple hh ⟨_, ht, rfl, _, rfl⟩ rfl rfl fun h₅ he => ?_
    have F := F.keeps (h' := h₅) (tk := s₂.toks) fun b o e => he b o (Nat.ne_of_lt (Heap.lt_size e)) e
    have F := F.perm (own' := (C, oc) :: (D, od) :: (ows' ++ rest)) (List.perm_append_comm_assoc ows' [(C, oc), (D, od)] rest)
    refine assignInOrder_cons (wpAny_assign_Name (stoO F N (fun s₃ oc' F N => ?_) rfl (lookup_relabel_local hx) (by simp [compEnvC, relabel, hkind])))
    refine assignInOrder_cons (wpAny_assign_Name (stoO F N (fun s₄ oc2 F N => ?_) rfl (lookup_relabel_local hx2) (by simp [compEnvC, relabel, hkind])))
    refine assignInOrder_nil (wpAny_tests_nil ?_)
    rw [if_pos rfl]
    refine wpAny_mono (step i out S ows' rest s₄ C oc2 D od _ v1 v2 E hi hv j F N (by simp [hy]) (by simp)) (fun x s₅ ⟨S', rest', oc', mc', F, N, M, j⟩ => ?_) fun _ _ e => e
    exact ⟨S', _, oc', mc', F, N, ows', rest', rfl, X.mono p M, j⟩
  done := fun out S own s C oc D od E ⟨ows, rest, e, p, j⟩ F => by
    subst e
    exact X.done (own := (C, oc) :: (D, od) :: rest) p (F.perm (List.perm_append_comm_assoc [(C, oc), (D, od)] ows rest)) fun s' F => ⟨rfl, S, rest, F, fin _ _ _ j⟩

theorem Fx.also {a : Addr} {o : Obj} {s' : Shared} {own' : List (Addr × Obj)} (x : Fx B T s₀ fr mu L m S own' s') (F : Fx B T s₀ fr mu L m S own s) (hn : s.heap.get? a = none) (ho : s'.heap.get? a = some o) (hown : ∀ p ∈ own', p.1 ≠ a) : Fx B T s₀ fr mu L m S ((a, o) :: own') s' :=
  let ⟨f1, f2, f3, _⟩ := F.fresh hn
  { x with
    mine := fun p hp => by
      rcases List.mem_cons.mp hp with rfl | hp
      · refine ⟨ho, f1, ?_, f3⟩
        by_cases hm : a ∈ mu
        · refine .inr ⟨hm, ?_⟩
          cases e : B.get? a with
          | none => rfl
          | some p => rw [F.st.base _ _ e] at hn; cases hn
        · exact .inl (f2 hm)
      · exact x.mine p hp
    apart := List.pairwise_cons.mpr ⟨fun p hp => Ne.symm (hown p hp), x.apart⟩ }
/-- enumerate(l) -/
theorem enumL {l : Addr} {items : List Value} {k : Nat} (F : Fx B T s₀ fr mu L m S own s) (x : S l (listOf items.toArray k)) (h : ∀ e I s' ows, Fx B T s₀ fr mu L m S (ows ++ own) s' → EI e I l items 0 S ows → Q (.ref e) s') : wpAny (model pw w) A (call (.type "enumerate") [.ref l]) Q E s := by
  refine call_enumerate_list ⟨_, F.has.get x, rfl, k, rfl⟩ fun h' he hit hz kp => ?_
  obtain ⟨oi, ei, hc, hd⟩ := hit
  have F1 := F.enter (s' := { s with heap := h' }) (Grow.of_keeps _ _ kp) (Heap.get?_none_of_le (Nat.le_refl _)) ei
  have F2 := F1.also F (Heap.get?_none_of_le (Nat.le_succ _)) he fun p hp => by
    rcases List.mem_cons.mp hp with rfl | hp
    · exact Nat.ne_of_lt (Nat.lt_succ_self _)
    · exact Nat.ne_of_lt (Nat.lt_succ_of_lt (Heap.lt_size (F.mine p hp).1))
  exact h _ _ _ [(_, _), (_, oi)] F2 ⟨_, oi, .none, rfl, rfl, ⟨hc, hd⟩, k, x⟩
end
end DescLaw
end
section
open PySem PySem.W PyProof.Rows PySem.Calls
set_option Elab.async false
set_option maxRecDepth 100000
namespace DescLaw
theorem kn_Index (P : Params) : nsIn (K P) mainGlobals (Str.ofString "Index") = some (some (.ref C_Index)) := by kernel_rfl
theorem kp_Index (P : Params) : keepIn (K P) (.ref C_Index) = true := by kernel_rfl
theorem kn_enum (P : Params) : nsIn (K P) mainGlobals (Str.ofString "enumerate") = some none := by kernel_rfl
theorem bn_enum : bootBuiltins (Str.ofString "enumerate") = some (.type "enumerate") := by decide +kernel
theorem sub_idx {P : Params} {S : Sto} {v : Value} {f : Fnd} {a : Addr} {cs : List Doc} {i : Nat} {j : Int} {d : Doc} {x y : Addr} (hv : DatumAt P S v f) (e : f.doc = .list a cs) (h : cs[i]? = some d) (hj : (j % cs.length).toNat = i)
    (I : Inst P S x C_DatumInContext [(Str.ofString "_value", d.val), (Str.ofString "path", .ref y), (Str.ofString "context", v)]) (p : PathAt P S (.ref y) (.index j)) : DatumAt P S (.ref x) (f.sub (.idx i, d)) := by
  have hk : (Step.idx i, d) ∈ f.doc.kids := by
    rw [e]
    exact List.mem_map.mpr ⟨(d, i), List.mk_mem_zipIdx_iff_getElem?.mpr h, rfl⟩
  refine .sub (pv := .ref y) (cv := v) I hv ?_ hk
  have hl : f.doc.kids.length = cs.length := by rw [e]; simp [Doc.kids]
  have := StepAt.idx (d := f.doc) p (by have := List.length_pos_of_mem hk; exact this) ⟨a, cs, e⟩
  rw [hl, hj] at this
  exact this
theorem kids_list {f : Fnd} {a : Addr} {cs : List Doc} (e : f.doc = .list a cs) {i : Nat} {d : Doc} (h : cs[i]? = some d) : f.kids[i]? = some (f.sub (.idx i, d)) := by
  unfold Fnd.kids Doc.kids
  rw [e]
  simp only [List.getElem?_map, List.getElem?_zipIdx, h, Option.map_some, Nat.zero_add]
theorem val_get {cs : List Doc} {i : Nat} {v : Value} (h : (cs.map Doc.val)[i]? = some v) : ∃ d, cs[i]? = some d ∧ d.val = v := by
  rw [List.getElem?_map] at h
  exact Option.map_eq_some_iff.mp h
theorem three_ok : (3 : Nat) ≤ sizeLine := by decide

section
variable {w : World} {B : Heap} {A : Around} {fr : List Addr} {s : Shared} {S : Sto}
/-- a builtin type is called by its name -/
theorem cbt {M : Model} {E : Value → Shared → Prop} {env : Env} {y : Str} {pos p : Pos} {T : String} {e : Expr} {rest : List Expr} {Q : Value → Shared → Prop} (hp : Hp w s.heap) (e1 : nsIn (K w.params) mainGlobals y = some none) (hv : bootBuiltins y = some (.type T))
    (h : wpAny M A (spliced (backTo pos (starEach (e :: rest) env))) (fun vs s₁ => wpAny M A (call (.type T) vs) Q E s₁) E s) (hn : y ≠ "__name__" := by decide +kernel)
    (hg : env.globals = mainGlobals := by rfl) (hb : env.builtins = builtinsNs := by rfl) (hk : env.scope.kind = .function := by rfl)
    (hx : env.kindOf y = some .globalImplicit := by rfl) (hd : (y == ("__debug__" : Str)) = false := by decide)
    (he : starEach (e :: rest) env = (false, eval e env) :: starEach rest env := by rfl) (hplain : (backTo pos (starEach rest env)).any (·.1) = false := by rfl) : wpAny M A (eval (.Call (.Name y p) (e :: rest) [] pos) env) Q E s :=
  wpAny_Call_Name_kw (bl hp e1 hv (PyProof.Rows.callWith_type1 h he hplain) hn hg hb hk hx hd)

theorem fae {R : Result → Shared → Prop} {v : Value} {f : Fnd} {a : Addr} {cs : List Doc} (hB : Hp w B) (C : Cx A fr 6) (st : St B fr s) (H : Has S fr s) (hv : DatumAt w.params S v f) (hd : f.doc = .list a cs)
    (h : ∀ r s' S' vs n, Out fr [] S s S' s' → S' r (listOf vs.toArray n) → Datums w.params S' vs f.kids → R (.ok (.ret (.ref r))) s') :
    codeAny (model pw w) A (.call (.ref f__find_array_elements) ⟨[v], []⟩) R s := by
  obtain ⟨x, pv, cv, rfl, I⟩ := hv.inst
  have hdoc := hv.doc
  have h3 : cs.length ≤ 3 := by have := hdoc.2.three; rw [hd] at this; simpa [Doc.kids] using this
  have hlst : ∃ k, S a (listOf (cs.map Doc.val).toArray k) := by
    have := hdoc.1
    rw [hd] at this
    cases this with
    | list ho _ => exact ⟨_, ho⟩
  obtain ⟨k, hlst⟩ := hlst
  refine enterC (n := 5) (own := []) (mu := []) (S := S) (binds := [(Str.ofString "datum", .ref x)]) .nil hB C st H (by rfl) (by kernel_rfl) (BindsTo.of_eq rfl) (by rfl) (by decide) (fun L h₁ tk cells Ce F C' => ?_) rfl rfl rfl
  obtain ⟨o, rfl, hod⟩ := Ce.one
  refine wpAny_execs_cons (wpAny_Return_some (lcomp F (cl := [(Str.ofString "datum", L + 1)]) rfl ?_))
  refine cbt (hB.at F.st) (kn_enum _) bn_enum (spliced_more (Attribute_name (nmC F (.head _) hod (valueA hB (n := 3) C' F I (by rw [hd]; rfl) fun s₁ F => spliced_none ?_))))
  rw [show f.doc.val = .ref a by rw [hd]; rfl]
  refine enumL F hlst fun e I₂ s₂ ows F p0 => ?_
  have X := Itp.enum (w := w) (A := A.deeper (envOfC (Str.ofString "_find_array_elements") (defScope (topAt 18)) L f__find_array_elements (Value.ref 958))) (e := e) (I := I₂) (l := a) (items := cs.map Doc.val) C'.handled
  refine X.self p0 F ⟨S, ows ++ [(L + 1, o)], cs.length, _, fun out S' rest => rest = [(L + 1, o)] ∧ Datums w.params S' out f.kids, Nat.le_trans h3 three_ok, F, ⟨ows, _, rfl, p0, rfl, fun _ _ h => h, .nil⟩, LTurns.ofp (n := cs.length) (by simpa using X) C'.handled (fun i out S' rest => rest = [(L + 1, o)] ∧ (∀ a o, S a o → S' a o) ∧ Datums w.params S' out (f.kids.take i)) rfl rfl (by decide) rfl (fun i out S₁ ows₁ rest s₁ C₁ oc D od mc v1 v2 E' hi hvv J F N h1 h2 => ?_) (fun out S₁ rest J => ?_), fun D out S₁ own k s₁ J F => ?_⟩
  · obtain ⟨rfl, M, J⟩ := J
    obtain ⟨⟨t, rfl⟩, hv2⟩ := hvv
    obtain ⟨d, hcd, rfl⟩ := hv2
    refine cfK (hB.at F.st) (kn_Dat _) (kp_Dat _) (spliced_more (nmO F (.head _) N h2 (spliced_none (kwAll_cons (cf (hB.at F.st) (kn_Index _) (kp_Index _) (spliced_more (nmO F (.head _) N h1 (spliced_none ⟨(hB.at F.st).k, index_ (n := 2) hB C' F fun y s₂ S₂ F M2 py => ?_⟩))))))))
    refine kwAll_cons (nmC (c := L + 1) (o := o) F (by simp) hod (kwAll_nil ⟨(hB.at F.st).k, ?_⟩))
    refine dat (n := 2) hB C' F (.inl rfl) (.inr (pathTruth py)) (.inr ⟨x, _, rfl, I.mono fun a o q => M2 _ _ (M _ _ q)⟩) fun z s₃ S₃ pv F M3 I3 hpv => ?_
    obtain rfl := hpv (by intro q; cases q)
    refine ⟨S₃, _, oc, mc, F, N, fun a o q => M3 _ _ (M2 _ _ q), rfl, fun a o q => M3 _ _ (M2 _ _ (M _ _ q)), ?_⟩
    rw [List.take_add_one, kids_list hd hcd]
    refine (J.mono fun a o q => M3 _ _ (M2 _ _ q)).snoc (sub_idx (hv.mono fun a o q => M3 _ _ (M2 _ _ (M _ _ q))) hd hcd ?_ I3 (py.mono M3))
    rw [Int.emod_eq_of_lt (by omega) (by omega)]; rfl
  · obtain ⟨rfl, M, J⟩ := J
    refine ⟨rfl, ?_⟩
    rwa [List.take_of_length_le (by rw [kids_len, hd]; simp [Doc.kids])] at J
  · obtain ⟨rfl, J⟩ := J
    exact h D _ _ out k F.freeze.out0 (.inr ⟨rfl, rfl⟩) (J.mono fun _ _ h => .inl h)
end
end DescLaw
end
section
open PySem PySem.W PyProof.Rows PySem.Calls
set_option Elab.async false
set_option maxRecDepth 100000
namespace DescLaw
def Doc.isL : Doc → Bool
  | .list _ _ => true
  | _ => false
def Doc.isD : Doc → Bool
  | .dict _ _ => true
  | _ => false
theorem kit_lt {P : Params} {S : Sto} {d : Doc} (h : DocAt P S d) : kitAny (K P) (.type d.ty) [.type "list", .type "tuple"] = some d.isL := by
  cases h with
  | @leaf v h => cases v <;> first | kernel_rfl | (simp [isLeaf] at h)
  | dict => kernel_rfl
  | list => kernel_rfl
theorem kit_d {P : Params} {S : Sto} {d : Doc} (h : DocAt P S d) : kitOne (K P) (.type d.ty) (.type "dict") = some d.isD := by
  cases h with
  | @leaf v h => cases v <;> first | kernel_rfl | (simp [isLeaf] at h)
  | dict => kernel_rfl
  | list => kernel_rfl
theorem kit_l {P : Params} {S : Sto} {d : Doc} (h : DocAt P S d) : kitOne (K P) (.type d.ty) (.type "list") = some d.isL := by
  cases h with
  | @leaf v h => cases v <;> first | kernel_rfl | (simp [isLeaf] at h)
  | dict => kernel_rfl
  | list => kernel_rfl
section
variable {w : World} {A : Around} {E : Value → Shared → Prop} {B : Heap} {fr mu : List Addr} {s₀ s : Shared} {L : Addr} {m : Str → Option Value} {T S : Sto} {own : List (Addr × Obj)} {n : Nat} {env : Env} {pos p1 p2 : Pos} {k : Nat}
/-- (list, tuple) -/
theorem ltE {Q : Value → Shared → Prop} (hB : Hp w B) (F : Fx B T s₀ fr mu L m S own s) (h : ∀ tp s', Fx B T s₀ fr mu L m S ((tp, tupOf [.type "list", .type "tuple"]) :: own) s' → Q (.ref tp) s')
    (hg : env.globals = mainGlobals := by rfl) (hb : env.builtins = builtinsNs := by rfl) (hk : env.scope.kind = .function := by rfl)
    (hx : env.kindOf (Str.ofString "list") = some .globalImplicit := by rfl) (hx2 : env.kindOf (Str.ofString "tuple") = some .globalImplicit := by rfl) :
    wpAny (model pw w) A (eval (.Tuple [.Name (Str.ofString "list") p1, .Name (Str.ofString "tuple") p2] k pos) env) Q E s :=
  Tuple_ (spliced_more (bl (hB.at F.st) (kn_list _) bn_list (spliced_more (bl (hB.at F.st) (kn_tuple _) bn_tuple (spliced_none (newT F h)) (hg := hg) (hb := hb) (hk := hk) (hx := hx2))) (hg := hg) (hb := hb) (hk := hk) (hx := hx)))
/-- isinstance(v, (list, tuple)), of a document, its value at hand -/
theorem isLT {d : Doc} {tp : Addr} {Q : Value → Shared → Prop} (hB : Hp w B) (F : Fx B T s₀ fr mu L m S ((tp, tupOf [.type "list", .type "tuple"]) :: own) s) (hd : DocAt w.params S d) (h : ∀ s', Fx B T s₀ fr mu L m S own s' → Q (.bool d.isL) s') :
    wpAny (model pw w) A (call (.builtin "isinstance") [d.val, .ref tp]) Q E s :=
  isiT hB F (Kd.doc hd) (F.mine _ (.head _)).1 (kit_lt hd) fun s' F => h s' F.drop

theorem stoC {M : Model} {c : Addr} {o : Obj} {v₀ : Option Value} {v : Value} {y : Str} {Q : Unit → Shared → Prop} (F : Fx B T s₀ fr mu L m S ((c, o) :: own) s) (hd : o.data = .cell v₀)
    (h : ∀ s' o', Fx B T s₀ fr mu L m S ((c, o') :: own) s' → o'.data = .cell (some v) → Q () s') (hc : env.cells.lookup y = some c := by rfl) (hk : env.scope.kind = .function := by rfl) (hx : env.kindOf y = some .cell := by rfl) : wpAny M A (storeName env y v) Q E s :=
  wpAny_storeName_cell hk hx hc ⟨o, (F.mine _ (.head _)).1, hd⟩ fun h' hi hs => by
    obtain ⟨o', e, hd'⟩ := hi
    exact h _ o' (F.upd hs e) hd'
theorem wrapC {Q : Value → Shared → Prop} {y : Str} {p3 : Pos} {c : Addr} {o : Obj} {v : Value} {f : Fnd} {b : Bool} {pl : Sem Bool} (hB : Hp w B) (C : Cx A (L :: fr) 4) (F : Fx B T s₀ fr mu L m S own s) (hm : (c, o) ∈ own) (hd : o.data = .cell (some v)) (I : InAt w.params S b v f)
    (h : ∀ v' s' S', Fx B T s₀ fr mu L m S' own s' → (∀ a o, S a o → S' a o) → DatumAt w.params S' v' f → Q v' s')
    (hc : env.cells.lookup y = some c := by rfl) (hk : env.scope.kind = .function := by rfl) (hx : env.kindOf y = some .cell := by rfl) (hdb : (y == ("__debug__" : Str)) = false := by decide)
    (hg : env.globals = mainGlobals := by rfl) (hx2 : env.kindOf (Str.ofString "DatumInContext") = some .globalImplicit := by rfl)
    (he : eval (.Call (.Attribute (.Name (Str.ofString "DatumInContext") p1) (Str.ofString "wrap") p2) [.Name y p3] [] pos) env = (do
      let ov ← eval (.Name (Str.ofString "DatumInContext") p1) env
      standAt p2.atName
      let (f, first) ← holding [ov] (getMethod ov (Str.ofString "wrap") pl)
      callWith pos f first (backTo pos (starEach [.Name y p3] env)) []) := by rfl) :
    wpAny (model pw w) A (eval (.Call (.Attribute (.Name (Str.ofString "DatumInContext") p1) (Str.ofString "wrap") p2) [.Name y p3] [] pos) env) Q E s := by
  refine MethodCall_ (gl (hB.at F.st) (kn_Dat _) (getC hB F (by kernel_rfl) (by kernel_rfl) (by kernel_rfl) (p := 163) (by kernel_rfl) (f := f_DatumInContext_wrap) (by rfl) fun q s₁ F => callC hB F (by kernel_rfl) (spliced_more (nmC F (.tail _ hm) hd (spliced_none ⟨S, F, rfl, wrap_ hB C F.st F.has I fun v' s' S' O D => ?_⟩) hc hk hx hdb))) hg hk hx2) he
  exact h v' s' S' (F.call O).drop O.sub D

/-- d.items(), d a dict -/
theorem itemsM {d : Addr} {es : List DictEntry} {ep : Nat} {as : List (Str × Value)} {pl : Sem Bool} {Q : Value × List Value → Shared → Prop} (F : Fx B T s₀ fr mu L m S own s) (x : S d (dictOf es ep)) (X : Ents w.params es as) (nd : (as.map (·.1)).Nodup) (h : Q (.builtin "dict.items", [.ref d]) s) : wpAny (model pw w) A (getMethod (.ref d) (Str.ofString "items") pl) Q E s :=
  have hD := (X.dictAt (F.has.get x) nd).dictOf
  getMethod_builtin hD.typeIs PySem.F.plainAttrs_dict PySem.F.slot_dict_items PySem.F.type_dict_items hD.mapOf.noDict h
theorem itemsC {d : Addr} {es : List DictEntry} {ep : Nat} {as : List (Str × Value)} {Q : Value → Shared → Prop} (F : Fx B T s₀ fr mu L m S own s) (x : S d (dictOf es ep)) (X : Ents w.params es as) (nd : (as.map (·.1)).Nodup) (hm : (d == sysModules) = false)
    (h : ∀ vw s', Fx B T s₀ fr mu L m S ((vw, { cls := .type "dict_items", data := .fields #[.ref d] }) :: own) s' → Q (.ref vw) s') : wpAny (model pw w) A (call (.builtin "dict.items") [.ref d]) Q E s :=
  have hD := (X.dictAt (F.has.get x) nd).dictOf
  call_meetsIn PySem.F.slot_dict_items hD.typeIs PySem.F.entry_dict_items (PySem.F.args_dict_items_1 _) (meets_dict_items (PySem.strKind pw w) d hm) ⟨⟨as, hD⟩, h _ _ (F.push _)⟩
theorem iterI {d vw : Addr} {es : List DictEntry} {ep : Nat} {as : List (Str × Value)} {Q : Value → Shared → Prop} (F : Fx B T s₀ fr mu L m S ((vw, { cls := .type "dict_items", data := .fields #[.ref d] }) :: own) s) (x : S d (dictOf es ep)) (X : Ents w.params es as) (nd : (as.map (·.1)).Nodup)
    (h : ∀ I s' ows, Fx B T s₀ fr mu L m S (ows ++ own) s' → DI I d w.params as 0 S ows → Q (.ref I) s') : wpAny (model pw w) A (pyIter (.ref vw)) Q E s :=
  wpAny_pyIter_items (knd := PySem.strKind pw w) ⟨_, (F.mine _ (.head _)).1, rfl, rfl⟩ (X.dictAt (F.has.get x) nd) (h _ _ [(_, _)] (F.push _).swap.drop ⟨ep, _, _, es, rfl, x, X, nd⟩)
end
end DescLaw
end
section
open PySem PySem.W PyProof.Rows PySem.Calls
set_option Elab.async false
set_option maxRecDepth 100000
namespace DescLaw
theorem kn_Fields (P : Params) : nsIn (K P) mainGlobals (Str.ofString "Fields") = some (some (.ref C_Fields)) := by kernel_rfl
theorem kp_Fields (P : Params) : keepIn (K P) (.ref C_Fields) = true := by kernel_rfl
theorem kn_fae (P : Params) : nsIn (K P) mainGlobals (Str.ofString "_find_array_elements") = some (some (.ref f__find_array_elements)) := by kernel_rfl
theorem kp_fae (P : Params) : keepIn (K P) (.ref f__find_array_elements) = true := by kernel_rfl
theorem sub_key {P : Params} {S : Sto} {v : Value} {f : Fnd} {a : Addr} {cs : List (Str × Doc)} {k : Str} {d : Doc} {x y : Addr} (hv : DatumAt P S v f) (e : f.doc = .dict a cs) (h : (k, d) ∈ cs)
    (I : Inst P S x C_DatumInContext [(Str.ofString "_value", d.val), (Str.ofString "path", .ref y), (Str.ofString "context", v)]) (p : PathAt P S (.ref y) (.fields [k])) : DatumAt P S (.ref x) (f.sub (.key k, d)) :=
  .sub (pv := .ref y) (cv := v) I hv (.key p) (by rw [e]; exact List.mem_map_of_mem (f := fun p : Str × Doc => (Step.key p.1, p.2)) h)
theorem kids_dict {f : Fnd} {a : Addr} {cs : List (Str × Doc)} (e : f.doc = .dict a cs) {i : Nat} {k : Str} {d : Doc} (h : cs[i]? = some (k, d)) : f.kids[i]? = some (f.sub (.key k, d)) := by
  unfold Fnd.kids Doc.kids
  rw [e]
  simp only [List.getElem?_map, h, Option.map_some]
theorem kids_leaf {f : Fnd} (h1 : f.doc.isL = false) (h2 : f.doc.isD = false) : f.kids = [] := by
  unfold Fnd.kids Doc.kids
  cases h : f.doc with
  | leaf v => rfl
  | dict a cs => rw [h] at h2; cases h2
  | list a cs => rw [h] at h1; cases h1
theorem isL_inv : ∀ {d : Doc}, d.isL = true → ∃ a cs, d = .list a cs
  | .list a cs, _ => ⟨a, cs, rfl⟩
theorem isD_inv : ∀ {d : Doc}, d.isD = true → ∃ a cs, d = .dict a cs
  | .dict a cs, _ => ⟨a, cs, rfl⟩

theorem find_wild (w : World) (B : Heap) (hB : Hp w B) : FindSpec w B .wild := by
  intro A fr s S self v b f E Q C st H hp I hok hcap h
  cases hp with
  | @wild x hx =>
  have C : Cx A fr (7 + 1) := C
  refine wpAny_call ?_
  refine enterC (n := 7) (own := []) (mu := []) (S := S) (binds := [(Str.ofString "self", .ref x), (Str.ofString "datum", v)]) .nil hB C st H (by rfl) (by kernel_rfl) (BindsTo.of_eq rfl) (by rfl) (by decide) (fun L h₁ tk cells Ce F C' => ?_) rfl rfl rfl
  obtain ⟨o, rfl, hod⟩ := Ce.one
  refine wpAny_execs_cons (asg (wrapC hB (C'.le (by omega)) F (.head _) hod I fun v' s₁ S₁ F M D => stoC F hod fun s₂ o' F hod => ?_))
  obtain ⟨x2, pv, cv, rfl, I2⟩ := D.inst
  have hd := D.doc
  refine wpAny_execs_cons (wpAny_If (isTrue_plain (cb (hB.at F.st) (kn_isi _) bn_isi (spliced_more (Attribute_name (nmC F (.head _) hod (valueA hB (n := 5) C' F I2 hd.1.handed fun s₃ F => spliced_more (ltE hB F fun tp s₄ F => spliced_none (isLT hB F hd.1 fun s₅ F => wpAny_truthy_bool ?_)))))))))
  by_cases hL : f.doc.isL = true
  · rw [if_pos hL]
    obtain ⟨a, cs, e⟩ := isL_inv hL
    refine wpAny_execs_cons (wpAny_Return_some (cf (hB.at F.st) (kn_fae _) (kp_fae _) (spliced_more (nmC F (.head _) hod (spliced_none ⟨(hB.at F.st).k, wpAny_call ?_⟩)))))
    refine fae hB (C'.le (by omega)) F.st F.has D e fun r s₆ S₆ vs n O hr hds => ?_
    exact h r s₆ S₆ vs n (F.call O).out0 hr hds
  rw [if_neg hL]
  refine wpAny_execs_nil (wpAny_execs_cons (wpAny_If (isTrue_plain (cb (hB.at F.st) (kn_isi _) bn_isi (spliced_more (Attribute_name (nmC F (.head _) hod (valueA hB (n := 5) C' F I2 hd.1.handed fun s₃ F => spliced_more (bl (hB.at F.st) (kn_dict _) bn_dict (spliced_none (isi1 hB F (Kd.doc hd.1) (kit_d hd.1) fun s₄ F => wpAny_truthy_bool ?_)))))))))))
  by_cases hD : f.doc.isD = true
  · rw [if_pos hD]
    obtain ⟨a, cs, e⟩ := isD_inv hD
    have h3 : cs.length ≤ 3 := by have := hd.2.three; rw [e] at this; simpa [Doc.kids] using this
    have hdoc := hd.1
    rw [e] at hdoc
    obtain ⟨es, ep, hm, ho, he, nd⟩ : ∃ es ep, (a == sysModules) = false ∧ S₁ a (dictOf es ep) ∧ Ents w.params es (cs.map fun p => (p.1, p.2.val)) ∧ ((cs.map fun p => (p.1, p.2.val)).map (·.1)).Nodup := by
      cases hdoc with
      | dict hm ho he nd _ => exact ⟨_, _, hm, ho, he, by rw [List.map_map]; exact nd⟩
    refine wpAny_execs_cons (wpAny_Return_some (lcomp F (cl := [(Str.ofString "datum", L + 1)]) rfl ?_))
    refine MethodCall_ (Attribute_name (nmC F (.head _) hod (valueA hB (n := 5) C' F I2 hd.1.handed fun s₃ F => ?_)))
    rw [show f.doc.val = .ref a by rw [e]; rfl]
    refine itemsM F ho he nd (callWith_method0 (itemsC F ho he nd hm fun vw s₄ F => iterI F ho he nd fun I₂ s₅ ows F p0 => ?_))
    have X := Itp.items (w := w) (A := A.deeper (envOfC (Str.ofString "Wildcard.find") (defScope (methAt 15 1)) L (findOf .wild) (Value.ref 727))) (I := I₂) (d := a) (as := cs.map fun p => (p.1, p.2.val)) C'.handled
    refine ⟨S₁, ows ++ [(L + 1, o')], cs.length, _, fun out S' rest => rest = [(L + 1, o')] ∧ Datums w.params S' out f.kids, Nat.le_trans h3 three_ok, F, ⟨ows, _, rfl, p0, rfl, fun _ _ h => h, .nil⟩, LTurns.ofp (n := cs.length) (by simpa using X) C'.handled (fun i out S' rest => rest = [(L + 1, o')] ∧ (∀ a o, S₁ a o → S' a o) ∧ Datums w.params S' out (f.kids.take i)) rfl rfl (by decide) rfl (fun i out S₂ ows₁ rest s₆ C₁ oc D' od mc v1 v2 E' hi hvv J F N h1 h2 => ?_) (fun out S₂ rest J => ?_), fun D' out S₂ own k s₆ J F => ?_⟩
    · obtain ⟨rfl, M2, J⟩ := J
      obtain ⟨k, ⟨t, rfl⟩, _, d, hcd, rfl, rfl⟩ := hvv
      refine cfK (hB.at F.st) (kn_Dat _) (kp_Dat _) (spliced_more (nmO F (.head _) N h2 (spliced_none (kwAll_cons (MethodCall_ (gl (hB.at F.st) (kn_Fields _) (getC hB F (by kernel_rfl) (by kernel_rfl) (by kernel_rfl) (p := 601) (by kernel_rfl) (f := f_Fields_compliant_constructor) (by rfl) fun q s₇ F => callC hB F (by kernel_rfl) (spliced_more (nmO F (.tail _ (.head _)) N h1 (spliced_none ⟨S₂, F, rfl, compliant hB (C'.le (by omega)) F.st F.has fun y s₈ S₃ O py => ?_⟩))))))))))
      have F := (F.call O).drop
      refine kwAll_cons (nmC (c := L + 1) (o := o') F (by simp) hod (kwAll_nil ⟨(hB.at F.st).k, ?_⟩))
      refine dat (n := 2) hB (C'.le (by omega)) F (.inl rfl) (.inr (pathTruth py)) (.inr ⟨x2, _, rfl, I2.mono fun a o q => O.sub _ _ (M2 _ _ q)⟩) fun z s₉ S₄ pv F M3 I3 hpv => ?_
      obtain rfl := hpv (by intro q; cases q)
      refine ⟨S₄, _, oc, mc, F, N, fun a o q => M3 _ _ (O.sub _ _ q), rfl, fun a o q => M3 _ _ (O.sub _ _ (M2 _ _ q)), ?_⟩
      rw [List.take_add_one, kids_dict e hcd]
      exact (J.mono fun a o q => M3 _ _ (O.sub _ _ q)).snoc (sub_key (D.mono fun a o q => M3 _ _ (O.sub _ _ (M2 _ _ q))) e (List.mem_of_getElem? hcd) I3 (py.mono M3))
    · obtain ⟨rfl, M, J⟩ := J
      refine ⟨rfl, ?_⟩
      rwa [List.take_of_length_le (by rw [kids_len, e]; simp [Doc.kids])] at J
    · obtain ⟨rfl, J⟩ := J
      exact h D' _ _ out k F.freeze.out0 (.inr ⟨rfl, rfl⟩) (J.mono fun _ _ h => .inl h)
  · rw [if_neg hD]
    refine wpAny_execs_nil (wpAny_execs_cons (wpAny_Return_some (List_ (spliced_none (newL F fun a s₆ F => ?_)))))
    exact h a _ _ [] 0 F.freeze.out0 (.inr ⟨rfl, rfl⟩) (by show Datums _ _ [] f.kids; rw [kids_leaf (by simpa using hL) (by simpa using hD)]; exact .nil)
end DescLaw
end
section
open PySem PySem.W PyProof.Rows PySem.Calls
set_option Elab.async false
set_option maxRecDepth 100000
namespace DescLaw
section
variable {w : World} {A : Around} {E : Value → Shared → Prop} {B : Heap} {fr mu : List Addr} {s₀ s : Shared} {L : Addr} {m : Str → Option Value} {T S : Sto} {own : List (Addr × Obj)} {Q : Value → Shared → Prop}
theorem seq_list_iadd : seqSlot? (.type "list") (dunderI "add") = pure (some (.builtin "list.__iadd__")) := PySem.seqSlot_of PySem.F.slot_list_iadd.lookup (by decide +kernel)
theorem iaddL {l b : Addr} {vs ws : List Value} {k k2 : Nat} (F : Fx B T s₀ fr mu L m S ((l, listOf vs.toArray k) :: own) s) (hb : s.heap.get? b = some (listOf ws.toArray k2)) (hz : vs.length + ws.length ≤ 1000000)
    (h : ∀ s' k', Fx B T s₀ fr mu L m S ((l, listOf (vs ++ ws).toArray k') :: own) s' → Q (.ref l) s') : wpAny (model pw w) A (inplaceOp .Add (.ref l) (.ref b)) Q E s := by
  have hl := (F.mine _ (.head _)).1
  have ha : s.TypeIs (.ref l) "list" := ⟨_, hl, rfl⟩
  have hbt : s.TypeIs (.ref b) "list" := ⟨_, hb, rfl⟩
  unfold inplaceOp
  refine wpAny_holding ?_
  have hfi : fillsInplaceSlot (.type "list") "add" (Operator.Add == .Add) = pure false := by
    unfold fillsInplaceSlot
    show (typeLookup (.type "list") (dunderI "add") >>= fun fi => pure (fi.isSome && !isSeqSlot fi)) = pure false
    rw [PySem.F.slot_list_iadd.lookup]
    rfl
  refine wpAny_bind (wpAny_typeOf ha (wpAny_bind (wpAny_of_eq hfi ?_)))
  show wpAny _ A (if false = true then _ else _) Q E s
  rw [if_neg Bool.false_ne_true]
  refine wpAny_bind (wpAny_binaryOp1_none (nm := "add") ha hbt noFill_list_add ?_)
  refine wpAny_bind (wpAny_of_eq seq_list_iadd ?_)
  refine wpAny_bind (wpAny_rule ?_)
  have hm := million
  refine call_meets PySem.F.slot_list_iadd ha PySem.F.entry_list_iadd (PySem.F.args_list_iadd_2 _ _) (AutoSeq1.list___iadd___list_list_0 l vs.toArray k b ws.toArray k2 ?_ (by simp only [List.size_toArray]; omega) (by simp only [List.size_toArray]; omega)) ⟨hl, hb, ?_⟩
  · simp only [List.size_toArray, Builtin.List.listTooLong, Bool.and_eq_true, not_and, decide_eq_true_eq]
    omega
  · have e1 : Obj.mapSeq (fun x => x ++ ws.toArray) (listOf vs.toArray k) = listOf (vs ++ ws).toArray (if (vs.toArray ++ ws.toArray).size == vs.toArray.size then k else k + 1) := by
      have e0 : vs.toArray ++ ws.toArray = (vs ++ ws).toArray := by simp
      rw [← e0]; rfl
    have e := Heap.get?_update_self (Obj.mapSeq fun x => x ++ ws.toArray) hl (by rw [e1]; rfl)
    rw [e1] at e
    exact h _ _ (F.upd (tk := s.toks) (Heap.SameBut.update ..) e)
end
end DescLaw
end
section
open PySem PySem.W PyProof.Rows PySem.Calls
set_option Elab.async false
set_option maxRecDepth 100000
namespace DescLaw
section
variable {w : World} {A : Around} {E : Value → Shared → Prop} {B : Heap} {fr mu : List Addr} {s₀ s : Shared} {L : Addr} {m : Str → Option Value} {T S : Sto} {own : List (Addr × Obj)}
theorem floop {n : Nat} {it : Value} {P : Nat → Sto → List (Addr × Obj) → Prop} {V : Nat → Value → Prop} {x : Str} {px : Pos} {body : List Stmt} {env : Env} {ows : List (Addr × Obj)} {R : Result → Shared → Prop} (X : Itn w A n it P V)
    (J : Nat → (Str → Option Value) → Sto → List (Addr × Obj) → Prop) (F : Fx B T s₀ fr mu L m S (ows ++ own) s) (p0 : P 0 S ows) (j0 : J 0 m S own)
    (step : ∀ i m S ows own s v E', i < n → V i v → J i m S own → Fx B T s₀ fr mu L (fun y => if y = x then some v else m y) S (ows ++ own) s →
      wpAny (model pw w) A (execs body env) (fun f s₃ => match f with
        | .next => ∃ m' S' own', Fx B T s₀ fr mu L m' S' (ows ++ own') s₃ ∧ (∀ a o, S a o → S' a o) ∧ J (i + 1) m' S' own'
        | .cont => ∃ m' S' own', Fx B T s₀ fr mu L m' S' (ows ++ own') s₃ ∧ (∀ a o, S a o → S' a o) ∧ J (i + 1) m' S' own'
        | .brk => False
        | .ret v => R (.ok (.ret v)) s₃) E' s)
    (fin : ∀ m S own s, J n m S own → Fx B T s₀ fr mu L m S own s → R (.ok .next) s)
    (hL : env.locals = L := by rfl) (hx : env.kindOf x = some .local := by rfl) (hp : (env.scope.kind == .class || (env.scope.kind == .module && env.locals != env.globals)) = false := by rfl) :
    codeAny (model pw w) A (.forLoop (.Name x px) it body [] env) R s := by
  refine codeAny_forLoop (fun j s' => ∃ i m S ows own, Fx B T s₀ fr mu L m S (ows ++ own) s' ∧ P i S ows ∧ J i m S own ∧ i ≤ n ∧ j = n - i) ?_ n ⟨0, m, S, ows, own, F, p0, j0, Nat.zero_le _, rfl⟩ (fun v => by rfl)
  rintro j s' ⟨i, m, S, ows, own, F, p, jj, hi, rfl⟩
  by_cases hlt : i < n
  · refine X.item hlt p F fun v s₁ ows' F p hv => ?_
    refine wpAny_assign_Name (sto F (fun s₂ F => ?_) hL hx hp)
    refine wpAny_mono (step i m S ows' own s₂ v _ hlt hv jj F) (fun f s₃ h => ?_) fun _ _ e => e
    cases f with
    | next => obtain ⟨m', S', own', F, M, j'⟩ := h; exact ⟨n - (i + 1), by omega, i + 1, m', S', ows', own', F, X.mono p M, j', hlt, rfl⟩
    | cont => obtain ⟨m', S', own', F, M, j'⟩ := h; exact ⟨n - (i + 1), by omega, i + 1, m', S', ows', own', F, X.mono p M, j', hlt, rfl⟩
    | brk => exact h.elim
    | ret v => exact h
  · have : i = n := by omega
    subst this
    exact X.done p F fun s₁ F => wpAny_execs_nil (fin m S own s₁ jj F)

/-- a list's item, the place counted from either end -/
theorem itemN {value slice : Expr} {l : Addr} {items : List Value} {k : Int} {u : Tok} {v : Value} {Q : Value → Shared → Prop} (hl : s.heap.IsList l items.toArray) (hz : items.length ≤ 1000000) (h1 : -(items.length : Int) ≤ k) (h2 : k < items.length) (hx : items[(k % items.length).toNat]? = some v) (h : Q v s)
    (hs : subscripted slice false (.ref l) (.int k u) = operate [.ref l, .int k u] (getItem (.ref l) (.int k u)) := by with_unfolding_all rfl) : wpAny (model pw w) A (subscriptTail value slice (.ref l) (.int k u)) Q E s := by
  refine tail_any hl.typeIs slot_list_getitem.lookup ?_ hs
  by_cases h0 : 0 ≤ k
  · rw [Int.emod_eq_of_lt h0 h2] at hx
    exact wpAny_getItem_list hl h0 (by omega) (by simpa using hx) h
  · rw [show k % (items.length : Int) = k + items.length from by rw [← Int.add_emod_right, Int.emod_eq_of_lt (by omega) (by omega)]] at hx
    exact wpAny_getItem_list_neg hl (by omega) (by simpa using h1) (by omega) (by simpa using hx) h
end
theorem kn_none (P : Params) (h : True) : True := h
/-- the places of a list -/
theorem atIdx_in {f : Fnd} {a : Addr} {cs : List Doc} {i : Int} (e : f.doc = .list a cs) (h1 : -(cs.length : Int) ≤ i) (h2 : i < cs.length) : ∃ d, cs[(i % cs.length).toNat]? = some d ∧ atIdx f i = some (f.sub (.idx (i % cs.length).toNat, d)) := by
  have hp : 0 < (cs.length : Int) := by omega
  have h3 := Int.emod_nonneg i (by omega : (cs.length : Int) ≠ 0)
  have h4 := Int.emod_lt_of_pos i hp
  have h5 : (i % cs.length).toNat < cs.length := by omega
  refine ⟨cs[(i % cs.length).toNat], by simp [h5], ?_⟩
  unfold atIdx
  rw [e]
  simp only [h1, h2, and_self, if_true]
  simp [h5]
theorem atIdx_out {f : Fnd} {a : Addr} {cs : List Doc} {i : Int} (e : f.doc = .list a cs) (h : ¬ (-(cs.length : Int) ≤ i ∧ i < cs.length)) : atIdx f i = none := by
  unfold atIdx
  rw [e]
  simp only [h, if_false]
theorem atIdx_not {f : Fnd} {i : Int} (e : f.doc.isL = false) : atIdx f i = none := by
  unfold atIdx
  cases h : f.doc with
  | list => rw [h] at e; cases e
  | _ => rfl
section
variable {w : World} {B : Heap} {A : Around} {fr : List Addr} {s : Shared} {S : Sto}
theorem index_base {R : Result → Shared → Prop} {x : Addr} {v : Value} {f : Fnd} {b : Bool} {i : Int} (hB : Hp w B) (C : Cx A fr 7) (st : St B fr s) (H : Has S fr s) (hp : PathAt w.params S (.ref x) (.index i)) (I : InAt w.params S b v f)
    (h : ∀ r s' S' vs n, Out fr [] S s S' s' → S' r (listOf vs.toArray n) → Datums w.params S' vs (atIdx f i).toList → R (.ok (.ret (.ref r))) s') :
    codeAny (model pw w) A (.call (.ref f_Index_find_base) ⟨[.ref x, v], [(Str.ofString "create", .bool false)]⟩) R s := by
  cases hp with
  | @index _ ta _ t hx hta =>
  refine enter (n := 6) (own := []) (mu := []) (S := S) (binds := [(Str.ofString "self", .ref x), (Str.ofString "datum", v), (Str.ofString "create", .bool false)]) .nil hB C st H (by rfl) (by kernel_rfl) (BindsTo.of_eq rfl) (by decide) (locs rfl) (fun L h₁ tk F C' => ?_) rfl rfl rfl
  refine wpAny_execs_cons (asg (wrapE hB (C'.le (by omega)) F rfl I fun v' s₁ S₁ F M D => sto F fun s₂ F => ?_))
  obtain ⟨x2, pv, cv, rfl, I2⟩ := D.inst
  have hd := D.doc
  refine wpAny_execs_cons (wpAny_If (isTrue_plain (nm F rfl (wpAny_truthy_bool ?_))))
  rw [if_neg (by decide)]
  refine wpAny_execs_nil (wpAny_execs_cons (asg (List_ (spliced_none (newL F fun rv s₃ F => sto F fun s₄ F => ?_)))))
  refine wpAny_execs_cons (wpAny_If (isTrue_not (isTrue_plain (cb (hB.at F.st) (kn_isi _) bn_isi (spliced_more (Attribute_name (nm F rfl (valueA hB (n := 4) C' F I2 hd.1.handed fun s₅ F => spliced_more (ltE hB F fun tp s₆ F => spliced_none (isLT hB F hd.1 fun s₇ F => wpAny_truthy_bool ?_))))))))))
  by_cases hL : f.doc.isL = true
  rotate_left
  · have hL : f.doc.isL = false := by simpa using hL
    rw [hL, if_pos (by decide)]
    refine wpAny_execs_cons (wpAny_Return_some (nm F rfl (h rv _ _ [] 0 F.freeze.out0 (.inr ⟨rfl, rfl⟩) ?_)))
    rw [atIdx_not hL]; exact .nil
  rw [hL, if_neg (by decide)]
  obtain ⟨a, cs, e⟩ := isL_inv hL
  have h3 : cs.length ≤ 3 := by have := hd.2.three; rw [e] at this; simpa [Doc.kids] using this
  obtain ⟨kl, hlst⟩ : ∃ k, S₁ a (listOf (cs.map Doc.val).toArray k) := by
    have := hd.1
    rw [e] at this
    cases this with
    | list ho _ => exact ⟨_, ho⟩
  have ev : f.doc.val = .ref a := by rw [e]; rfl
  rw [ev] at I2
  refine wpAny_execs_nil (wpAny_execs_cons (wpAny_For (Attribute_name (nm F rfl (getA hB F (hx.mono M) rfl (by kernel_rfl) (by kernel_rfl) (attr := none) (by kernel_rfl) (by kernel_rfl) rfl fun s₈ F => iterT F (M _ _ hta) fun I₃ s₉ ows F p0 => ?_)))))
  let m0 : Str → Option Value := fun y => if y = Str.ofString "rv" then some (Value.ref rv) else if y = Str.ofString "datum" then some (Value.ref x2) else [(Str.ofString "self", Value.ref x), (Str.ofString "datum", v), (Str.ofString "create", .bool false)].reverse.lookup y
  refine floop (n := 1) (Itn.tuple (items := [.int i t]) C'.handled) (fun j m S' own => m (Str.ofString "rv") = some (.ref rv) ∧ m (Str.ofString "datum") = some (.ref x2) ∧ (∀ a o, S₁ a o → S' a o) ∧ ∃ vs k, own = [(rv, listOf vs.toArray k)] ∧ vs.length ≤ 1 ∧ (j = 0 → vs = []) ∧ (j = 1 → Datums w.params S' vs (atIdx f i).toList)) F p0
    ⟨rfl, rfl, fun _ _ h => h, [], 0, rfl, by simp, fun _ => rfl, by simp⟩ (fun j m S₂ ows own s₁₀ v E' hj hv ⟨hm1, hm2, M2, vs, k, e1, e2, e3, e4⟩ F => ?_) (fun m S₂ own s₁₁ ⟨hm1, hm2, M2, vs, k, e1, e2, e3, e4⟩ F => ?_)
  · subst e1
    have hj0 : j = 0 := by omega
    subst hj0
    obtain rfl := e3 rfl
    obtain rfl : v = .int i t := by simpa using hv.symm
    have hl : ∀ {s}, Has S₂ (L :: fr) s → s.heap.IsList a (cs.map Doc.val).toArray := fun H => ⟨_, H.get (M2 _ _ hlst), rfl, kl, rfl⟩
    have hi : (fun y => if y = Str.ofString "index" then some (Value.int i t) else m y) (Str.ofString "index") = some (.int i t) := if_pos rfl
    have hdt : (fun y => if y = Str.ofString "index" then some (Value.int i t) else m y) (Str.ofString "datum") = some (.ref x2) := (if_neg (by decide)).trans hm2
    have hrv : (fun y => if y = Str.ofString "index" then some (Value.int i t) else m y) (Str.ofString "rv") = some (.ref rv) := (if_neg (by decide)).trans hm1
    have hsz : ((cs.map Doc.val).toArray.size : Int) = cs.length := by simp
    have no : ∀ s, Fx B S s fr [] L (fun y => if y = Str.ofString "index" then some (Value.int i t) else m y) S₂ (ows ++ [(rv, listOf ([] : List Value).toArray k)]) s → True := fun _ _ => trivial
    refine wpAny_execs_cons (wpAny_If (isTrue_and (isTrue_plain (Attribute_name (nm F hdt (valueA hB (n := 4) C' F (I2.mono M2) rfl fun s₁₁ F => wpAny_truthy_list (hl F.has) (by rw [hsz]; omega) ?_))))))
    have F := F.toks (tk := s₁₁.toks + 1 + 1)
    by_cases h0 : cs = []
    · subst h0
      rw [if_neg (by decide), if_neg (by decide)]
      refine wpAny_execs_nil (wpAny_execs_nil ⟨_, S₂, _, F, fun _ _ h => h, hrv, hdt, M2, [], k, rfl, by simp, by simp, fun _ => ?_⟩)
      rw [atIdx_out e (by simp only [List.length_nil]; omega)]
      exact .nil
    have hpos : 0 < cs.length := List.length_pos_iff.mpr h0
    rw [if_pos (by simp [h0])]
    refine isTrue_and (isTrue_chain (UnaryOp_ (cb (hB.at F.st) (kn_len _) bn_len (spliced_more (Attribute_name (nm F hdt (valueA hB (n := 4) C' F (I2.mono M2) rfl fun s₁₂ F => spliced_none (lenL F (hl F.has) (by rw [hsz]; omega) fun t1 s₁₃ F => PyProof.Rows.neg_int ?_))))))))
    rw [hsz]
    have F := F.toks (tk := s₁₃.toks + 1)
    refine test_link (nm F hi (PyProof.Rows.le_int (wpAny_truthy_bool ?_)))
    by_cases h1 : -(cs.length : Int) ≤ i
    rotate_left
    · simp only [h1, decide_false, Bool.false_eq_true, if_false]
      refine wpAny_execs_nil (wpAny_execs_nil ⟨_, S₂, _, F, fun _ _ h => h, hrv, hdt, M2, [], k, rfl, by simp, by simp, fun _ => ?_⟩)
      rw [atIdx_out e (by omega)]
      exact .nil
    simp only [h1, decide_true, if_true]
    refine test_last (cb (hB.at F.st) (kn_len _) bn_len (spliced_more (Attribute_name (nm F hdt (valueA hB (n := 4) C' F (I2.mono M2) rfl fun s₁₄ F => spliced_none (lenL F (hl F.has) (by rw [hsz]; omega) fun t2 s₁₅ F => PyProof.Rows.lt_int (wpAny_truthy_bool ?_)))))))
    rw [hsz]
    by_cases h2 : i < (cs.length : Int)
    rotate_left
    · simp only [h2, decide_false, Bool.false_eq_true, if_false]
      refine wpAny_execs_nil (wpAny_execs_nil ⟨_, S₂, _, F, fun _ _ h => h, hrv, hdt, M2, [], k, rfl, by simp, by simp, fun _ => ?_⟩)
      rw [atIdx_out e (by omega)]
      exact .nil
    simp only [h2, decide_true, if_true]
    obtain ⟨d, hcd, hat⟩ := atIdx_in e h1 h2
    refine isTrue_and_nil ?_
    rw [if_pos rfl]
    refine wpAny_execs_cons (wpAny_AugAssign_Name (wpAny_loadName_local rfl rfl F.ns hrv (List_ (spliced_more (cfK (hB.at F.st) (kn_Dat _) (kp_Dat _) (spliced_more (Subscript_ (Attribute_name (nm F hdt (valueA hB (n := 4) C' F (I2.mono M2) rfl fun s₁₆ F => nm F hi (itemN (hl F.has) (by simp; omega) (by simpa using h1) (by simpa using h2) (v := d.val) ?_ ?_)))))))))))
    · simp only [List.length_map, List.getElem?_map, hcd, Option.map_some]
    refine spliced_none (kwAll_cons (cf (hB.at F.st) (kn_Index _) (kp_Index _) (spliced_more (nm F hi (spliced_none ⟨(hB.at F.st).k, index_ (n := 3) hB C' F fun y s₁₇ S₃ F M3 py => ?_⟩)))))
    refine kwAll_cons (nm F hdt (kwAll_nil ⟨(hB.at F.st).k, ?_⟩))
    refine dat (n := 3) hB C' F (.inl rfl) (.inr (pathTruth py)) (.inr ⟨x2, _, rfl, I2.mono fun a o q => M3 _ _ (M2 _ _ q)⟩) fun z s₁₈ S₄ pv F M4 I4 hpv => ?_
    obtain rfl := hpv (by intro q; cases q)
    refine spliced_none (newL F fun nl s₁₉ F => ?_)
    have F := F.freeze.perm (own' := (rv, listOf ([] : List Value).toArray k) :: ows) (List.perm_append_comm ..)
    refine iaddL F (F.has.get (.inr ⟨rfl, rfl⟩)) (by simp) fun s₂₀ k' F => sto F fun s₂₁ F => ?_
    refine wpAny_execs_nil (wpAny_execs_nil ⟨_, _, _, F.perm (List.perm_append_comm (l₁ := [_])), fun a o q => .inl (M4 _ _ (M3 _ _ q)), rfl, (if_neg (by decide)).trans hdt, fun a o q => .inl (M4 _ _ (M3 _ _ (M2 _ _ q))), [.ref z], k', rfl, by simp, by simp, fun _ => ?_⟩)
    rw [hat]
    exact .cons ((sub_idx (D.mono fun a o q => M4 _ _ (M3 _ _ (M2 _ _ q))) e hcd rfl I4 (py.mono M4)).mono fun _ _ h => .inl h) .nil
  · subst e1
    refine wpAny_execs_cons (wpAny_Return_some (nm F hm1 ?_))
    exact h rv _ _ vs k F.freeze.out0 (.inr ⟨rfl, rfl⟩) ((e4 rfl).mono fun _ _ h => .inl h)
end
end DescLaw
end
section
open PySem PySem.W PyProof.Rows PySem.Calls
set_option Elab.async false
set_option maxRecDepth 100000
namespace DescLaw
section
variable {prog : Program} {w : World} {A : Around} {E : Value → Shared → Prop} {s : Shared} {name : Str} {Q : Value → Shared → Prop}
/-- a name that a builtin type's value has not -/
theorem gam {v : Value} {T id : String} {B : Builtin} {Sp : Tok → PySem.Spec} (slot : PySem.Slot T "__getattribute__" id) (entry : entryFor table id = some B) (args : ∀ u, argsOk id ⟨[v, .str name u], []⟩) (hook : typeLookup (.type T) "__getattr__" = pure none) (hT : ∀ tk, ({ s with toks := tk } : Shared).TypeIs v T)
    (g : ∀ u, Meets (B ⟨[v, .str name u], []⟩) (Sp u)) (hS : ∀ u A R tk, raisesAttr v name A R { s with toks := tk } → Sp u A R { s with toks := tk }) (hA : A.handled = none)
    (h : ∀ h' tk e, Heap.NewExcOf s.heap h' e "AttributeError" → E (.ref e) { s with heap := h', toks := tk }) : wpAny (model prog w) A (getAttr v name) Q E s := by
  refine wpAny_bind (wpAny_mkText ?_)
  refine wpAny_holding (wpAny_bind (wpAny_typeOf (hT _) (wpAny_bind (wpAny_of_eq slot.lookup ?_))))
  show wpAny _ _ (if (onTheHeap (.type T) && Value.builtin id == .builtin "object.__getattribute__") = true then _ else getAttrByItsOwn v (.str name s.toks) (.type T) (.builtin id) true false) Q E _
  rw [if_neg (by simp [onTheHeap])]
  refine wpAny_bind (wpAny_of_eq (show hookBefore (.type T) = pure none from rfl) (wpAny_bind (wpAny_attempt (wpAny_holding ?_))))
  show wpAny _ _ (boundAndCalled (.builtin id) v (.str name s.toks)) _ _ _
  refine wpAny_bind (wpAny_of_eq (slot.bind _) ?_)
  show wpAny _ _ (call (.builtin id) [v, .str name s.toks]) _ _ _
  refine call_meets slot (hT _) entry (args _) (g _) (hS _ _ _ _ ⟨hA, fun h' tk' e hx => ?_⟩)
  show wpAny _ _ (getattributeRaised v (.str name s.toks) (.type T) (.ref e) none true false) _ _ _
  obtain ⟨t', u', he⟩ := hx.there
  refine wpAny_bind (wpAny_isInstance ⟨_, he, rfl⟩ sub_AttributeError ?_)
  rw [if_pos rfl]
  refine wpAny_bind (wpAny_of_eq hook ?_)
  show wpAny _ _ (attributeErrorLeaves v (.str name s.toks) (.ref e) true false) _ _ _
  unfold attributeErrorLeaves noteAttr lacksNameAndObj
  have f1 := sub_AttributeError
  repeat (first | assumption | wp_step)
  exact h _ _ _ hx.of
theorem gam_none (hmiss : typeLookup (.type "NoneType") name = pure none) (hA : A.handled = none)
    (h : ∀ h' tk e, Heap.NewExcOf s.heap h' e "AttributeError" → E (.ref e) { s with heap := h', toks := tk }) (hsz : name.length + 100 ≤ sizeLine) : wpAny (model prog w) A (getAttr (.none) name) Q E s :=
  gam (Sp := fun _ => _) PySem.F.slot_NoneType_getattribute PySem.F.entry_object_getattribute (fun _ => PySem.F.args_object_getattribute_2 _ _) am_none_getattr_none (fun _ => rfl) (fun u => meets_getattribute_miss_none name u hmiss hsz) (fun _ _ _ _ x => x) hA h
theorem gam_bool {b : Bool} (hmiss : typeLookup (.type "bool") name = pure none) (hA : A.handled = none)
    (h : ∀ h' tk e, Heap.NewExcOf s.heap h' e "AttributeError" → E (.ref e) { s with heap := h', toks := tk }) (hsz : name.length + 100 ≤ sizeLine) : wpAny (model prog w) A (getAttr (.bool b) name) Q E s :=
  gam (Sp := fun _ => _) PySem.F.slot_bool_getattribute am_entry_int_getattribute (fun _ => PySem.F.args_int_getattribute_2 _ _) am_bool_getattr_none (fun _ => rfl) (fun u => meets_getattribute_miss_bool b name u hmiss hsz) (fun _ _ _ _ x => x) hA h
theorem gam_int {n : Int} {t : Tok} (hmiss : typeLookup (.type "int") name = pure none) (hA : A.handled = none)
    (h : ∀ h' tk e, Heap.NewExcOf s.heap h' e "AttributeError" → E (.ref e) { s with heap := h', toks := tk }) (hsz : name.length + 100 ≤ sizeLine) : wpAny (model prog w) A (getAttr (.int n t) name) Q E s :=
  gam (Sp := fun _ => _) PySem.F.slot_int_getattribute am_entry_int_getattribute (fun _ => PySem.F.args_int_getattribute_2 _ _) am_int_getattr_none (fun _ => rfl) (fun u => meets_getattribute_miss_int n t name u hmiss hsz) (fun _ _ _ _ x => x) hA h
theorem gam_str {x : Str} {t : Tok} (hmiss : typeLookup (.type "str") name = pure none) (hA : A.handled = none)
    (h : ∀ h' tk e, Heap.NewExcOf s.heap h' e "AttributeError" → E (.ref e) { s with heap := h', toks := tk }) (hsz : name.length + 100 ≤ sizeLine) : wpAny (model prog w) A (getAttr (.str x t) name) Q E s :=
  gam (Sp := fun _ => _) PySem.F.slot_str_getattribute PySem.F.entry_object_getattribute (fun _ => PySem.F.args_object_getattribute_2 _ _) am_str_getattr_none (fun _ => rfl) (fun u => meets_getattribute_miss_str x t name u hmiss hsz) (fun _ _ _ _ x => x) hA h
theorem gam_list {a : Addr} {xs : Array Value} {k : Nat} (hx : s.heap.get? a = some (listOf xs k)) (hmiss : typeLookup (.type "list") name = pure none) (hname : (["__module__", "__name__", "__qualname__", "__doc__", "__annotations__"] : List Str).contains name = false) (hA : A.handled = none)
    (h : ∀ h' tk e, Heap.NewExcOf s.heap h' e "AttributeError" → E (.ref e) { s with heap := h', toks := tk }) (hsz : name.length + 100 ≤ sizeLine) : wpAny (model prog w) A (getAttr (.ref a) name) Q E s :=
  gam (Sp := fun _ => _) PySem.F.slot_list_getattribute am_entry_list_getattribute (fun _ => PySem.F.args_list_getattribute_2 _ _) am_list_getattr_none (fun _ => ⟨_, hx, rfl⟩) (fun u => meets_getattribute_miss_list a xs k #[] name u hmiss hname hsz) (fun _ _ _ _ x => ⟨hx, x⟩) hA h
theorem gm_miss {v : Value} {T : String} {pl : Sem Bool} {Q : Value × List Value → Shared → Prop} (hT : s.TypeIs v T) (pa : PlainAttrs T) (hmiss : typeLookup (.type T) name = pure none) (h : wpAny (model prog w) A (getAttr v name) (fun v => Q (v, [])) E s) : wpAny (model prog w) A (getMethod v name pl) Q E s := by
  obtain ⟨g, hg, hcan⟩ := pa.ga
  unfold getMethod
  refine wpAny_bind (wpAny_specialOf hT hg ?_)
  show wpAny _ A (if (Manifest.canonical g != "object.__getattribute__") = true then _ else _) Q E s
  rw [hcan, if_neg Bool.false_ne_true]
  refine wpAny_bind (wpAny_specialOf hT pa.noGetattr ?_)
  refine wpAny_bind (wpAny_specialOf hT hmiss ?_)
  exact wpAny_bind (wpAny_mono h (fun _ _ z => wpAny_pure z) fun _ _ z => z)
end
section
variable {w : World} {A : Around} {E : Value → Shared → Prop} {B : Heap} {fr mu : List Addr} {s₀ s : Shared} {L : Addr} {m : Str → Option Value} {T S : Sto} {own : List (Addr × Obj)}
theorem miss_int : typeLookup (.type "int") (Str.ofString "get") = pure none := am_miss_of_fast (by decide +kernel)
theorem miss_str : typeLookup (.type "str") (Str.ofString "get") = pure none := am_miss_of_fast (by decide +kernel)
theorem miss_bool : typeLookup (.type "bool") (Str.ofString "get") = pure none := am_miss_of_fast (by decide +kernel)
theorem miss_NoneType : typeLookup (.type "NoneType") (Str.ofString "get") = pure none := am_miss_of_fast (by decide +kernel)
theorem miss_list : typeLookup (.type "list") (Str.ofString "get") = pure none := am_miss_of_fast (by decide +kernel)
theorem get_name : (["__module__", "__name__", "__qualname__", "__doc__", "__annotations__"] : List Str).contains (Str.ofString "get") = false := by decide +kernel
theorem get_fits : (Str.ofString "get").length + 100 ≤ sizeLine := by decide
/-- d.get, d no dict -/
theorem gm_doc {d : Doc} {pl : Sem Bool} {Q : Value × List Value → Shared → Prop} (F : Fx B T s₀ fr mu L m S own s) (hA : A.handled = none) (hd : DocAt w.params S d) (hn : d.isD = false) (h : ∀ h' tk e, Heap.NewExcOf s.heap h' e "AttributeError" → E (.ref e) { s with heap := h', toks := tk }) :
    wpAny (model pw w) A (getMethod d.val (Str.ofString "get") pl) Q E s := by
  cases hd with
  | @leaf v hv =>
    cases v with
    | int n t => exact gm_miss (T := "int") rfl PySem.F.plainAttrs_int miss_int (gam_int miss_int hA h get_fits)
    | str n t => exact gm_miss (T := "str") rfl PySem.F.plainAttrs_str miss_str (gam_str miss_str hA h get_fits)
    | bool n => exact gm_miss (T := "bool") rfl PySem.F.plainAttrs_bool miss_bool (gam_bool miss_bool hA h get_fits)
    | none => exact gm_miss (T := "NoneType") rfl PySem.F.plainAttrs_NoneType miss_NoneType (gam_none miss_NoneType hA h get_fits)
    | _ => simp [isLeaf] at hv
  | dict => cases hn
  | @list a cs n ho _ => exact gm_miss (T := "list") ⟨_, F.has.get ho, rfl⟩ PySem.F.plainAttrs_list miss_list (gam_list (F.has.get ho) miss_list get_name hA h get_fits)
end
end DescLaw
end
section
open PySem PySem.W PyProof.Rows PySem.Calls
set_option Elab.async false
set_option maxRecDepth 100000
namespace DescLaw
theorem bn_TE : bootBuiltins (Str.ofString "TypeError") = some (.type "TypeError") := by decide +kernel
theorem bn_AE : bootBuiltins (Str.ofString "AttributeError") = some (.type "AttributeError") := by decide +kernel
theorem kn_TE (P : Params) : nsIn (K P) mainGlobals (Str.ofString "TypeError") = some none := by kernel_rfl
theorem kn_AE (P : Params) : nsIn (K P) mainGlobals (Str.ofString "AttributeError") = some none := by kernel_rfl
theorem funFramesOf {h base : Heap} : ∀ {l : List Env}, (∀ e ∈ l, e.scope.kind = .function ∧ ∃ b, e.frame = some b ∧ base.get? b = none ∧ ∃ o es ep, h.get? b = some o ∧ o.data = .dict es ep) → h.FunFrames base l
  | [], _ => trivial
  | e :: l, H => by
    obtain ⟨hk, b, hf, hb, o, es, ep, ho, hd⟩ := H e (.head _)
    exact ⟨(by rw [hk]; decide), ⟨b, o, hf, hb, ho, fun vs q => by rw [hd] at q; cases q⟩, funFramesOf fun e he => H e (.tail _ he)⟩
section
variable {w : World} {A : Around} {E : Value → Shared → Prop} {B : Heap} {fr mu : List Addr} {s₀ s : Shared} {L : Addr} {m : Str → Option Value} {T S : Sto} {own : List (Addr × Obj)} {n : Nat}
/-- all stands but slots of the frames: still within the body -/
theorem Fx.slots {h' : Heap} {tk : Nat} (F : Fx B T s₀ fr mu L m S own s) (k : (hideAll s.heap ((L :: fr).filter (· ≠ tabP))).StaysIn h') (u : s.heap.UpToSlots h') : Fx B T s₀ fr mu L m S own { s with heap := h', toks := tk } := by
  refine F.step0 ⟨rfl, fun b o hb _ e => k b o (hideAll_get _ e fun q => hb (List.mem_filter.mp q).1), fun b hb o e => ?_, id, Nat.le_refl _⟩
  by_cases ht : b = tabP
  · exact ⟨o, k b o (hideAll_get _ e fun q => by simpa [ht] using (List.mem_filter.mp q).2), .refl b o⟩
  obtain ⟨_, o', e', d⟩ := F.st.frs b hb
  rw [e] at e'
  cases e'
  obtain ⟨es, ep, d⟩ := d.ne ht
  obtain ⟨sl, h⟩ := u b o e fun vs q => by rw [d] at q; cases q
  exact ⟨_, h, .slots o sl ht⟩
theorem catchAttr {env : Env} {h₁ : Heap} {tk : Nat} {e : Addr} {Q : Flow → Shared → Prop} {p1 p2 p3 p4 p5 p6 : Pos} {k j : Nat} (hB : Hp w B) (C : Cx A fr (n + 1)) (F : Fx B T s₀ fr mu L m S own s) (hx : Heap.NewExcOf s.heap h₁ e "AttributeError")
    (h : ∀ s', Fx B T s₀ fr mu L m S own s' → Q (.ret .none) s')
    (hf : env.frame = some L := by rfl) (hk : env.scope.kind = .function := by rfl) (hg : env.globals = mainGlobals := by rfl) (hb : env.builtins = builtinsNs := by rfl)
    (hx1 : env.kindOf (Str.ofString "TypeError") = some .globalImplicit := by rfl) (hx2 : env.kindOf (Str.ofString "AttributeError") = some .globalImplicit := by rfl) :
    wpAny (model pw w) (A.deeper env) (noteFrame (.ref e) env) (fun _ s₂ => wpAny (model pw w) (A.deeper env) (setFlight (.ref e) none) (fun _ s₃ => wpAny (model pw w) (A.deeper env)
      (handleBy (.ref e) env [.ExceptHandler (some (.Tuple [.Name (Str.ofString "TypeError") p1, .Name (Str.ofString "AttributeError") p2] k p3)) none [.Return (some (.Constant .none j p4)) p5] p6]) Q E s₃) E s₂) E { s with heap := h₁, toks := tk } := by
  obtain ⟨l, l1, l2, l3⟩ := C.frames
  have hfr : (A.deeper env).frames = some (env :: l) := by show A.frames.map (env :: ·) = _; rw [l1]; rfl
  have hl0 : s.heap.FunFrames (hideAll s.heap ((L :: fr).filter (· ≠ tabP))) (env :: l) := funFramesOf fun e' he => by
    rcases List.mem_cons.mp he with rfl | he
    · obtain ⟨_, o, e1, d⟩ := F.st.frs L (.head _)
      obtain ⟨es, ep, d⟩ := d.ne F.ne
      exact ⟨hk, L, hf, hideAll_none _ (List.mem_filter.mpr ⟨.head _, by simpa using F.ne⟩), o, es, ep, e1, d⟩
    · obtain ⟨k1, k2⟩ := l3 e' he
      obtain ⟨b, hb, hne⟩ := k2
      have hm : b ∈ fr := by rw [← l2]; exact List.mem_append_left _ (List.mem_filterMap.mpr ⟨e', he, hb⟩)
      obtain ⟨_, o, e1, d⟩ := F.st.frs b (.tail _ hm)
      obtain ⟨es, ep, d⟩ := d.ne hne
      exact ⟨k1, b, hb, hideAll_none _ (List.mem_filter.mpr ⟨.tail _ hm, by simpa using hne⟩), o, es, ep, e1, d⟩
  have hl1 := hl0.of_keeps (h' := h₁) fun b o hb _ => ⟨o, hx.keeps b o hb, rfl⟩
  have hkb : (hideAll s.heap ((L :: fr).filter (· ≠ tabP))).StaysIn h₁ := fun b o q => hx.keeps b o (of_hideAll _ q)
  have hen : (hideAll s.heap ((L :: fr).filter (· ≠ tabP))).get? e = none := by
    cases q : (hideAll s.heap ((L :: fr).filter (· ≠ tabP))).get? e with
    | none => rfl
    | some o => have := of_hideAll _ q; rw [hx.new] at this; cases this
  obtain ⟨ob, vs, he, hc, hd, h1⟩ := hx.there
  obtain ⟨a0, h0⟩ : ∃ a0, vs[0]? = some a0 := by
    have := (Array.getElem?_eq_some_iff.mp h1).1
    exact ⟨vs[0], by simp [Nat.lt_of_succ_lt this]⟩
  unfold noteFrame
  simp only [hf]
  refine wpAny_bind (wpAny_field he hd h1 ?_)
  rw [if_neg (by decide)]
  refine wpAny_entryW hfr hl1 hf he hkb hen hd (Array.getElem?_eq_some_iff.mp h1).1 h0 fun h₂ ⟨k1, k2, k3, k4⟩ => ?_
  refine wpAny_landsW (base := hideAll s.heap ((L :: fr).filter (· ≠ tabP))) (l := env :: l) (cls := ob.cls) (a0 := a0) ⟨k1, hen, k2, k3⟩ fun h₃ hfl u₃ => ?_
  have baseIn : ∀ b o, B.get? b = some o → h₃.get? b = some o := fun b o e' => hfl.1 b o (hideAll_get _ (F.st.base b o e') fun hm => by rw [(F.st.frs b (List.mem_filter.mp hm).1).1] at e'; cases e')
  have hp3 : Hp w h₃ := hB.keeps baseIn
  refine wpAny_handleBy_tup2 (T1 := "TypeError") (T2 := "AttributeError") (X := "AttributeError") (b1 := false) (b2 := true) (by rw [isSubtype_type]; kernel_rfl) (by rw [isSubtype_type]; kernel_rfl) (by rw [isSubtype_type]; kernel_rfl) (by rw [isSubtype_type]; kernel_rfl) (by rw [isSubtype_type]; kernel_rfl) (by rw [isSubtype_type]; kernel_rfl) ?_
  refine Tuple_ (spliced_more (bl hp3 (kn_TE _) bn_TE (spliced_more (bl hp3 (kn_AE _) bn_AE (spliced_none ?_) (hg := hg) (hb := hb) (hk := hk) (hx := hx2))) (hg := hg) (hb := hb) (hk := hk) (hx := hx1)))
  obtain ⟨f1, f2, f3, oe, vs', tb, oT, ts, t1, t2, t3, t4, t5, t6, t7, t8, t9⟩ := hfl
  have push : ∀ b o, h₃.get? b = some o → (h₃.push { cls := .type "tuple", data := .seq [Value.type "TypeError", .type "AttributeError"].toArray }).get? b = some o := fun b o e' => Heap.get?_push_of_some _ e'
  refine wpAny_newObj_type ⟨_, rfl, ⟨_, Heap.get?_push_size _ rfl, rfl, _, rfl⟩, ⟨oe, push _ _ t1, t2.1.trans hc⟩, ?_⟩ (show 2 ≤ sizeLine by decide)
  rw [if_pos (by decide)]
  refine lands_againW (base := hideAll s.heap ((L :: fr).filter (· ≠ tabP))) (l := env :: l) (cls := ob.cls) (a0 := a0) ⟨fun b o q => push b o (f1 b o q), f2, f3.of_keeps fun b o hb _ => ⟨o, push b o hb, rfl⟩, oe, vs', tb, oT, ts, push _ _ t1, t2, t3, t4, t5, t6, push _ _ t7, t8, t9⟩ fun h₄ hfl4 u₄ => ?_
  refine wpAny_execs_cons (wpAny_Return_some (wpAny_Constant_none (h _ (F.slots hfl4.1 ?_))))
  exact (((Heap.UpToSlots.of_keeps hx.keeps).trans k4).trans u₃).trans ((Heap.UpToSlots.of_keeps push).trans u₄)
end
end DescLaw
end
section
open PySem PySem.W PyProof.Rows PySem.Calls
set_option Elab.async false
set_option maxRecDepth 100000
namespace DescLaw
theorem kn_NS (P : Params) : nsIn (K P) mainGlobals (Str.ofString "NOT_SET") = some (some (.ref 61)) := by kernel_rfl
theorem k_NS (P : Params) : (K P).lookup 61 = some { cls := .ref 55, dict := some 60, data := .plain, slots := #[] } := by rfl
theorem valueAt_doc {cs : List (Str × Doc)} {k : Str} : valueAt (cs.map fun p => (p.1, p.2.val)) k = (cs.lookup k).map Doc.val := by
  unfold valueAt
  induction cs with
  | nil => rfl
  | cons p cs ih =>
    rw [List.map_cons, List.find?_cons, List.lookup_cons]
    by_cases h : p.1 = k
    · simp [h]
    · rw [beq_eq_false_iff_ne.mpr (Ne.symm h)]
      simp only [h, decide_false]
      exact ih
theorem lookup_mem {cs : List (Str × Doc)} {k : Str} {d : Doc} (hd : cs.lookup k = some d) : (k, d) ∈ cs := by
  induction cs with
  | nil => simp at hd
  | cons p cs ih =>
    rw [List.lookup_cons] at hd
    split at hd
    · rename_i q; rw [beq_iff_eq] at q; cases hd; rw [q]; exact .head _
    · exact .tail _ (ih hd)
section
variable {w : World} {A : Around} {E : Value → Shared → Prop} {B : Heap} {fr mu : List Addr} {s₀ s : Shared} {L : Addr} {m : Str → Option Value} {T S : Sto} {own : List (Addr × Obj)}
theorem notNS {d : Doc} {Q : Value → Shared → Prop} (hB : Hp w B) (F : Fx B T s₀ fr mu L m S own s) (hd : DocAt w.params S d) (h : Q (.bool false) s) : wpAny (model pw w) A (compareOp .Is d.val (.ref 61)) Q E s := by
  have hN := (hB.at F.st).k _ _ (k_NS w.params)
  cases hd with
  | @leaf v hv => cases v <;> first | exact wpAny_is_other rfl (by intro q; cases q) h | (simp [isLeaf] at hv)
  | dict _ ho => exact wpAny_is_ref_other (fun q => by rw [q] at ho; have := F.has.get ho; rw [hN] at this; cases this) (F.has.get ho) hN (show Value.type "dict" ≠ .type "tuple" by decide) h
  | list ho => exact wpAny_is_ref_other (fun q => by rw [q] at ho; have := F.has.get ho; rw [hN] at this; cases this) (F.has.get ho) hN (show Value.type "list" ≠ .type "tuple" by decide) h
end
section
variable {w : World} {B : Heap} {A : Around} {fr : List Addr} {s : Shared} {S : Sto}
def GotAt (P : Params) (S : Sto) (r : Value) : Option Fnd → Prop
  | none => r = .none
  | some g => DatumAt P S r g
theorem gfd {R : Result → Shared → Prop} {v : Value} {f : Fnd} {k : Str} {t : Tok} (hB : Hp w B) (C : Cx A fr 7) (st : St B fr s) (H : Has S fr s) (D : DatumAt w.params S v f)
    (h : ∀ r s' S', Out fr [] S s S' s' → GotAt w.params S' r (atKey f k) → R (.ok (.ret r)) s') :
    codeAny (model pw w) A (.call (.ref f_Fields_get_field_datum) ⟨[v, .str k t, .bool false], []⟩) R s := by
  refine enter (n := 6) (own := []) (mu := []) (S := S) (binds := [(Str.ofString "datum", v), (Str.ofString "field", .str k t), (Str.ofString "create", .bool false)]) .nil hB C st H (by rfl) (by kernel_rfl) (BindsTo.of_eq rfl) (by decide) (locs rfl) (fun L h₁ tk F C' => ?_) rfl rfl rfl
  obtain ⟨x2, pv, cv, rfl, I2⟩ := D.inst
  have hd := D.doc
  refine wpAny_execs_cons (wpAny_Try_except (wpAny_execs_cons (asg (MethodCall_ (Attribute_name (nm F rfl (valueA hB (n := 4) C' F I2 hd.1.handed fun s₁ F => ?_)))))))
  by_cases hD : f.doc.isD = true
  rotate_left
  · have hD : f.doc.isD = false := by simpa using hD
    refine gm_doc F C'.handled hd.1 hD fun h' tk' e hx => ?_
    refine catchAttr (n := 6) hB C F hx fun s₂ F => ?_
    refine h _ _ _ F.out0 ?_
    have : atKey f k = none := by
      unfold atKey
      cases q : f.doc with
      | dict => rw [q] at hD; cases hD
      | _ => rfl
    rw [this]; rfl
  obtain ⟨a, cs, e⟩ := isD_inv hD
  have hdoc := hd.1
  rw [e] at hdoc
  obtain ⟨es, ep, hm, ho, he, nd, hc⟩ : ∃ es ep, (a == sysModules) = false ∧ S a (dictOf es ep) ∧ Ents w.params es (cs.map fun p => (p.1, p.2.val)) ∧ ((cs.map fun p => (p.1, p.2.val)).map (·.1)).Nodup ∧ ∀ p ∈ cs, DocAt w.params S p.2 := by
    cases hdoc with
    | dict hm ho he nd hc => exact ⟨_, _, hm, ho, he, by rw [List.map_map]; exact nd, hc⟩
  have hat : atKey f k = (cs.lookup k).map fun d => f.sub (.key k, d) := by unfold atKey; rw [e]
  rw [show f.doc.val = .ref a by rw [e]; rfl]
  have hO := (he.dictAt (F.has.get ho) nd).dictOf
  refine getMethod_builtin hO.typeIs PySem.F.plainAttrs_dict PySem.F.slot_dict_get PySem.F.type_dict_get hO.mapOf.noDict ?_
  refine callWith_method1 (spliced_more (nm F rfl (spliced_more (gl (hB.at F.st) (kn_NS _) (spliced_none ?_)))))
  refine call_meetsIn PySem.F.slot_dict_get hO.typeIs PySem.F.entry_dict_get (PySem.F.args_dict_get_3 _ _ _) (meets_dict_get_default (PySem.strKind pw w) a (strKind_is pw w k t) hm (.ref 61)) ⟨_, hO.mapOf, ?_⟩
  rw [valueAt_doc]
  have F := F.toks (tk := s₁.toks + 1)
  cases hk : cs.lookup k with
  | none =>
    refine sto F fun s₂ F => ?_
    refine wpAny_execs_cons (wpAny_If (wpAny_isTrue_Compare1 (nm F rfl (gl (hB.at F.st) (kn_NS _) (wpAny_is_ref_self (wpAny_truthy_bool ?_))))))
    rw [if_pos rfl]
    refine wpAny_execs_cons (wpAny_If (isTrue_plain (nm F rfl (wpAny_truthy_bool ?_))))
    rw [if_neg (by decide)]
    refine wpAny_execs_cons (wpAny_Return_some (wpAny_Constant_none (h _ _ _ F.out0 ?_)))
    rw [hat, hk]; rfl
  | some d =>
    have hdk := lookup_mem hk
    refine sto F fun s₂ F => ?_
    refine wpAny_execs_cons (wpAny_If (wpAny_isTrue_Compare1 (nm F rfl (gl (hB.at F.st) (kn_NS _) (notNS hB F (hc _ hdk) (wpAny_truthy_bool ?_))))))
    rw [if_neg (by decide)]
    refine wpAny_execs_nil (wpAny_execs_cons (wpAny_Return_some (cfK (hB.at F.st) (kn_Dat _) (kp_Dat _) (spliced_more (nm F rfl (spliced_none (kwAll_cons (MethodCall_ (gl (hB.at F.st) (kn_Fields _) (getC hB F (by kernel_rfl) (by kernel_rfl) (by kernel_rfl) (p := 601) (by kernel_rfl) (f := f_Fields_compliant_constructor) (by rfl) fun q s₇ F => callC hB F (by kernel_rfl) (spliced_more (nm F rfl (spliced_none ⟨S, F, rfl, compliant hB (C'.le (by omega)) F.st F.has fun y s₈ S₃ O py => ?_⟩)))))))))))))
    have F := (F.call O).drop
    refine kwAll_cons (nm F rfl (kwAll_nil ⟨(hB.at F.st).k, ?_⟩))
    refine dat (n := 2) hB (C'.le (by omega)) F (.inl rfl) (.inr (pathTruth py)) (.inr ⟨x2, _, rfl, I2.mono O.sub⟩) fun z s₉ S₄ pv F M3 I3 hpv => ?_
    obtain rfl := hpv (by intro q; cases q)
    refine h _ _ _ F.out0 ?_
    rw [hat, hk]
    exact sub_key (D.mono fun a o q => M3 _ _ (O.sub _ _ q)) e hdk I3 (py.mono M3)
end
end DescLaw
end
section
open PySem PySem.W PyProof.Rows PySem.Calls
set_option Elab.async false
set_option maxRecDepth 100000
namespace DescLaw
section
variable {w : World} {B : Heap} {A : Around} {fr : List Addr} {s : Shared} {S : Sto}
theorem isw {R : Result → Shared → Prop} {x : Addr} {v fv : Value} (hB : Hp w B) (C : Cx A fr 1) (st : St B fr s) (H : Has S fr s) (hx : Inst w.params S x C_Fields [(Str.ofString "_deprecated_wildcard_use", .bool false), (Str.ofString "fields", fv)])
    (h : ∀ s', Out fr [] S s S s' → R (.ok (.ret (.bool false))) s') : codeAny (model pw w) A (.call (.ref f_Fields_is_wildcard_on_array) ⟨[.ref x, v], []⟩) R s := by
  refine enter (n := 0) (own := []) (mu := []) (S := S) (binds := [(Str.ofString "self", .ref x), (Str.ofString "value", v)]) .nil hB C st H (by rfl) (by kernel_rfl) (BindsTo.of_eq rfl) (by decide) (locs rfl) (fun L h₁ tk F C' => ?_) rfl rfl rfl
  refine wpAny_execs_cons (wpAny_Return_some (BoolOp_and (Attribute_name (nm F rfl (getA hB F hx rfl (by kernel_rfl) (by kernel_rfl) (attr := none) (by kernel_rfl) (by kernel_rfl) rfl fun s₁ F => wpAny_truthy_bool ?_)))))
  rw [if_neg (by decide)]
  exact h _ F.out0
theorem reified {R : Result → Shared → Prop} {x : Addr} {v fv : Value} (hB : Hp w B) (C : Cx A fr 1) (st : St B fr s) (H : Has S fr s) (hx : Inst w.params S x C_Fields [(Str.ofString "_deprecated_wildcard_use", .bool false), (Str.ofString "fields", fv)]) (hf : handedIn fv = true)
    (h : ∀ s', Out fr [] S s S s' → R (.ok (.ret fv)) s') : codeAny (model pw w) A (.call (.ref f_Fields_reified_fields) ⟨[.ref x, v], []⟩) R s := by
  refine enter (n := 0) (own := []) (mu := []) (S := S) (binds := [(Str.ofString "self", .ref x), (Str.ofString "datum", v)]) .nil hB C st H (by rfl) (by kernel_rfl) (BindsTo.of_eq rfl) (by decide) (locs rfl) (fun L h₁ tk F C' => ?_) rfl rfl rfl
  refine wpAny_execs_cons (wpAny_If (isTrue_not (isTrue_plain (Attribute_name (nm F rfl (getA hB F hx rfl (by kernel_rfl) (by kernel_rfl) (attr := none) (by kernel_rfl) (by kernel_rfl) rfl fun s₁ F => wpAny_truthy_bool ?_))))))
  rw [if_pos (by decide)]
  refine wpAny_execs_cons (wpAny_Return_some (Attribute_name (nm F rfl (getA hB F hx rfl (by kernel_rfl) (by kernel_rfl) (attr := none) (by kernel_rfl) (by kernel_rfl) hf fun s₁ F => ?_))))
  exact h _ F.out0
end
inductive Gots (P : Params) (S : Sto) : List Value → List (Option Fnd) → Prop
  | nil : Gots P S [] []
  | cons {v : Value} {o : Option Fnd} {vs : List Value} {os : List (Option Fnd)} : GotAt P S v o → Gots P S vs os → Gots P S (v :: vs) (o :: os)
theorem GotAt.mono {P : Params} {S S' : Sto} {v : Value} {o : Option Fnd} (h : GotAt P S v o) (k : ∀ a o, S a o → S' a o) : GotAt P S' v o := by
  cases o with
  | none => exact h
  | some g => exact DatumAt.mono h k
theorem Gots.mono {P : Params} {S S' : Sto} {vs : List Value} {os : List (Option Fnd)} (h : Gots P S vs os) (k : ∀ a o, S a o → S' a o) : Gots P S' vs os := by
  induction h with
  | nil => exact .nil
  | cons h _ ih => exact .cons (h.mono k) ih
theorem Gots.snoc {P : Params} {S : Sto} {vs : List Value} {os : List (Option Fnd)} {v : Value} {o : Option Fnd} (h : Gots P S vs os) (g : GotAt P S v o) : Gots P S (vs ++ [v]) (os ++ [o]) := by
  induction h with
  | nil => exact .cons g .nil
  | cons h _ ih => exact .cons h ih
theorem Gots.length {P : Params} {S : Sto} {vs : List Value} {os : List (Option Fnd)} (h : Gots P S vs os) : vs.length = os.length := by
  induction h with
  | nil => rfl
  | cons _ _ ih => simp [ih]
theorem Gots.get {P : Params} {S : Sto} {vs : List Value} {os : List (Option Fnd)} (h : Gots P S vs os) {i : Nat} {v : Value} (e : vs[i]? = some v) : ∃ o, os[i]? = some o ∧ GotAt P S v o := by
  induction h generalizing i with
  | nil => cases e
  | @cons v' f vs fs h _ ih =>
    cases i with
    | zero => cases e; exact ⟨f, rfl, h⟩
    | succ i => exact ih e
theorem StrsAre.get {vs : List Value} {ks : List Str} (h : StrsAre vs ks) {i : Nat} {v : Value} (e : vs[i]? = some v) : ∃ k t, v = .str k t ∧ ks[i]? = some k := by
  induction h generalizing i with
  | nil => cases e
  | @cons x t vs ks h ih =>
    cases i with
    | zero => cases e; exact ⟨x, t, rfl, rfl⟩
    | succ i => exact ih e
theorem StrsAre.length {vs : List Value} {ks : List Str} (h : StrsAre vs ks) : vs.length = ks.length := by
  induction h with
  | nil => rfl
  | cons _ ih => simp [ih]
theorem cells3 {cm : Str → Option Value} {n1 n2 n3 : Str} {c1 c2 c3 : Addr} {cells : List (Addr × Obj)} (x : CellsAre cm [(n1, c1), (n2, c2), (n3, c3)] cells) : ∃ o1 o2 o3, cells = [(c1, o1), (c2, o2), (c3, o3)] ∧ o1.data = .cell (cm n1) ∧ o2.data = .cell (cm n2) ∧ o3.data = .cell (cm n3) := by
  cases x with
  | cons h r => obtain ⟨o, o', rfl, h1, h2⟩ := r.two; exact ⟨_, o, o', rfl, h, h1, h2⟩
section
variable {w : World} {B : Heap} {A : Around} {fr : List Addr} {s : Shared} {S : Sto}
theorem fields_base {R : Result → Shared → Prop} {x : Addr} {v : Value} {f : Fnd} {b : Bool} {ks : List Str} (hB : Hp w B) (C : Cx A fr 8) (st : St B fr s) (H : Has S fr s) (hp : PathAt w.params S (.ref x) (.fields ks)) (I : InAt w.params S b v f) (hz : ks.length ≤ 1000000)
    (h : ∀ r s' S' vs n, Out fr [] S s S' s' → S' r (listOf vs.toArray n) → Datums w.params S' vs (ks.filterMap (atKey f)) → R (.ok (.ret (.ref r))) s') :
    codeAny (model pw w) A (.call (.ref f_Fields_find_base) ⟨[.ref x, v], [(Str.ofString "create", .bool false)]⟩) R s := by
  cases hp with
  | @fields _ ta tvs _ hx hta hks =>
  have hml := million
  refine enterC (n := 7) (own := []) (mu := []) (S := S) (binds := [(Str.ofString "self", .ref x), (Str.ofString "datum", v), (Str.ofString "create", .bool false)]) .nil hB C st H (by rfl) (by kernel_rfl) (BindsTo.of_eq rfl) (by rfl) (by decide) (fun L h₁ tk cells Ce F C' => ?_) rfl rfl rfl
  obtain ⟨oc, od, os, rfl, hoc, hod, hos⟩ := cells3 Ce
  have F := F.perm (own' := [(L + 2, od), (L + 3, oc), (L + 1, os)]) (.swap _ _ _)
  refine wpAny_execs_cons (asg (wrapC hB (C'.le (by omega)) F (.head _) hod I fun v' s₁ S₁ F M D => stoC F hod fun s₂ o' F hod => ?_))
  obtain ⟨x2, pv, cv, rfl, I2⟩ := D.inst
  have hd := D.doc
  have ms : ∀ {o1}, (L + 1, os) ∈ [(L + 2, o1), (L + 3, oc), (L + 1, os)] := by simp
  have mc : ∀ {o1}, (L + 3, oc) ∈ [(L + 2, o1), (L + 3, oc), (L + 1, os)] := by simp
  refine wpAny_execs_cons (wpAny_If (isTrue_plain (MethodCall_ (nmC F ms hos (getM hB F (hx.mono M) rfl (by kernel_rfl) (f := f_Fields_is_wildcard_on_array) (by kernel_rfl) (by kernel_rfl) (callWith_K (hB.at F.st).k (by kernel_rfl) (spliced_more (Attribute_name (nmC F (.head _) hod (valueA hB (n := 5) C' F I2 hd.1.handed fun s₃ F => spliced_none ⟨(hB.at F.st).k, wpAny_call (isw hB (C'.le (by omega)) F.st F.has (hx.mono M) fun s₄ O => wpAny_truthy_bool ?_)⟩))))))))))
  have F := F.call O
  rw [if_neg (by decide)]
  refine wpAny_execs_nil (wpAny_execs_cons (lassign F (cl := [(Str.ofString "self", L + 1), (Str.ofString "datum", L + 2), (Str.ofString "create", L + 3)]) rfl ?_))
  refine MethodCall_ (nmC F ms hos (getM hB F (hx.mono M) rfl (by kernel_rfl) (f := f_Fields_reified_fields) (by kernel_rfl) (by kernel_rfl) (callWith_K (hB.at F.st).k (by kernel_rfl) (spliced_more (nmC F (.head _) hod (spliced_none ⟨(hB.at F.st).k, wpAny_call (reified hB (C'.le (by omega)) F.st F.has (hx.mono M) rfl fun s₅ O => ?_)⟩))))))
  have F := F.call O
  refine iterT F (M _ _ hta) fun I₃ s₆ ows F p0 => ?_
  have hl := hks.length
  refine ⟨S₁, _, tvs.length, _, fun out S' rest => rest = [(L + 2, o'), (L + 3, oc), (L + 1, os)] ∧ (∀ a o, S₁ a o → S' a o) ∧ Gots w.params S' out (ks.map (atKey f)), by omega, F, ⟨ows, _, rfl, p0, rfl, fun _ _ h => h, .nil⟩, LTurns.of (Itn.tuple C'.handled) (fun i out S' rest => rest = [(L + 2, o'), (L + 3, oc), (L + 1, os)] ∧ (∀ a o, S₁ a o → S' a o) ∧ Gots w.params S' out ((ks.take i).map (atKey f))) rfl rfl (fun i out S₂ ows₁ rest s₇ C₁ oc1 D1 od1 mc1 v1 E' hi hv J F N h1 => ?_) (fun out S₂ rest J => ?_), fun D1 out S₂ own k s₇ J F => ?_⟩
  · obtain ⟨rfl, M2, J⟩ := J
    obtain ⟨k, t, rfl, hk⟩ := hks.get hv
    refine wpAny_tests_nil ?_
    rw [if_pos rfl]
    obtain ⟨dx, es, n, IA, X⟩ := (hx.mono fun a o q => M2 _ _ (M _ _ q)).at F.has
    refine MethodCall_ (nmC (c := L + 1) (o := os) F (by simp) hos (kmu_sm (p := 618) F.toFr hB.k IA (by kernel_rfl) (by kernel_rfl) (by kernel_rfl) (by kernel_rfl) (by kernel_rfl) (by kernel_rfl) (by decide +kernel) (by rw [X]; rfl) (fv := .ref f_Fields_get_field_datum) (by rfl) (by rfl) ?_))
    have F := F.toks (tk := s₇.toks + 1)
    refine callWith_K (hB.at F.st).k (by kernel_rfl) (spliced_more (nmC (c := L + 2) (o := o') F (by simp) hod (spliced_more (nmO F (.head _) N h1 (spliced_more (nmC (c := L + 3) (o := oc) F (by simp) hoc (spliced_none ⟨(hB.at F.st).k, wpAny_call (gfd hB C' F.st F.has (D.mono M2) fun r s₈ S₃ O g => ?_)⟩)))))))
    refine ⟨S₃, _, oc1, mc1, F.call O, N, O.sub, rfl, fun a o q => O.sub _ _ (M2 _ _ q), ?_⟩
    rw [List.take_add_one, hk, List.map_append]
    exact (J.mono O.sub).snoc g
  · obtain ⟨rfl, M2, J⟩ := J
    refine ⟨rfl, M2, ?_⟩
    rwa [List.take_of_length_le (by omega)] at J
  obtain ⟨rfl, M2, J⟩ := J
  have J := J.mono (S' := S₂.add D1 (listOf out.toArray k)) fun _ _ h => .inl h
  have F := F.freeze
  have hlo : out.length = ks.length := by rw [J.length, List.length_map]
  refine wpAny_execs_cons (wpAny_Return_some (lcomp F (cl := []) rfl (nm F rfl (iterL F (.inr ⟨rfl, rfl⟩) fun I₄ s₉ ows F p0 => ?_))))
  refine ⟨_, _, out.length, _, fun out2 S' rest => Datums w.params S' out2 (ks.filterMap (atKey f)), by omega, F, ⟨ows, _, rfl, p0, fun _ _ h => h, .nil⟩, LTurns.of (Itn.list C'.handled) (fun i out2 S' rest => (∀ a o, (S₂.add D1 (listOf out.toArray k)) a o → S' a o) ∧ Datums w.params S' out2 ((ks.take i).filterMap (atKey f))) rfl rfl (fun i out2 S₄ ows₁ rest s₁₀ C₁ oc1 D2 od1 mc1 v1 E' hi hv J2 F N h1 => ?_) (fun out2 S₄ rest J2 => ?_), fun D2 out2 S₄ own k2 s₁₀ J2 F => ?_⟩
  · obtain ⟨M4, J2⟩ := J2
    obtain ⟨og, hog, g⟩ := J.get hv
    rw [List.getElem?_map] at hog
    obtain ⟨kk, hkk, rfl⟩ := Option.map_eq_some_iff.mp hog
    refine wpAny_tests_one (wpAny_isTrue_Compare1 (nmO F (.head _) N h1 (wpAny_Constant_none (PySem.isNot_none (wpAny_truthy_bool ?_)))))
    rw [List.take_add_one, hkk, List.filterMap_append]
    cases ha : atKey f kk with
    | none =>
      rw [ha] at g
      obtain rfl : v1 = .none := g
      rw [if_neg (by decide)]
      exact ⟨S₄, rest, oc1, mc1, F, N, fun _ _ h => h, M4, by simpa [ha] using J2⟩
    | some g' =>
      rw [ha] at g
      have g : DatumAt w.params _ v1 g' := g
      obtain ⟨xx, _, _, rfl, _⟩ := g.inst
      rw [if_pos (show (!(Value.ref xx == Value.none)) = true from rfl)]
      exact nmO F (.head _) N h1 ⟨S₄, rest, oc1, mc1, F, N, fun _ _ h => h, M4, by simpa [ha] using J2.snoc (g.mono M4)⟩
  · obtain ⟨M4, J2⟩ := J2
    rwa [List.take_of_length_le (by omega)] at J2
  · exact h D2 _ _ out2 k2 F.freeze.out0 (.inr ⟨rfl, rfl⟩) (J2.mono fun _ _ h => .inl h)
end
end DescLaw
end
section
open PySem PySem.W PyProof.Rows PySem.Calls
set_option Elab.async false
set_option maxRecDepth 100000
namespace DescLaw
theorem find_index (w : World) (B : Heap) (hB : Hp w B) (i : Int) : FindSpec w B (.index i) := by
  intro A fr s S self v b f E Q C st H hp I hok hcap h
  obtain ⟨x, _, _, rfl, _, _⟩ := pathTruth hp
  have C : Cx A fr (7 + 1) := C
  refine wpAny_call ?_
  refine enter (n := 7) (own := []) (mu := []) (S := S) (binds := [(Str.ofString "self", .ref x), (Str.ofString "datum", v)]) .nil hB C st H (by rfl) (by kernel_rfl) (BindsTo.of_eq rfl) (by decide) (locs rfl) (fun L h₁ tk F C' => ?_) rfl rfl rfl
  obtain ⟨ta, t, hx, hta⟩ : ∃ ta t, Inst w.params S x C_Index [(Str.ofString "indices", .ref ta)] ∧ S ta (tupOf [.int i t]) := by cases hp with | index a b => exact ⟨_, _, a, b⟩
  refine wpAny_execs_cons (wpAny_Return_some (methodCall_KW (nm F rfl (getM hB F hx rfl (by kernel_rfl) (f := f_Index_find_base) (by kernel_rfl) (by kernel_rfl) (callWith_KW (hB.at F.st).k (by kernel_rfl) (by rfl) (spliced_more (nm F rfl (spliced_none (kwAll_cons (wpAny_Constant_bool (kwAll_nil ⟨(hB.at F.st).k, wpAny_call ?_⟩)))))))))))
  exact index_base hB C' F.st F.has (.index hx hta) I fun r s' S' vs n O hr hd => h r s' S' vs n (F.call O).out0 hr hd
theorem find_fields (w : World) (B : Heap) (hB : Hp w B) (ks : List Str) : FindSpec w B (.fields ks) := by
  intro A fr s S self v b f E Q C st H hp I hok hcap h
  obtain ⟨x, _, _, rfl, _, _⟩ := pathTruth hp
  have C : Cx A fr (8 + 1) := C
  have hcap : ks.length + 1 ≤ 1000000 := hcap
  refine wpAny_call ?_
  refine enter (n := 8) (own := []) (mu := []) (S := S) (binds := [(Str.ofString "self", .ref x), (Str.ofString "datum", v)]) .nil hB C st H (by rfl) (by kernel_rfl) (BindsTo.of_eq rfl) (by decide) (locs rfl) (fun L h₁ tk F C' => ?_) rfl rfl rfl
  obtain ⟨ta, hx⟩ : ∃ ta, Inst w.params S x C_Fields [(Str.ofString "_deprecated_wildcard_use", .bool false), (Str.ofString "fields", .ref ta)] := by cases hp with | fields a b => exact ⟨_, a⟩
  refine wpAny_execs_cons (wpAny_Return_some (methodCall_KW (nm F rfl (getM hB F hx rfl (by kernel_rfl) (f := f_Fields_find_base) (by kernel_rfl) (by kernel_rfl) (callWith_KW (hB.at F.st).k (by kernel_rfl) (by rfl) (spliced_more (nm F rfl (spliced_none (kwAll_cons (wpAny_Constant_bool (kwAll_nil ⟨(hB.at F.st).k, wpAny_call ?_⟩)))))))))))
  exact fields_base hB C' F.st F.has hp I (by omega) fun r s' S' vs n O hr hd => h r s' S' vs n (F.call O).out0 hr hd
end DescLaw
end
section
open PySem PySem.W PyProof.Rows PySem.Calls
set_option Elab.async false
set_option maxRecDepth 100000
namespace DescLaw
def slo (st sp n : Int) : Int := (Builtin.Slice.sliceAdjust (some st) none sp (Builtin.Range.rangeSize 0 n 1)).1
def shi (st sp n : Int) : Int := (Builtin.Slice.sliceAdjust (some st) none sp (Builtin.Range.rangeSize 0 n 1)).2
theorem slice_small {st sp n : Int} (h1 : st = -1 ∨ st = 0 ∨ st = 1) (h2 : sp = 1 ∨ sp = -1 ∨ sp = 2) (h3 : n = 0 ∨ n = 1 ∨ n = 2 ∨ n = 3) :
    Builtin.divisionGoesByPylong (shi st sp n - slo st sp n) sp = false ∧ ¬ (slo st sp n).natAbs.log2 ≥ bitsLine ∧ ¬ (shi st sp n).natAbs.log2 ≥ bitsLine ∧ ¬ sp.natAbs.log2 ≥ bitsLine ∧ sp ≠ 0 := by
  rcases h1 with rfl | rfl | rfl <;> rcases h2 with rfl | rfl | rfl <;> rcases h3 with rfl | rfl | rfl | rfl <;> decide +kernel
section
variable {prog : Program} {w : World} {A : Around} {E : Value → Shared → Prop} {s : Shared}
set_option maxHeartbeats 1000000 in
theorem range_pick {r sl : Addr} {n st sp : Int} {t0 t1 t2 t3 t4 : Tok} {R : Fin → Shared → Prop} (hr : IsRange s.heap r 0 n 1 t0 t1 t2) (hs : s.heap.get? sl = some { cls := .type "slice", data := .fields #[.int st t3, .none, .int sp t4] })
    (h1 : st = -1 ∨ st = 0 ∨ st = 1) (h2 : sp = 1 ∨ sp = -1 ∨ sp = 2) (h3 : n = 0 ∨ n = 1 ∨ n = 2 ∨ n = 3)
    (h : ∀ a b c tk, R (.done (.ret (.ref s.heap.objs.size))) { s with heap := s.heap.push { cls := .type "range", data := .fields #[.int (slo st sp n) a, .int (shi st sp n) b, .int sp c] }, toks := tk }) :
    wpAny (model prog w) A (Builtin.«range.__getitem__» ⟨[.ref r, .ref sl], []⟩) R E s := by
  obtain ⟨p1, p2, p3, p4, h0⟩ := slice_small h1 h2 h3
  obtain ⟨hp, g, d, tk, os⟩ := s
  have hTs : Shared.TypeIs ⟨hp, g, d, tk, os⟩ (.ref sl) "slice" := ⟨_, hs, rfl⟩
  have f1 := AutoSeq1.idx_int
  have f2 : (sp == 0) = false := by simpa using h0
  unfold Builtin.«range.__getitem__»
  repeat (any_goals (first | assumption | wp_step))
  simp only [Option.getD_some, Int.mul_one, Int.one_mul, Int.zero_add]
  change ¬ bitsLine ≤ (slo st sp n).natAbs.log2 at p2
  change ¬ bitsLine ≤ (shi st sp n).natAbs.log2 at p3
  have q1 : (Builtin.divisionGoesByPylong ((Builtin.Slice.sliceAdjust (some st) none sp (Builtin.Range.rangeSize 0 n 1)).snd - (Builtin.Slice.sliceAdjust (some st) none sp (Builtin.Range.rangeSize 0 n 1)).fst) sp) = false := p1
  rw [q1, if_neg (by decide)]
  refine wpAny_pure ?_
  show wpAny _ _ (mkIntGrown (slo st sp n) >>= fun a => mkIntGrown (shi st sp n) >>= fun b => mkIntGrown sp >>= fun c => newFields "range" [a, b, c] >>= fun x => ret x) _ _ _
  unfold mkIntGrown
  rw [if_neg p2, if_neg p3, if_neg p4]
  repeat (any_goals (first | assumption | wp_step))
  exact h _ _ _ _
end
end DescLaw
end
section
open PySem PySem.W PyProof.Rows PySem.Calls
set_option Elab.async false
set_option maxRecDepth 100000
namespace DescLaw
theorem kn_range (P : Params) : nsIn (K P) mainGlobals (Str.ofString "range") = some none := by kernel_rfl
theorem bn_range : bootBuiltins (Str.ofString "range") = some (.type "range") := by decide +kernel
def scnt (st sp n : Int) : Nat := (Builtin.Range.rangeSize (slo st sp n) (shi st sp n) sp).toNat
theorem slice_range {st sp : Int} {n : Nat} (h : sliceOk st sp) (hn : n ≤ 3) :
    Builtin.Range.small (slo st sp n) (shi st sp n) sp = true ∧ Builtin.Range.rangeSize (slo st sp n) (shi st sp n) sp = scnt st sp n ∧ scnt st sp n ≤ 3 ∧ places st sp n = (List.range (scnt st sp n)).map fun k : Nat => slo st sp n + (k : Int) * sp := by
  obtain ⟨h1, h2⟩ := h
  have h3 : n = 0 ∨ n = 1 ∨ n = 2 ∨ n = 3 := by omega
  rcases h1 with rfl | rfl | rfl <;> rcases h2 with rfl | rfl | rfl <;> rcases h3 with rfl | rfl | rfl | rfl <;> decide +kernel
section
variable {w : World} {A : Around} {E : Value → Shared → Prop} {B : Heap} {fr mu : List Addr} {s₀ s : Shared} {L : Addr} {m : Str → Option Value} {T S : Sto} {own : List (Addr × Obj)} {Q : Value → Shared → Prop}
theorem getRange {r sl : Addr} {n : Nat} {st sp : Int} {t0 t1 t2 t3 t4 : Tok} (hok : sliceOk st sp) (hn : n ≤ 3) (F : Fx B T s₀ fr mu L m S own s) (hr : IsRange s.heap r 0 n 1 t0 t1 t2) (hs : s.heap.get? sl = some { cls := .type "slice", data := .fields #[.int st t3, .none, .int sp t4] })
    (h : ∀ a b c q s', Fx B T s₀ fr mu L m S ((q, { cls := .type "range", data := .fields #[.int (slo st sp n) a, .int (shi st sp n) b, .int sp c] }) :: own) s' → Q (.ref q) s') : wpAny (model pw w) A (getItem (.ref r) (.ref sl)) Q E s := by
  have hT : s.TypeIs (.ref r) "range" := ⟨_, hr, rfl⟩
  have h3 : (n : Int) = 0 ∨ (n : Int) = 1 ∨ (n : Int) = 2 ∨ (n : Int) = 3 := by omega
  unfold getItem
  try with_reducible refine wpAny_holding ?_
  first | refine wpAny_bind (wpAny_pure ?_) | skip
  refine wpAny_bind (wpAny_sequenceKey hT (by decide) ?_)
  refine wpAny_bind (wpAny_callSpecial?_slot (name := Str.ofString "__getitem__") hT PySem.F.slot_range_getitem
    (wpAny_call_entry PySem.F.slot_range_getitem hT PySem.F.entry_range_getitem ?_ (PySem.F.args_range_getitem_2 _ _)))
  refine range_pick hr hs hok.1 hok.2 h3 fun a b c tk => ?_
  have F := (F.push { cls := .type "range", data := .fields #[.int (slo st sp n) a, .int (shi st sp n) b, .int sp c] }).toks (tk := tk)
  exact ⟨_, rfl, wpAny_pure (h a b c _ _ F)⟩
theorem iterR {r : Addr} {a b c : Int} {t u v : Tok} {n : Nat} (F : Fx B T s₀ fr mu L m S own s) (hr : IsRange s.heap r a b c t u v) (hsm : Builtin.Range.small a b c = true) (hn : Builtin.Range.rangeSize a b c = n)
    (h : ∀ I s' ows, Fx B T s₀ fr mu L m S (ows ++ own) s' → RI I a c n 0 S ows → Q (.ref I) s') : wpAny (model pw w) A (pyIter (.ref r)) Q E s :=
  wpAny_pyIter_range hr hsm (h _ _ [(_, _)] (F.push _) ⟨_, rfl, by rw [hn]; simp⟩)
end
end DescLaw
end
section
open PySem PySem.W PyProof.Rows PySem.Calls
set_option Elab.async false
set_option maxRecDepth 100000
namespace DescLaw
theorem find_slice (w : World) (B : Heap) (hB : Hp w B) (sa sp : Int) : FindSpec w B (.slice sa sp) := by
  intro A fr s S self v b f E Q C st H hp I hok hcap h
  cases hp with
  | @slice x _ _ t t' hsl hx =>
  have C : Cx A fr (8 + 1) := C
  refine wpAny_call ?_
  refine enterC (n := 8) (own := []) (mu := []) (S := S) (binds := [(Str.ofString "self", .ref x), (Str.ofString "datum", v)]) .nil hB C st H (by rfl) (by kernel_rfl) (BindsTo.of_eq rfl) (by rfl) (by decide) (fun L h₁ tk cells Ce F C' => ?_) rfl rfl rfl
  obtain ⟨o, rfl, hod⟩ := Ce.one
  refine wpAny_execs_cons (asg (wrapC hB (C'.le (by omega)) F (.head _) hod I fun v' s₁ S₁ F M D => stoC F hod fun s₂ o' F hod => ?_))
  obtain ⟨x2, pv, cv, rfl, I2⟩ := D.inst
  have hd := D.doc
  have hx1 := hx.mono M
  refine wpAny_execs_cons (wpAny_If (isTrue_and (isTrue_plain (Attribute_name (nm F rfl (getA hB F hx1 rfl (by kernel_rfl) (by kernel_rfl) (attr := none) (by kernel_rfl) (by kernel_rfl) rfl fun s₃ F => wpAny_truthy_bool ?_))))))
  rw [if_neg (by decide), if_neg (by decide)]
  refine wpAny_execs_nil (wpAny_execs_cons (wpAny_If (isTrue_not (isTrue_plain (cb (hB.at F.st) (kn_isi _) bn_isi (spliced_more (Attribute_name (nmC F (.head _) hod (valueA hB (n := 6) C' F I2 hd.1.handed fun s₃ F => spliced_more (ltE hB F fun tp s₄ F => spliced_none (isLT hB F hd.1 fun s₅ F => wpAny_truthy_bool ?_)))))))))))
  by_cases hL : f.doc.isL = true
  rotate_left
  · have hL : f.doc.isL = false := by simpa using hL
    rw [hL, if_pos (by decide)]
    refine wpAny_execs_cons (wpAny_Return_some (List_ (spliced_none (newL F fun a s₆ F => ?_))))
    refine h a _ _ [] 0 F.freeze.out0 (.inr ⟨rfl, rfl⟩) ?_
    have : atSlice f sa sp = [] := by
      unfold atSlice
      cases q : f.doc with
      | list => rw [q] at hL; cases hL
      | _ => rfl
    show Datums _ _ _ (atSlice f sa sp)
    rw [this]; exact .nil
  rw [hL, if_neg (by decide)]
  obtain ⟨a, cs, e⟩ := isL_inv hL
  have h3 : cs.length ≤ 3 := by have := hd.2.three; rw [e] at this; simpa [Doc.kids] using this
  obtain ⟨kl, hlst⟩ : ∃ k, S₁ a (listOf (cs.map Doc.val).toArray k) := by
    have := hd.1
    rw [e] at this
    cases this with
    | list ho _ => exact ⟨_, ho⟩
  have ev : f.doc.val = .ref a := by rw [e]; rfl
  rw [ev] at I2
  obtain ⟨r1, r2, r3, r4⟩ := slice_range hsl h3
  have hsp : sp ≠ 0 := by obtain ⟨_, q⟩ := hsl; omega
  have hat : atSlice f sa sp = (places sa sp cs.length).filterMap fun i => (cs[i.toNat]?).map fun d => f.sub (.idx i.toNat, d) := by unfold atSlice; rw [e]
  have hin := (places_ok hsl h3).2
  -- self.step == 0
  refine wpAny_execs_nil (wpAny_execs_cons (wpAny_If (wpAny_isTrue_Compare1 (Attribute_name (nm F rfl (getA hB F hx1 rfl (by kernel_rfl) (by kernel_rfl) (attr := none) (by kernel_rfl) (by kernel_rfl) rfl fun s₃ F => cint F fun _ s₄ F => PyProof.Rows.eq_int (wpAny_truthy_bool ?_)))))))
  rw [if_neg (by simpa using hsp)]
  refine wpAny_execs_nil (wpAny_execs_cons (wpAny_If (isTrue_and (wpAny_isTrue_Compare1 (Attribute_name (nm F rfl (getA hB F hx1 rfl (by kernel_rfl) (by kernel_rfl) (attr := none) (by kernel_rfl) (by kernel_rfl) rfl fun s₃ F => wpAny_Constant_none (PySem.is_none (wpAny_truthy_bool ?_)))))))))
  rw [if_neg (show ¬ (Value.int sa t == Value.none) = true by intro q; cases q), if_neg (by decide)]
  refine wpAny_execs_nil (wpAny_execs_cons (wpAny_Return_some (lcomp F (cl := [(Str.ofString "datum", L + 1)]) rfl ?_)))
  refine Subscript_ (cbt (hB.at F.st) (kn_range _) bn_range (spliced_more (cint F fun t0 s₃ F => spliced_more (cb (hB.at F.st) (kn_len _) bn_len (spliced_more (Attribute_name (nmC F (.head _) hod (valueA hB (n := 6) C' F I2 rfl fun s₄ F => spliced_none (lenL F ⟨_, F.has.get hlst, rfl, kl, rfl⟩ (by simp only [List.size_toArray, List.length_map]; omega) fun t1 s₅ F => spliced_none (call_range_2 ?_))))))))))
  have e1 : ((cs.map Doc.val).toArray.size : Int) = (cs.length : Nat) := by simp
  rw [e1]
  have F := (F.push { cls := .type "range", data := .fields #[.int 0 t0, .int (cs.length : Nat) t1, .int 1 s₅.toks] }).toks (tk := s₅.toks + 1)
  generalize s₅.heap.objs.size = rg at F ⊢
  generalize ({ { s₅ with heap := s₅.heap.push { cls := .type "range", data := .fields #[.int 0 t0, .int (cs.length : Nat) t1, .int 1 s₅.toks] } } with toks := s₅.toks + 1 } : Shared) = s₆ at F ⊢
  have F := F.freeze
  have hrg : ∀ {s}, Has (S₁.add rg { cls := .type "range", data := .fields #[.int 0 t0, .int (cs.length : Nat) t1, .int 1 s₅.toks] }) (L :: fr) s → IsRange s.heap rg 0 (cs.length : Nat) 1 t0 t1 s₅.toks := fun H => H.get (.inr ⟨rfl, rfl⟩)
  have hx2 := hx1.mono (S' := S₁.add rg { cls := .type "range", data := .fields #[.int 0 t0, .int (cs.length : Nat) t1, .int 1 s₅.toks] }) fun _ _ h => .inl h
  refine wpAny_Slice ?_
  rw [evalPart_some, evalPart_some, evalPart_some]
  refine Attribute_name (nm F rfl (getA hB F hx2 rfl (by kernel_rfl) (by kernel_rfl) (attr := none) (by kernel_rfl) (by kernel_rfl) rfl fun s₇ F => Attribute_name (nm F rfl (getA hB F hx2 rfl (by kernel_rfl) (by kernel_rfl) (attr := none) (by kernel_rfl) (by kernel_rfl) rfl fun s₈ F => Attribute_name (nm F rfl (getA hB F hx2 rfl (by kernel_rfl) (by kernel_rfl) (attr := none) (by kernel_rfl) (by kernel_rfl) rfl fun s₉ F => ?_))))))
  have F := F.push { cls := .type "slice", data := .fields #[.int sa t, .none, .int sp t'] }
  generalize s₉.heap.objs.size = so at F ⊢
  generalize ({ s₉ with heap := s₉.heap.push { cls := .type "slice", data := .fields #[.int sa t, .none, .int sp t'] } } : Shared) = s₁₀ at F ⊢
  refine tail_any (T := "range") ⟨_, hrg F.has, rfl⟩ PySem.F.slot_range_getitem.lookup (getRange hsl h3 F (hrg F.has) (F.mine _ (.head _)).1 fun a1 a2 a3 q s₁₁ F => ?_) (by rfl)
  refine iterR F (F.mine _ (.head _)).1 r1 r2 fun I₃ s₁₂ ows F p0 => ?_
  have F := F.perm (own' := ows ++ [(q, _), (so, _), (L + 1, o')]) (.refl _)
  have F : Fx B S s fr [] L _ _ (ows ++ [(L + 1, o')]) s₁₂ := (F.perm (own' := (q, _) :: (so, _) :: (ows ++ [(L + 1, o')])) (List.perm_append_comm_assoc ows [(q, _), (so, _)] [(L + 1, o')])).drop.drop
  have D := D.mono (S' := S₁.add rg { cls := .type "range", data := .fields #[.int 0 t0, .int (cs.length : Nat) t1, .int 1 s₅.toks] }) fun _ _ h => .inl h
  have hl2 : (S₁.add rg { cls := .type "range", data := .fields #[.int 0 t0, .int (cs.length : Nat) t1, .int 1 s₅.toks] }) a (listOf (cs.map Doc.val).toArray kl) := .inl hlst
  have I2 := I2.mono (S' := S₁.add rg { cls := .type "range", data := .fields #[.int 0 t0, .int (cs.length : Nat) t1, .int 1 s₅.toks] }) fun _ _ h => .inl h
  generalize (S₁.add rg { cls := .type "range", data := .fields #[.int 0 t0, .int (cs.length : Nat) t1, .int 1 s₅.toks] }) = S₂ at F p0 D I2 hl2
  have hpl : ∀ i, i < scnt sa sp cs.length → (places sa sp cs.length)[i]? = some (slo sa sp cs.length + (i : Int) * sp) := fun i hi => by
    rw [r4, List.getElem?_map, List.getElem?_range hi]; rfl
  have hll : (places sa sp cs.length).length = scnt sa sp cs.length := by rw [r4]; simp
  refine ⟨S₂, _, scnt sa sp cs.length, _, fun out S' rest => Datums w.params S' out (atSlice f sa sp), Nat.le_trans r3 three_ok, F, ⟨ows, _, rfl, p0, rfl, fun _ _ h => h, .nil⟩, LTurns.of (Itn.range C'.handled) (fun i out S' rest => rest = [(L + 1, o')] ∧ (∀ a o, S₂ a o → S' a o) ∧ Datums w.params S' out (((places sa sp cs.length).take i).filterMap fun i => (cs[i.toNat]?).map fun d => f.sub (.idx i.toNat, d))) rfl rfl (fun i out S₃ ows₁ rest s₁₃ C₁ oc1 D1 od1 mc1 v1 E' hi hv J F N h1 => ?_) (fun out S₃ rest J => ?_), fun D1 out S₃ own k s₁₃ J F => ?_⟩
  · obtain ⟨rfl, M2, J⟩ := J
    obtain ⟨tv, rfl⟩ := hv
    have hp1 := hpl i hi
    obtain ⟨b0, b1⟩ := hin _ (List.mem_of_getElem? hp1)
    generalize slo sa sp cs.length + (i : Int) * sp = j at hp1 b0 b1 h1 ⊢
    have hj : j.toNat < cs.length := by omega
    have hcd : cs[j.toNat]? = some cs[j.toNat] := by simp [hj]
    have hjm : (j % (cs.length : Int)).toNat = j.toNat := by rw [Int.emod_eq_of_lt b0 b1]
    refine wpAny_tests_nil ?_
    rw [if_pos rfl]
    refine cfK (hB.at F.st) (kn_Dat _) (kp_Dat _) (spliced_more (Subscript_ (Attribute_name (nmC (c := L + 1) (o := o') F (by simp) hod (valueA hB (n := 6) C' F (I2.mono M2) rfl fun s₁₄ F => nmO F (.head _) N h1 (itemN (items := cs.map Doc.val) (v := cs[j.toNat].val) ⟨_, F.has.get (M2 _ _ hl2), rfl, kl, rfl⟩ (by simp; omega) (by simp; omega) (by simpa using b1) ?_ ?_))))))
    · simp only [List.length_map, hjm, List.getElem?_map, hcd, Option.map_some]
    refine spliced_none (kwAll_cons (cf (hB.at F.st) (kn_Index _) (kp_Index _) (spliced_more (nmO F (.head _) N h1 (spliced_none ⟨(hB.at F.st).k, index_ (n := 5) hB C' F fun y s₁₅ S₄ F M3 py => ?_⟩)))))
    refine kwAll_cons (nmC (c := L + 1) (o := o') F (by simp) hod (kwAll_nil ⟨(hB.at F.st).k, ?_⟩))
    refine dat (n := 5) hB C' F (.inl rfl) (.inr (pathTruth py)) (.inr ⟨x2, _, rfl, I2.mono fun a o q => M3 _ _ (M2 _ _ q)⟩) fun z s₁₆ S₅ pv F M4 I4 hpv => ?_
    obtain rfl := hpv (by intro q; cases q)
    refine ⟨S₅, _, oc1, mc1, F, N, fun a o q => M4 _ _ (M3 _ _ q), rfl, fun a o q => M4 _ _ (M3 _ _ (M2 _ _ q)), ?_⟩
    rw [List.take_add_one, hp1, List.filterMap_append]
    have := (J.mono fun a o q => M4 _ _ (M3 _ _ q)).snoc (sub_idx (D.mono fun a o q => M4 _ _ (M3 _ _ (M2 _ _ q))) e hcd hjm I4 (py.mono M4))
    simpa [hcd] using this
  · obtain ⟨rfl, M2, J⟩ := J
    show Datums _ _ _ _
    rw [hat]
    rwa [List.take_of_length_le (by omega)] at J
  · exact h D1 _ _ out k F.freeze.out0 (.inr ⟨rfl, rfl⟩) (J.mono fun _ _ h => .inl h)
end DescLaw
end
section
open PySem PySem.W PyProof.Rows PySem.Calls
set_option Elab.async false
set_option maxRecDepth 100000
namespace DescLaw
/-! generators: a frame that sleeps is an own thing of the def that made it -/
section
variable {w : World} {A : Around} {E : Value → Shared → Prop} {B : Heap} {fr mu : List Addr} {s₀ s s' : Shared} {L C : Addr} {m mc : Str → Option Value} {T S S' : Sto} {own own' : List (Addr × Obj)} {oc : Obj} {n : Nat}
/-- the state without the frame that wakes -/
def asleep (s : Shared) (C : Addr) : Shared := { s with heap := s.heap.hide C }
theorem Fx.wake (F : Fx B T s₀ fr mu L m S ((C, oc) :: own) s) (N : NsO oc mc) (hC : B.objs.size ≤ C) : Fx B S (asleep s C) (L :: fr) (own.map (·.1)) C mc S own s := by
  obtain ⟨h1, h2, h3, h4⟩ := F.mine _ (.head _)
  have hb := F.bnone (p := (C, oc)) (.head _)
  refine ⟨N.at h1, Heap.hide_self _ _, ⟨rfl, fun b o _ _ e => Heap.of_hide e, fun b _ o e => ⟨o, Heap.of_hide e, .refl b o⟩, id, Nat.le_refl _⟩, fun a o q => ?_, fun p hp => ?_, (List.pairwise_cons.mp F.apart).2, ⟨F.st.base, fun b hb' => ?_, F.st.bare, ?_⟩, fun b o e => ?_, hC, fun _ _ q => q, fun _ _ q => .inl q⟩
  · obtain ⟨e1, e2⟩ := F.has a o q
    refine ⟨e1, fun q' => ?_⟩
    rcases List.mem_cons.mp q' with rfl | q'
    · exact h4 o q
    · exact e2 q'
  · obtain ⟨e1, e2, e3, e4⟩ := F.mine p (.tail _ hp)
    refine ⟨e1, fun q' => ?_, .inr ⟨List.mem_map_of_mem hp, F.bnone (.tail _ hp)⟩, e4⟩
    rcases List.mem_cons.mp q' with q' | q'
    · exact (List.pairwise_cons.mp F.apart).1 p hp q'.symm
    · exact e2 q'
  · rcases List.mem_cons.mp hb' with rfl | hb'
    · obtain ⟨es, ep, d, _⟩ := N
      exact ⟨hb, oc, h1, .dict (ne_tab hC F.st.size.2.2) d⟩
    · exact F.st.frs b hb'
  · obtain ⟨⟨b, hb', hl⟩, ht, hz⟩ := F.st.size
    exact ⟨⟨b, .tail _ hb', hl⟩, .tail _ ht, hz⟩
  · refine (Heap.hide_ne _ fun q => ?_).trans (F.st.base b o e)
    rw [q, hb] at e; cases e
theorem Fx.sleep (F : Fx B T s₀ fr mu L m S ((C, oc) :: own) s) (G : Fx B S (asleep s C) (L :: fr) (own.map (·.1)) C mc S' own' s') : ∃ oc', NsO oc' mc ∧ Fx B T s₀ fr mu L m S' ((C, oc') :: own') s' := by
  obtain ⟨h1, h2, h3, h4⟩ := F.mine _ (.head _)
  have hbC := F.bnone (p := (C, oc)) (.head _)
  obtain ⟨oc', ec, N'⟩ := NsO.of G.ns
  have nC : ∀ b ∈ L :: fr, b ≠ C := fun b hb q => h2 (q ▸ hb)
  have hS : ∀ o, ¬ S' C o := fun o q => (G.has C o q).2 (.head _)
  have ownOld : ∀ b, b ∈ own.map (·.1) → s₀.heap.get? b = none ∨ (b ∈ mu ∧ B.get? b = none) := fun b hb => by
    obtain ⟨p, hp, rfl⟩ := List.mem_map.mp hb
    exact (F.mine p (.tail _ hp)).2.2.1
  have fresh0 : ∀ b, b ≠ C → (asleep s C).heap.get? b = none → s.heap.get? b = none := fun b hb e => (Heap.hide_ne _ hb).symm.trans e
  refine ⟨oc', N', ?_, F.newL, ⟨G.grow.os.trans F.grow.os, fun b o hf hm e => ?_, fun b hb o e => ?_, fun h => G.grow.gens.1 (F.grow.gens.1 h), Nat.le_trans F.grow.gens.2 G.grow.gens.2⟩, fun a o q => ⟨(G.has a o q).1, fun q' => (G.has a o q).2 (.tail _ q')⟩, fun p hp => ?_, ?_, ⟨G.st.base, fun b hb => G.st.frs b (.tail _ hb), G.st.bare, F.st.size⟩, F.old, F.above, fun b o q => G.sub b o (F.sub b o q), fun b o q => ?_⟩
  · obtain ⟨o, es, ep, e, d, r⟩ := F.ns
    obtain ⟨o', e', k⟩ := G.grow.frm L (.head _) o ((Heap.hide_ne _ (nC L (.head _))).trans e)
    obtain ⟨sl, rfl⟩ := k.ne F.ne
    exact ⟨_, es, ep, e', d, r⟩
  · have e1 := F.grow.keep b o hf hm e
    have nc : b ≠ C := fun q => by
      subst q
      rcases h3 with h3 | h3
      · rw [h3] at e; cases e
      · exact hm h3.1
    have nL : b ∉ L :: fr := fun q => by
      rcases List.mem_cons.mp q with rfl | q
      · rw [F.newL] at e; cases e
      · exact hf q
    refine G.grow.keep b o nL (fun q => ?_) ((Heap.hide_ne _ nc).trans e1)
    rcases ownOld b q with h | h
    · rw [h] at e; cases e
    · exact hm h.1
  · obtain ⟨o1, e1, k1⟩ := F.grow.frm b hb o e
    obtain ⟨o2, e2, k2⟩ := G.grow.frm b (.tail _ hb) _ ((Heap.hide_ne _ (nC b (.tail _ hb))).trans e1)
    exact ⟨o2, e2, k1.trans k2⟩
  · rcases List.mem_cons.mp hp with rfl | hp
    · exact ⟨ec, h2, h3, hS⟩
    · obtain ⟨e1, e2, e3, e4⟩ := G.mine p hp
      refine ⟨e1, fun q => e2 (.tail _ q), ?_, e4⟩
      rcases e3 with e3 | e3
      · have := fresh0 _ (fun q => e2 (q ▸ .head _)) e3
        obtain ⟨f1, f2, f3, _⟩ := F.fresh this
        by_cases hm : p.1 ∈ mu
        · exact .inr ⟨hm, G.bnone hp⟩
        · exact .inl (f2 hm)
      · exact ownOld _ e3.1
  · exact List.pairwise_cons.mpr ⟨fun p hp q => (G.mine p hp).2.1 (q ▸ .head _), G.apart⟩
  · rcases G.nw b o q with h | h | h
    · exact F.nw b o h
    · have nc : b ≠ C := fun q' => hS o (q' ▸ q)
      obtain ⟨f1, f2, f3, _⟩ := F.fresh (fresh0 b nc h)
      by_cases hm : b ∈ mu
      · exact .inr (.inr hm)
      · exact .inr (.inl (f2 hm))
    · exact .inr ((ownOld b h).imp id And.left)
theorem Fx.setGen (F : Fx B T s₀ fr mu L m S own s) (g : Nat) (x : GenState) (hx : x.bare = true) : Fx B T s₀ fr mu L m S own (s.setGen g x) := by
  have hb : AllBare s.gens → AllBare (s.setGen g x).gens := fun h y hy => by
    simp only [Shared.setGen] at hy
    rcases Array.mem_or_eq_of_mem_setIfInBounds hy with hy | rfl
    · exact h y hy
    · exact hx
  exact F.step0 ⟨rfl, fun b o _ _ e => e, fun b _ o e => ⟨o, e, .refl b o⟩, hb, by simp [Shared.setGen]⟩
theorem Cx.over {elt : Expr} {gens : List Comprehension} {scope : Scope} {pos : Pos} {it acc : Value} {cenv : Env} (x : Cx A fr (n + 1)) (hf : cenv.frame = some C) (hk : cenv.scope.kind = .function) (hC : C ≠ tabP) : Cx (A.over (.compLoop (.GeneratorExp elt gens scope pos) 0 it acc cenv) []) (C :: fr) n := by
  obtain ⟨l, h1, h2, h3⟩ := x.frames
  refine ⟨x.handled, ?_, ⟨cenv :: l, ?_, by rw [List.filterMap_cons, hf, List.cons_append, h2], fun e he => ?_⟩, ?_, ?_⟩
  · simp [Around.over, x.guards, Code.guards, guardsOf, pushGuards, Code.isGuard]
  · simp [Around.over, h1, Code.envs, Code.isFrame, Code.env?, pushEnvs, envsOf]
  · rcases List.mem_cons.mp he with rfl | he
    · exact ⟨hk, C, hf, hC⟩
    · exact h3 e he
  · have := x.depth; show A.depth + 0 + 1 + n < _; omega
  · have := x.units; show A.units + 0 + 3 + 8 * n < _; omega
end
end DescLaw
end
section
open PySem PySem.W PyProof.Rows PySem.Calls
set_option Elab.async false
set_option maxRecDepth 100000
namespace DescLaw
def gProto (Inv : Nat → Shared → Prop) (Post : Nat → Value → Shared → Prop) (n : Nat) : Protocol := fun k _ v s kap => ∃ i, i + k + 1 = n ∧ Post i v s ∧ ∀ s'', Inv (i + 1) s'' → kap (.send .none) s''
section
variable {w : World} {A : Around} {elt iter target : Expr} {scope : Scope} {pos : Pos} {it : Value} {cenv : Env} {Inv : Nat → Shared → Prop} {Post : Nat → Value → Shared → Prop} {Fin : Shared → Prop} {n : Nat}
/-- what is asked of the turns of a generator expression -/
structure GTurns (w : World) (A : Around) (elt iter target : Expr) (scope : Scope) (pos : Pos) (it : Value) (cenv : Env) (Inv : Nat → Shared → Prop) (Post : Nat → Value → Shared → Prop) (Fin : Shared → Prop) (n : Nat) : Prop where
  turn : ∀ i s (A' : Around) E, A' = A.over (.compLoop (.GeneratorExp elt [⟨target, iter, [], 0⟩] scope pos) 0 it .none cenv) [] → i < n → Inv i s → wpAny (model pw w) A' (pyNext it) (fun r s₁ => ∃ v, r = some v ∧ wpAny (model pw w) A' (letOwnedTupleGo target it v) (fun _ s₂ =>
    wpAny (model pw w) A' (assign target cenv v) (fun _ s₃ => wpAny (model pw w) A' (eval elt cenv) (fun y s₄ => Post i y s₄) E s₃) E s₂) E s₁) E s
  done : ∀ s (A' : Around) E, A' = A.over (.compLoop (.GeneratorExp elt [⟨target, iter, [], 0⟩] scope pos) 0 it .none cenv) [] → Inv n s → wpAny (model pw w) A' (pyNext it) (fun r s₁ => r = none ∧ Fin s₁) E s
  self : ∀ s (A' : Around) E Q, Inv 0 s → Q it s → wpAny (model pw w) A' (pyIter it) Q E s
theorem seg_loop (hco : cenv.scope.isCoroutine = false) (X : GTurns w A elt iter target scope pos it cenv Inv Post Fin n) : ∀ (k i : Nat) (s₀ s : Shared), n - i = k → i ≤ n → Inv i s →
    Seg (model pw w) A (fun n s₀ r s₁ => r = .ok .next ∧ (n = 0 ∧ Fin s₁)) (gProto Inv Post n) k s₀ (.compLoop (.GeneratorExp elt [⟨target, iter, [], 0⟩] scope pos) 0 it .none cenv)
      ((model pw w).den (.compLoop (.GeneratorExp elt [⟨target, iter, [], 0⟩] scope pos) 0 it .none cenv)) [] s := by
  intro k
  induction k with
  | zero =>
    intro i s₀ s hk hi h
    have hin : i = n := by omega
    subst hin
    show Seg _ A _ _ _ s₀ _ ((compTurn (.GeneratorExp elt [⟨target, iter, [], 0⟩] scope pos) 0 it .none cenv).onRaise (leaving cenv)) [] s
    rw [compTurn_gen, Sem.onRaise_eq_wrap]
    refine seg_bind_wrap (wpAny_standAt ?_)
    refine seg_bind_wrap (wpAny_mono (X.done s _ _ rfl h) (fun r s₁ h₁ => ?_) fun _ _ e => e)
    obtain ⟨rfl, hf⟩ := h₁
    exact seg_end (.ok .next) ⟨rfl, rfl, hf⟩
  | succ k ih =>
    intro i s₀ s hk hi h
    have hlt : i < n := by omega
    show Seg _ A _ _ _ s₀ _ ((compTurn (.GeneratorExp elt [⟨target, iter, [], 0⟩] scope pos) 0 it .none cenv).onRaise (leaving cenv)) [] s
    rw [compTurn_gen, Sem.onRaise_eq_wrap]
    refine seg_bind_wrap (wpAny_standAt ?_)
    refine seg_bind_wrap (wpAny_mono (X.turn i s _ _ rfl hlt h) (fun r s₁ h₁ => ?_) fun _ _ e => e)
    obtain ⟨v, rfl, h₁⟩ := h₁
    refine seg_bind_wrap (wpAny_mono h₁ (fun _ s₂ h₂ => ?_) fun _ _ e => e)
    refine seg_bind_wrap (wpAny_mono h₂ (fun _ s₃ h₃ => ?_) fun _ _ e => e)
    refine seg_bind_wrap (wpAny_tests_nil ?_)
    simp only [if_true]
    have hy : ∀ v, yieldOut cenv v = yieldValue v := fun v => by simp only [yieldOut, hco, Bool.false_eq_true, if_false]
    simp only [hy]
    rw [Sem.bind_eq_wrap', Sem.bind_eq_wrap', Sem.wrap_wrap, Sem.wrap_wrap]
    refine seg_wrap (wpAny_mono h₃ (fun y s₄ h₄ => ?_) fun _ _ e => e)
    refine seg_at (seg_yield rfl rfl rfl ⟨i, by omega, h₄, fun s'' h'' => ?_⟩)
    exact seg_again rfl (ih (i + 1) s'' s'' (by omega) hlt h'')
theorem seg_start (hco : cenv.scope.isCoroutine = false) (X : GTurns w A elt iter target scope pos it cenv Inv Post Fin n) (s₀ s : Shared) (h : Inv 0 s) :
    Seg (model pw w) A (fun n s₀ r s₁ => r = .ok .next ∧ (n = 0 ∧ Fin s₁)) (gProto Inv Post n) n s₀ (.compStart (.GeneratorExp elt [⟨target, iter, [], 0⟩] scope pos) 0 it .none cenv)
      ((model pw w).den (.compStart (.GeneratorExp elt [⟨target, iter, [], 0⟩] scope pos) 0 it .none cenv)) [] s := by
  have loop := seg_loop hco X n 0 s₀ s (Nat.sub_zero _) (Nat.zero_le _) h
  show Seg _ A _ _ _ s₀ _ ((compStart (.GeneratorExp elt [⟨target, iter, [], 0⟩] scope pos) 0 it .none cenv).onRaise (leaving cenv)) [] s
  unfold compStart
  rw [Sem.onRaise_eq_wrap]
  show Seg _ A _ _ _ s₀ _ ((ask >>= _).wrap _ _ _ _) [] s
  refine seg_bind_wrap (wpAny_askSetting ?_)
  split
  · exact seg_again rfl loop
  · first
      | exact seg_bind_wrap (wpAny_rule (seg_bind_wrap (wpAny_standAt (seg_bind_wrap (X.self s _ _ _ h (seg_again rfl loop))))))
      | (refine seg_bind_wrap (wpAny_rule ?_); show Seg _ A _ _ _ s₀ _ ((standAt iter.pos >>= _).wrap _ _ _ _) [] s; exact seg_bind_wrap (wpAny_standAt (seg_bind_wrap (X.self s _ _ _ h (seg_again rfl loop)))))
end
/-- a generator, ready for its step i -/
def GReady (w : World) (A : Around) (g : Nat) (Inv : Nat → Shared → Prop) (Post : Nat → Value → Shared → Prop) (Fin : Shared → Prop) (n i : Nat) (gs : GenState) : Prop :=
  ∀ s'', Inv i s'' → gs.Goes (model pw w) A.in1 (fun n s₀ r s₁ => r = .ok .next ∧ (n = 0 ∧ Fin s₁)) (gProto Inv Post n) (n - i) (.send .none) s''
section
variable {w : World} {A : Around} {E : Value → Shared → Prop} {s : Shared} {Inv : Nat → Shared → Prop} {Post : Nat → Value → Shared → Prop} {Fin : Shared → Prop} {n i g : Nat} {a : Addr} {gs : GenState} {Q : Option Value → Shared → Prop}
theorem gnext (hh : A.handled = none) (hl : s.heap.NoLimit) (hroom : A.depth < recursionLimit) (hg : s.heap.IsGen a g) (hgs : s.gens[g]? = some gs) (R : GReady w A g Inv Post Fin n i gs) (hi : i < n) (h : Inv i (s.setGen g .running))
    (hQ : ∀ v s₁ gs', Post i v s₁ → gs'.bare = true → GReady w A g Inv Post Fin n (i + 1) gs' → Q (some v) (s₁.setGen g gs')) : wpAny (model pw w) A (pyNext (.ref a)) Q E s := by
  obtain ⟨m, hm⟩ : ∃ m, n - i = m + 1 := ⟨n - i - 1, by omega⟩
  have R := R _ h
  rw [hm] at R
  refine wpAny_pyNext_genexpQ (P := fun n s₀ s₁ => n = 0 ∧ Fin s₁) hh hl hroom hg hgs R (fun v s₁ gs' hb hv => ?_) (fun s₁ hp h' hk => absurd hp.1 (Nat.succ_ne_zero m))
  obtain ⟨i', hi', hp, hk⟩ := hv
  have e : i' = i := by omega
  subst e
  refine hQ v s₁ gs' hp hb fun s'' hs => ?_
  rw [show n - (i' + 1) = m by omega]
  exact hk s'' hs
theorem gdone (hh : A.handled = none) (hl : s.heap.NoLimit) (hroom : A.depth < recursionLimit) (hg : s.heap.IsGen a g) (hgs : s.gens[g]? = some gs) (R : GReady w A g Inv Post Fin n n gs) (h : Inv n (s.setGen g .running))
    (hQ : ∀ s₁ h', Fin s₁ → (∀ b o, s₁.heap.get? b = some o → h'.get? b = some o) → Q none { s₁.setGen g .finished with heap := h' }) : wpAny (model pw w) A (pyNext (.ref a)) Q E s := by
  have R := R _ h
  rw [Nat.sub_self] at R
  refine wpAny_pyNext_genexpQ (P := fun n s₀ s₁ => n = 0 ∧ Fin s₁) hh hl hroom hg hgs R (fun v s₁ gs' hb hv => ?_) (fun s₁ hp h' hk => hQ s₁ h' hp.2 hk)
  obtain ⟨i', hi', hp, hk⟩ := hv
  have e : i' + 1 = n := by omega
  exact (hk _ (e ▸ h)).elim
end
end DescLaw
end
section
open PySem PySem.W PyProof.Rows PySem.Calls
set_option Elab.async false
set_option maxRecDepth 100000
namespace DescLaw
section
variable {w : World} {A : Around} {R : Result → Shared → Prop} {Inv : Nat → Shared → Prop} {Post : Nat → Value → Shared → Prop} {Fin : Shared → Prop} {n g : Nat} {st a : Addr} {res : Value}
theorem gextend_loop (hh : A.handled = none) (hroom : A.depth < recursionLimit) (hI : ∀ i s, Inv i s → s.heap.IsGen a g ∧ s.heap.NoLimit) (hrun : ∀ i s, Inv i s → Inv i (s.setGen g .running))
    (hpost : ∀ i v s₁, i < n → Post i v s₁ → g < s₁.gens.size ∧ ∃ items k, s₁.heap.get? st = some (listOf items k) ∧ items.size < sizeLine ∧ ∀ gs' : GenState, gs'.bare = true → Inv (i + 1) { s₁.setGen g gs' with heap := s₁.heap.update st (Obj.mapSeq (·.push v)) })
    (hfin : ∀ s₁ h', Fin s₁ → (∀ b o, s₁.heap.get? b = some o → h'.get? b = some o) → R (.ok (.ret res)) { s₁.setGen g .finished with heap := h' }) :
    ∀ (k i : Nat) (s : Shared) (gs : GenState), n - i = k → i ≤ n → Inv i s → s.gens[g]? = some gs → GReady w A.in1 g Inv Post Fin n i gs → codeAny (model pw w) A (.builtin "list.extend.loop" ⟨[.ref st, .ref a, res], []⟩) R s := by
  intro k
  induction k with
  | zero =>
    intro i s gs hk hi h hgs G
    have hin : i = n := by omega
    subst hin
    refine codeAny_builtin PySem.F.entry_extend_loop ?_
    rw [Around.under_plainId PySem.F.plain_extend_loop _]
    show wpAny _ A.in1 (pyNext (.ref a) >>= _) _ _ s
    refine wpAny_bind (gdone (A := A.in1) hh (hI _ _ h).2 hroom (hI _ _ h).1 hgs G (hrun _ _ h) fun s₁ h' hf hk => ?_)
    exact wpAny_pure (hfin s₁ h' hf hk)
  | succ k ih =>
    intro i s gs hk hi h hgs G
    have hlt : i < n := by omega
    refine codeAny_builtin PySem.F.entry_extend_loop ?_
    rw [Around.under_plainId PySem.F.plain_extend_loop _]
    show wpAny _ A.in1 (pyNext (.ref a) >>= _) _ _ s
    refine wpAny_bind (gnext (A := A.in1) hh (hI _ _ h).2 hroom (hI _ _ h).1 hgs G hlt (hrun _ _ h) fun v s₁ gs' hp hb G' => ?_)
    obtain ⟨hgz, items, kk, hst, hz, hinv⟩ := hpost i v s₁ hlt hp
    show wpAny _ A.in1 (updateSeq st (·.push v) >>= _) _ _ _
    refine wpAny_bind ?_
    refine wpAny_updateSeq (s := s₁.setGen g gs') hst rfl (wpAny_pure ⟨plainId_quiet PySem.F.plain_extend_loop _, ih (i + 1) _ gs' (by omega) hlt (hinv gs' hb) (by simp [Shared.setGen, hgz]) G'⟩) (by omega) (by show (items.push v).size ≤ sizeLine + 1; rw [Array.size_push]; omega)
/-- l.extend(generator) -/
theorem gextend {E : Value → Shared → Prop} {Q : Value → Shared → Prop} {s : Shared} {gs : GenState} (hh : A.handled = none) (hroom : A.depth < recursionLimit) (hI : ∀ i s, Inv i s → s.heap.IsGen a g ∧ s.heap.NoLimit) (hrun : ∀ i s, Inv i s → Inv i (s.setGen g .running))
    (hpost : ∀ i v s₁, i < n → Post i v s₁ → g < s₁.gens.size ∧ ∃ items k, s₁.heap.get? st = some (listOf items k) ∧ items.size < sizeLine ∧ ∀ gs' : GenState, gs'.bare = true → Inv (i + 1) { s₁.setGen g gs' with heap := s₁.heap.update st (Obj.mapSeq (·.push v)) })
    (hfin : ∀ s₁ h', Fin s₁ → (∀ b o, s₁.heap.get? b = some o → h'.get? b = some o) → Q .none { s₁.setGen g .finished with heap := h' })
    {items : Array Value} {k : Nat} (hst : s.heap.get? st = some (listOf items k)) (hz : items.size < sizeLine) (hne : st ≠ a) (hgen : s.heap.IsGen a g) (hgs : s.gens[g]? = some gs) (G : GReady w A.in1 g Inv Post Fin n 0 gs)
    (h0 : ∀ h', Heap.SameBut st s.heap h' → (∃ k', h'.get? st = some (listOf items k')) → Inv 0 { s with heap := h' }) :
    wpAny (model pw w) A (call (.builtin "list.extend") [.ref st, .ref a]) Q E s := by
  have hT : s.TypeIs (.ref st) "list" := ⟨_, hst, rfl⟩
  have hTg : s.TypeIs (.ref a) "generator" := let ⟨o, nm, qn, e, c, _⟩ := hgen; ⟨o, e, c⟩
  refine wpAny_call (codeAny_call_builtin PySem.F.slot_list_extend.plain PySem.F.entry_list_extend (PySem.F.slot_list_extend.check _ _ _ _ _ _ _ _ hT (PySem.F.args_list_extend_2 _ _) ?_))
  show wpAny _ A.in1 (Builtin.List.listExtendWith (.ref st) (.ref a) .none) _ _ s
  unfold Builtin.List.listExtendWith
  refine wpAny_bind (wpAny_typeOf hTg ?_)
  have h1 : Builtin.List.listSameRef (.ref st) (.ref a) = false := by simp [Builtin.List.listSameRef, hne]
  have h2 : (Value.type "generator" == Value.type "list") = false := by decide
  have h3 : (Value.type "generator" == Value.type "tuple") = false := by decide
  simp only [h1, h2, h3, Bool.or_false, Bool.false_eq_true, if_false]
  refine wpAny_bind (wpAny_pyIter_gen hgen ?_)
  refine wpAny_bind (wpAny_holding ?_)
  unfold Builtin.List.listLengthHint
  refine wpAny_bind (wpAny_specialOf hTg PySem.F.gen_no_len ?_)
  show wpAny _ A.in1 (specialOf (Value.ref a) (Str.ofString "__length_hint__") >>= _) _ _ _
  refine wpAny_bind (wpAny_specialOf hTg PySem.F.gen_no_hint ?_)
  refine wpAny_pure ?_
  show wpAny _ A.in1 (rule "list.extend.makes-room" >>= fun _ => Builtin.List.listTouch (.ref st) >>= fun _ =>
    again (.builtin "list.extend.loop" ⟨[.ref st, .ref a, .none], []⟩)) _ _ _
  refine wpAny_bind (wpAny_rule ?_)
  refine wpAny_bind ?_
  show wpAny _ A.in1 (updateSeq st (·.push .none) >>= fun _ => updateSeq st (·.pop)) _ _ _
  have e1 : Obj.mapSeq (·.push Value.none) (listOf items k) = listOf (items.push .none) (if (items.push Value.none).size == items.size then k else k + 1) := rfl
  refine wpAny_bind (wpAny_updateSeq hst rfl ?_ (by omega) (by show (items.push Value.none).size ≤ sizeLine + 1; rw [Array.size_push]; omega))
  have hS₂ := Heap.get?_update_self (Obj.mapSeq (·.push Value.none)) hst rfl
  rw [e1] at hS₂
  refine wpAny_updateSeq hS₂ rfl ?_ (by rw [Array.size_push]; omega) (by show (items.push Value.none).pop.size ≤ sizeLine + 1; rw [Array.pop_push]; omega)
  have hS₃ := Heap.get?_update_self (Obj.mapSeq (·.pop)) hS₂ rfl
  have e2 : ∀ q, ∃ q', Obj.mapSeq (·.pop) (listOf (items.push .none) q) = listOf items q' := fun q =>
    ⟨_, congrArg (fun x => listOf x (if ((items.push Value.none).pop).size == (items.push Value.none).size then q else q + 1)) Array.pop_push⟩
  obtain ⟨q', e2⟩ := e2 (if (items.push Value.none).size == items.size then k else k + 1)
  rw [e2] at hS₃
  refine wpAny_pure ⟨plainId_quiet PySem.F.plain_extend_loop _, gextend_loop hh hroom hI hrun hpost (fun s₁ h' hf hk => hfin s₁ h' hf hk) n 0 _ gs rfl (Nat.zero_le _) (h0 _ ((Heap.SameBut.update ..).trans (Heap.SameBut.update ..)) ⟨_, hS₃⟩) hgs G⟩
end
end DescLaw
end
section
open PySem PySem.W PyProof.Rows PySem.Calls
set_option Elab.async false
set_option maxRecDepth 100000
namespace DescLaw
/-! operations on lists -/
section
variable {w : World} {A : Around} {E : Value → Shared → Prop} {B : Heap} {fr mu : List Addr} {s₀ s : Shared} {L : Addr} {m : Str → Option Value} {T S : Sto} {own : List (Addr × Obj)} {Q : Value → Shared → Prop}
theorem popL {l : Addr} {vs : List Value} {v : Value} {k : Nat} (F : Fx B T s₀ fr mu L m S ((l, listOf (vs ++ [v]).toArray k) :: own) s) (hz : vs.length < 1000000)
    (h : ∀ s' k', Fx B T s₀ fr mu L m S ((l, listOf vs.toArray k') :: own) s' → Q v s') : wpAny (model pw w) A (call (.builtin "list.pop") [.ref l]) Q E s := by
  have hl := (F.mine _ (.head _)).1
  have hm := million
  have hk : (vs ++ [v]).toArray.size - 1 = vs.length := by rw [List.size_toArray, List.length_append]; rfl
  have hy : (vs ++ [v]).toArray[(vs ++ [v]).toArray.size - 1]? = some v := by rw [hk]; simp
  have e1 : ∃ k', Obj.mapSeq (·.eraseIdxIfInBounds ((vs ++ [v]).toArray.size - 1)) (listOf (vs ++ [v]).toArray k) = listOf vs.toArray k' :=
    ⟨_, congrArg (fun x => listOf x (if ((vs ++ [v]).toArray.eraseIdxIfInBounds ((vs ++ [v]).toArray.size - 1)).size == (vs ++ [v]).toArray.size then k else k + 1)) (by show ((vs ++ [v]).toArray.eraseIdxIfInBounds ((vs ++ [v]).toArray.size - 1)) = vs.toArray; rw [hk, kl_erase, List.append_nil])⟩
  obtain ⟨k', e1⟩ := e1
  have e := Heap.get?_update_self (Obj.mapSeq (·.eraseIdxIfInBounds ((vs ++ [v]).toArray.size - 1))) hl (by rw [e1]; rfl)
  rw [e1] at e
  exact call_meets PySem.F.slot_list_pop ⟨_, hl, rfl⟩ PySem.F.entry_list_pop (PySem.F.args_list_pop_1 _) (PySem.MeetsSeq.list_pop_last l _ k v hy (by rw [List.size_toArray, List.length_append]; simp only [List.length_cons, List.length_nil]; omega)) ⟨hl, h _ k' (F.upd (tk := s.toks) (Heap.SameBut.update ..) e)⟩
theorem extL {l b : Addr} {vs ws : List Value} {k k2 : Nat} (F : Fx B T s₀ fr mu L m S ((l, listOf vs.toArray k) :: own) s) (hb : s.heap.get? b = some (listOf ws.toArray k2)) (hz : vs.length + ws.length ≤ 1000000)
    (h : ∀ s' k', Fx B T s₀ fr mu L m S ((l, listOf (vs ++ ws).toArray k') :: own) s' → Q .none s') : wpAny (model pw w) A (call (.builtin "list.extend") [.ref l, .ref b]) Q E s := by
  have hl := (F.mine _ (.head _)).1
  have hm := million
  refine call_meets PySem.F.slot_list_extend ⟨_, hl, rfl⟩ PySem.F.entry_list_extend (PySem.F.args_list_extend_2 _ _) (AutoSeq1.list_extend_list_list_0 l vs.toArray k b ws.toArray k2 ?_ (by simp only [List.size_toArray]; omega) (by simp only [List.size_toArray]; omega)) ⟨hl, hb, ?_⟩
  · simp only [List.size_toArray, Builtin.List.listTooLong, Bool.and_eq_true, not_and, decide_eq_true_eq]
    omega
  · have e1 : Obj.mapSeq (fun x => x ++ ws.toArray) (listOf vs.toArray k) = listOf (vs ++ ws).toArray (if (vs.toArray ++ ws.toArray).size == vs.toArray.size then k else k + 1) := by
      have e0 : vs.toArray ++ ws.toArray = (vs ++ ws).toArray := by simp
      rw [← e0]; rfl
    have e := Heap.get?_update_self (Obj.mapSeq fun x => x ++ ws.toArray) hl (by rw [e1]; rfl)
    rw [e1] at e
    exact h _ _ (F.upd (tk := s.toks) (Heap.SameBut.update ..) e)
theorem revL {l : Addr} {vs : List Value} {k : Nat} {pos : Pos} (F : Fx B T s₀ fr mu L m S ((l, listOf vs.toArray k) :: own) s) (hz : vs.length ≤ 1000000)
    (h : ∀ s' k', Fx B T s₀ fr mu L m S ((l, listOf vs.reverse.toArray k') :: own) s' → Q .none s') : wpAny (model pw w) A (callWith pos (.builtin "list.reverse") [.ref l] [] []) Q E s := by
  have hl := (F.mine _ (.head _)).1
  have hm := million
  refine P.reverse_list hl ?_ (by simp only [List.size_toArray]; omega)
  have e1 : ∃ k', Obj.mapSeq (fun x => x.reverse) (listOf vs.toArray k) = listOf vs.reverse.toArray k' := ⟨_, congrArg (fun x => listOf x (if (vs.toArray.reverse).size == vs.toArray.size then k else k + 1)) (by simp)⟩
  obtain ⟨k', e1⟩ := e1
  have e := Heap.get?_update_self (Obj.mapSeq fun x => x.reverse) hl (by rw [e1]; rfl)
  rw [e1] at e
  exact h _ k' (F.upd (tk := s.toks) (Heap.SameBut.update ..) e)
/-- a list's method -/
theorem mtL {name : Str} {id : String} {l : Addr} {items : Array Value} {k : Nat} {pl : Sem Bool} {Q : Value × List Value → Shared → Prop} (e : s.heap.get? l = some (listOf items k)) (slot : PySem.Slot "list" name id) (hty : typeOf (.builtin id) = pure (.type "method_descriptor"))
    (h : Q (.builtin id, [.ref l]) s) : wpAny (model pw w) A (getMethod (.ref l) name pl) Q E s :=
  getMethod_builtin ⟨_, e, rfl⟩ PySem.F.plainAttrs_list slot hty (fun a q => by cases q; exact ⟨_, e, rfl⟩) h
/-- l[::-1] -/
theorem backL {value : Expr} {env : Env} {p p1 p2 p3 : Pos} {j : Nat} {Q : Value → Shared → Prop}
    (h : wpAny (model pw w) A (eval value env) (fun o s₁ => ∃ (l : Addr) (vs : List Value) (k : Nat) (S : Sto) (own : List (Addr × Obj)), o = .ref l ∧ s₁.heap.get? l = some (listOf vs.toArray k) ∧ vs.length ≤ 1000000 ∧ Fx B T s₀ fr mu L m S own s₁ ∧ (∀ r s', Fx B T s₀ fr mu L m S ((r, listOf vs.reverse.toArray 0) :: own) s' → Q (.ref r) s')) E s) :
    wpAny (model pw w) A (eval (.Subscript value (.Slice none none (some (.UnaryOp .USub (.Constant (.int 1) j p1) p2)) p3) p) env) Q E s := by
  refine Subscript_ (wpAny_mono h (fun o s₁ ⟨l, vs, k, S, own, e, hl, hz, F, hq⟩ => ?_) fun _ _ e => e)
  subst e
  have hm := million
  refine wpAny_Slice ?_
  rw [evalPart_none, evalPart_some]
  refine wpAny_pure (wpAny_pure (UnaryOp_ (wpAny_Constant_int (PyProof.Rows.neg_int ?_))))
  refine tail_any (T := "list") ⟨_, Heap.get?_push_of_some _ hl, rfl⟩ list_getitem_lookup (wpAny_getItem_list_slice (lo := none) (hi := none) (st := some (-1)) ⟨_, Heap.get?_push_of_some _ hl, rfl, k, rfl⟩ (Heap.IsSliceOf.new ..) .none .none (.int _ _) (by decide) ?_ (by simp only [List.size_toArray]; omega)) (by rfl)
  rw [krv_pick]
  have F := (F.toks (tk := s₁.toks + 1 + 1)).push { cls := .type "slice", data := .fields #[.none, .none, .int (-1) (s₁.toks + 1)] }
  have F := F.drop.push { cls := .type "list", data := .seq vs.reverse.toArray }
  exact hq _ _ F
theorem Fx.also2 {S₀ : Sto} {own₀ own' : List (Addr × Obj)} {a : Addr} {o : Obj} {s' : Shared} (x : Fx B T s₀ fr mu L m S own' s') (F : Fx B T s₀ fr mu L m S₀ own₀ s) (hn : s.heap.get? a = none) (ho : s'.heap.get? a = some o) (hS : ∀ o, ¬ S a o) (hown : ∀ p ∈ own', p.1 ≠ a) : Fx B T s₀ fr mu L m S ((a, o) :: own') s' :=
  let ⟨f1, f2, _, _⟩ := F.fresh hn
  { x with
    mine := fun p hp => by
      rcases List.mem_cons.mp hp with rfl | hp
      · refine ⟨ho, f1, ?_, hS⟩
        by_cases hm : a ∈ mu
        · refine .inr ⟨hm, ?_⟩
          cases e : B.get? a with
          | none => rfl
          | some p => rw [F.st.base _ _ e] at hn; cases hn
        · exact .inl (f2 hm)
      · exact x.mine p hp
    apart := List.pairwise_cons.mpr ⟨fun p hp => Ne.symm (hown p hp), x.apart⟩ }
/-- list(d.items()) -/
theorem listItems {d vw : Addr} {es : List DictEntry} {ep : Nat} {as : List (Str × Value)} (hh : A.handled = none) (F : Fx B T s₀ fr mu L m S ((vw, { cls := .type "dict_items", data := .fields #[.ref d] }) :: own) s) (x : S d (dictOf es ep)) (X : Ents w.params es as) (nd : (as.map (·.1)).Nodup) (hz : as.length ≤ 1000000)
    (h : ∀ (r : Addr) (ts : List Addr) (k : Nat) (s' : Shared) (S' : Sto), Fx B T s₀ fr mu L m S' ((r, listOf (ts.map Value.ref).toArray k) :: own) s' → (∀ a o, S a o → S' a o) → ts.length = as.length → (∀ (j : Nat) (a : Addr), ts[j]? = some a → ∃ k t v, as[j]? = some (k, v) ∧ S' a (tupOf [.str k t, v])) → Q (.ref r) s') :
    wpAny (model pw w) A (call (.type "list") [.ref vw]) Q E s := by
  have hm := million
  refine kdx_call (knd := PySem.strKind pw w) (kvs := as) hh ⟨_, (F.mine _ (.head _)).1, rfl, rfl⟩ (X.dictAt (F.has.get x) nd) (by omega) fun h' tk acc c ts kp hl hlen G hacc => ?_
  let S' : Sto := fun a o => S a o ∨ (a ∈ ts ∧ h'.get? a = some o)
  have lt : ∀ a ∈ ts, s.heap.get? a = none := fun a ha => Heap.get?_none_of_le (Nat.le_of_lt (G.above a ha))
  have F1 : Fx B T s₀ fr mu L m S' own { s with heap := h', toks := tk } := F.drop.step (Grow.of_keeps _ _ kp) (fun a o q => by
      rcases q with q | ⟨q, e⟩
      · exact ⟨kp _ _ (F.has.get q), (F.has a o q).2⟩
      · exact ⟨e, (F.fresh (lt a q)).1⟩) (fun _ _ q => .inl q) fun a o q => q.imp id fun q => lt a q.1
  have e0 : acc = (ts.map Value.ref).toArray := by rw [← hacc]
  subst e0
  have F2 := F1.also2 F (Heap.get?_none_of_le (Nat.le_refl _)) hl (fun o q => by
      rcases q with q | ⟨q, _⟩
      · have := F.has.get q
        rw [Heap.get?_none_of_le (Nat.le_refl _)] at this; cases this
      · exact absurd (G.above _ q) (Nat.lt_irrefl _)) fun p hp => Nat.ne_of_lt (Heap.lt_size (F.drop.mine p hp).1)
  refine h _ ts c _ S' F2 (fun _ _ q => .inl q) hlen fun j a hj => ?_
  obtain ⟨key, k, v, e1, e2, e3⟩ := G.pairs j a hj
  obtain ⟨t, rfl⟩ := Value.isStrOf_shape e2
  exact ⟨k, t, v, e1, .inr ⟨List.mem_of_getElem? hj, e3⟩⟩
end
end DescLaw
end
section
open PySem PySem.W PyProof.Rows PySem.Calls
set_option Elab.async false
set_option maxRecDepth 100000
namespace DescLaw
/-! a generator expression of Descendants.find is made -/
theorem code450 (P : Params) : ∃ o vs file tf flags tg inF text tt, (K P).lookup 450 = some o ∧ o.cls = .type "code" ∧ vs[11]? = some (.ref tabP) ∧ o.data = .fields vs ∧ vs.getD 11 .none = .ref tabP ∧ vs.getD 18 .none = .str file tf ∧ vs.getD 7 .none = .int flags tg ∧ vs.getD 9 .none = .bool inF ∧ vs.getD 10 .none = .int text tt :=
  ⟨_, _, _, _, _, _, _, _, _, rfl, rfl, rfl, rfl, rfl, rfl, rfl, rfl, rfl⟩
theorem kn_bi (P : Params) : nsIn (K P) mainGlobals (Str.ofString "__builtins__") = some (some (.ref 4)) := by kernel_rfl
theorem k4 (P : Params) : (K P).lookup 4 = some { cls := .type "module", dict := some builtinsNs, data := .plain, slots := #[] } := by kernel_rfl
section
variable {w : World} {A : Around} {E : Value → Shared → Prop} {B : Heap} {fr mu : List Addr} {s₀ s : Shared} {L : Addr} {m : Str → Option Value} {T S : Sto} {own : List (Addr × Obj)} {n : Nat} {fr' : List Addr}
theorem isCode (hB : Hp w B) (F : Fx B T s₀ fr mu L m S own s) : ∃ ps, s.heap.IsCode 450 tabP ps ∧ s.heap.TableAt 450 tabP ps := by
  obtain ⟨o, vs, file, tf, flags, tg, inF, text, tt, h1, hc, h11, h2, h3, h4, h5, h6, h7⟩ := code450 w.params
  obtain ⟨_, op, e, d⟩ := F.st.frs tabP (.tail _ (by
    rcases List.mem_cons.mp F.st.size.2.1 with h | h
    · exact absurd h.symm F.ne
    · exact h))
  obtain ⟨ps, d, t⟩ := d.tab
  exact ⟨ps, ⟨o, vs, file, tf, flags, tg, inF, text, tt, op, (hB.at F.st).k _ _ h1, h2, h3, h4, h5, h6, h7, e, by rw [d], t, by decide⟩, ⟨⟨o, vs, (hB.at F.st).k _ _ h1, hc, h2, h11⟩, by rw [e, d]⟩⟩
/-- the table alone has changed -/
theorem Fx.tabbed {h' : Heap} {tk : Nat} {ps : Array Value} {c c' : Addr} (F : Fx B T s₀ fr mu L m S own s) (x : Heap.ExtBut tabP s.heap h') (t : h'.IsCode c tabP ps) (tt : h'.TableAt c' tabP ps) : Fx B T s₀ fr mu L m S own { s with heap := h', toks := tk } := by
  have hin : tabP ∈ L :: fr := F.st.size.2.1
  refine F.step0 ⟨rfl, fun b o hb _ e => x b o (fun q => hb (q ▸ hin)) e, fun b hb o e => ?_, id, Nat.le_refl _⟩
  by_cases q : b = tabP
  · subst q
    obtain ⟨_, _, _, _, _, _, _, _, _, op, _, _, _, _, _, _, _, e', d, t, _⟩ := t
    exact ⟨_, tt.2, by unfold Slot; rw [if_pos rfl]; exact fun _ => ⟨ps, rfl, t⟩⟩
  · exact ⟨o, x b o q e, .refl b o⟩
theorem gcode {env : Env} {pos : Pos} {qualname : Str} {scope : Scope} {Q : Value → Shared → Prop} (hB : Hp w B) (F : Fx B T s₀ fr mu L m S own s) (hc : env.code = .ref 450)
    (hQ : ∀ code h' tk, Fx B T s₀ fr mu L m S own { s with heap := h', toks := tk } → Q code { s with heap := h', toks := tk }) : wpAny (model pw w) A (genexprCode env pos qualname scope) Q E s := by
  obtain ⟨ps, h1, h2⟩ := isCode hB F
  cases e : codeAmong pos ps.toList with
  | some c => exact wpAny_genexprCode_hit hc h1 e (hQ c s.heap s.toks F.toks)
  | none => exact wpAny_genexprCodeX hc h1 h2 e fun c' h' tk x _ _ t _ tt _ => hQ _ h' tk (F.tabbed x t tt)
theorem Fx.newGen (F : Fx B T s₀ fr mu L m S own s) (g : GenState) (h : g.bare = true) : Fx B T s₀ fr mu L m S own { s with gens := s.gens.push g } :=
  F.step0 ⟨rfl, fun _ _ _ _ e => e, fun b _ o e => ⟨o, e, .refl b o⟩, fun x => x.push h, by rw [Array.size_push]; omega⟩
abbrev genO (g : Nat) (n1 n2 : Value) : Obj := { cls := .type "generator", data := .fields #[.int g 0, n1, n2] }
theorem genmake {env : Env} {elt target iter : Expr} {scope : Scope} {cl : List (Str × Addr)} {pos : Pos} {Q : Value → Shared → Prop} (hB : Hp w B) (C : Cx A fr n) (_F : Fx B T s₀ fr' mu L m S own s)
    (hclos : closureFor scope env = pure cl)
    (h : wpAny (model pw w) A (eval iter env) (fun xv s₁ => wpAny (model pw w) A (pyIter xv) (fun it s₂ => ∃ S own, Fx B T s₀ fr' mu L m S own s₂ ∧
      ∀ (C a : Addr) (oc : Obj) (g : Nat) (n1 n2 code : Value) (s₃ : Shared), Fx B T s₀ fr' mu L m S ((a, genO g n1 n2) :: (C, oc) :: own) s₃ → NsO oc (fun y => if y = ".0" then some it else none) → B.objs.size ≤ C →
        s₃.gens[g]? = some (.fresh (.compStart (.GeneratorExp elt [⟨target, iter, [], 0⟩] scope pos) 0 it .none (genEnv scope cl C code builtinsNs env))) → Q (.ref a) s₃) E s₁) E s)
    (hcode : env.code = .ref 450 := by rfl) (hg : env.globals = mainGlobals := by rfl) (hb : env.builtins = builtinsNs := by rfl)
    (hco : scope.isCoroutine = false := by rfl) (hcell : ∀ y ∈ scope.names, y.2 ≠ .cell := by decide) (h0 : scope.names.lookup (".0" : Str) = some NameKind.local := by rfl) (hkind : scope.kind = .function := by rfl)
    (hs : ∀ x, genFold iter env x = pure x := by intro _; rfl) :
    wpAny (model pw w) A (eval (.GeneratorExp elt [⟨target, iter, [], 0⟩] scope pos) env) Q E s := by
  refine wpAny_GeneratorExp_make hco hclos hcell h0 hkind C.room (wpAny_mono h (fun xv s₁ h₁ => wpAny_mono h₁ (fun it s₂ h₂ => ?_) fun _ _ e => e) fun _ _ e => e) hs
  obtain ⟨S, own, F, hQ⟩ := h₂
  refine ⟨(hB.at F.st).nolimit, ?_⟩
  refine gcode hB F hcode fun code h₁ tk F => ?_
  obtain ⟨mg, hmg, e4⟩ := mgX (hB.at F.st) (kn_bi w.params)
  rw [hg, hb]
  refine wpAny_builtinsFor (m := mg) hmg e4 (by decide) ((hB.at F.st).k _ _ (k4 _)) rfl rfl rfl fun h' hn hsb => ?_
  obtain ⟨oc, ec, N⟩ := NsO.of hn
  have hz : B.objs.size ≤ h₁.objs.size := Nat.le_trans F.above (by
    obtain ⟨o, _, _, e, _⟩ := F.ns
    exact Nat.le_of_lt (Heap.lt_size e))
  have F := ((F.push { cls := .type "frame", data := .dict #[] }).upd (tk := tk + 1 + 1 + 1) hsb ec).newGen (.fresh (.compStart (.GeneratorExp elt [⟨target, iter, [], 0⟩] scope pos) 0 it .none (genEnv scope cl h₁.objs.size code builtinsNs env))) rfl
  have F := F.push (genO s₂.gens.size (.str "<genexpr>" (tk + 1)) (.str (env.qual ++ "<genexpr>") (tk + 1 + 1)))
  exact hQ _ _ oc _ _ _ code _ F N hz (by simp)
end
end DescLaw
end
section
open PySem PySem.W PyProof.Rows PySem.Calls
set_option Elab.async false
set_option maxRecDepth 100000
namespace DescLaw
/-! l.extend of a generator expression over a list of pairs -/
theorem LI.mono {I l : Addr} {items : List Value} {i : Nat} {S S' : Sto} {ows : List (Addr × Obj)} (h : LI I l items i S ows) (M : ∀ a o, S a o → S' a o) : LI I l items i S' ows := let ⟨o, e, h, k, x⟩ := h; ⟨o, e, h, k, M _ _ x⟩
section
variable {w : World} {A : Around} {E : Value → Shared → Prop} {B : Heap} {fr mu : List Addr} {s₀ s : Shared} {L : Addr} {m : Str → Option Value} {T S : Sto} {rest : List (Addr × Obj)} {n : Nat}
  {env : Env} {elt iter : Expr} {y y2 : Str} {px p2 tp pos : Pos} {k0 : Nat} {scope : Scope} {cl : List (Str × Addr)} {code : Value} {a C I l stk : Addr} {oc : Obj} {g : Nat} {n1 n2 : Value} {vs items : List Value} {k : Nat}
def GInv (B : Heap) (T : Sto) (s₀ : Shared) (fr mu : List Addr) (L : Addr) (m : Str → Option Value) (S : Sto) (rest : List (Addr × Obj)) (a C I l stk : Addr) (g : Nat) (n1 n2 : Value) (vs items : List Value) (J : Nat → List Value → Sto → Prop) (i : Nat) (s : Shared) : Prop :=
  ∃ S' out oc mc ows k', Fx B T s₀ fr mu L m S' ((C, oc) :: (ows ++ (a, genO g n1 n2) :: (stk, listOf (vs ++ out).toArray k') :: rest)) s ∧ NsO oc mc ∧ (∀ b o, S b o → S' b o) ∧ LI I l items i S' ows ∧ J i out S' ∧ out.length = i ∧ g < s.gens.size
def GPost (B : Heap) (T : Sto) (s₀ : Shared) (fr mu : List Addr) (L : Addr) (m : Str → Option Value) (S : Sto) (rest : List (Addr × Obj)) (a C I l stk : Addr) (g : Nat) (n1 n2 : Value) (vs items : List Value) (J : Nat → List Value → Sto → Prop) (i : Nat) (v : Value) (s : Shared) : Prop :=
  ∃ S' out oc mc ows k', Fx B T s₀ fr mu L m S' ((C, oc) :: (ows ++ (a, genO g n1 n2) :: (stk, listOf (vs ++ out).toArray k') :: rest)) s ∧ NsO oc mc ∧ (∀ b o, S b o → S' b o) ∧ LI I l items (i + 1) S' ows ∧ J (i + 1) (out ++ [v]) S' ∧ out.length = i ∧ g < s.gens.size
def GFin (B : Heap) (T : Sto) (s₀ : Shared) (fr mu : List Addr) (L : Addr) (m : Str → Option Value) (S : Sto) (rest : List (Addr × Obj)) (stk : Addr) (vs items : List Value) (J : Nat → List Value → Sto → Prop) (s : Shared) : Prop :=
  ∃ S' out k', Fx B T s₀ fr mu L m S' ((stk, listOf (vs ++ out).toArray k') :: rest) s ∧ (∀ b o, S b o → S' b o) ∧ J items.length out S'
theorem gext {J : Nat → List Value → Sto → Prop} {V : Nat → Value → Value → Prop} {Q : Value → Shared → Prop} (hB : Hp w B) (Cc : Cx A (L :: fr) (n + 3))
    (F : Fx B T s₀ fr mu L m S ((a, genO g n1 n2) :: (C, oc) :: (I, { cls := .type "list_iterator", data := .fields #[.ref l, .int 0 0] }) :: (stk, listOf vs.toArray k) :: rest) s)
    (N : NsO oc (fun z => if z = ".0" then some (.ref I) else none)) (hC : B.objs.size ≤ C)
    (hg : s.gens[g]? = some (.fresh (.compStart (.GeneratorExp elt [⟨.Tuple [.Name y px, .Name y2 p2] k0 tp, iter, [], 0⟩] scope pos) 0 (.ref I) .none (genEnv scope cl C code builtinsNs env))))
    (hl : ∃ kl, S l (listOf items.toArray kl)) (hz : vs.length + items.length < 1000000)
    (tup : ∀ i t, items[i]? = some t → ∃ q v1 v2, t = .ref q ∧ S q (tupOf [v1, v2]) ∧ V i v1 v2) (j0 : J 0 [] S)
    (hx : scope.names.lookup y = some .local) (hx2 : scope.names.lookup y2 = some .local) (hy : y ≠ y2) (hkind : scope.kind = .function) (hco : scope.isCoroutine = false)
    (step : ∀ i out (S' : Sto) v1 v2 (A' : Around) (T' : Sto) s₁ mu' own s' mc E', i < items.length → V i v1 v2 → (∀ b o, S b o → S' b o) → J i out S' → (∀ p ∈ rest, p ∈ own) → Fx B T' s₁ (L :: fr) mu' C mc S' own s' → mc y = some v1 → mc y2 = some v2 → Cx A' (C :: L :: fr) n →
      wpAny (model pw w) A' (eval elt (genEnv scope cl C code builtinsNs env)) (fun v s₂ => ∃ S₂, Fx B T' s₁ (L :: fr) mu' C mc S₂ own s₂ ∧ (∀ b o, S' b o → S₂ b o) ∧ J (i + 1) (out ++ [v]) S₂) E' s')
    (fin : ∀ S' out k' s', Fx B T s₀ fr mu L m S' ((stk, listOf (vs ++ out).toArray k') :: rest) s' → (∀ b o, S b o → S' b o) → J items.length out S' → Q .none s') :
    wpAny (model pw w) A (call (.builtin "list.extend") [.ref stk, .ref a]) Q E s := by
  have hm := million
  have hgz : g < s.gens.size := (Array.getElem?_eq_some_iff.mp hg).1
  have hne : stk ≠ a := fun q => (List.pairwise_cons.mp F.apart).1 _ (.tail _ (.tail _ (.head _))) q.symm
  have hmem : ∀ {x : Addr × Obj} {ows : List (Addr × Obj)} {xs : List (Addr × Obj)} {c : Addr × Obj}, x ∈ xs → x ∈ c :: (ows ++ xs) := fun h => .tail _ (List.mem_append_right _ h)
  have gen : ∀ {S' : Sto} {own : List (Addr × Obj)} {s' : Shared}, Fx B T s₀ fr mu L m S' own s' → (a, genO g n1 n2) ∈ own → s'.heap.IsGen a g := fun F hm => ⟨_, _, _, (F.mine _ hm).1, rfl, rfl, rfl⟩
  have Cc1 : Cx A.in1 (L :: fr) (n + 2) := Cc.in1
  have Cc2 : Cx A.in1.in1 (L :: fr) (n + 1) := Cc1.in1
  have X : GTurns w A.in1.in1 elt iter (.Tuple [.Name y px, .Name y2 p2] k0 tp) scope pos (.ref I) (genEnv scope cl C code builtinsNs env)
      (GInv B T s₀ fr mu L m S rest a C I l stk g n1 n2 vs items J) (GPost B T s₀ fr mu L m S rest a C I l stk g n1 n2 vs items J) (GFin B T s₀ fr mu L m S rest stk vs items J) items.length := by
    refine ⟨fun i s A' E' hA hi h => ?_, fun s A' E' hA h => ?_, fun s A' E' Q' h hq => ?_⟩
    · obtain ⟨S', out, oc, mc, ows, k', F, N, M, p, j, ho, hgs⟩ := h
      have C3 : Cx A' (C :: L :: fr) n := hA ▸ Cc2.over rfl hkind (ne_tab hC F.st.size.2.2)
      have G := F.wake N hC
      refine (Itn.list (w := w) (A := A') C3.handled).item hi p G fun v s₁ ows' G p' hv => ⟨v, rfl, ?_⟩
      obtain ⟨q, v1, v2, rfl, hq, hV⟩ := tup i v hv
      obtain ⟨oi, rfl, hoi, _⟩ := id p'
      refine wpAny_letOwnedTupleGo_listiter ⟨oi, (G.mine _ (.head _)).1, hoi.1, hoi.2⟩ ?_
      refine assign_Tuple_tuple C3.handled ⟨_, G.has.get (M _ _ hq), rfl, _, rfl⟩ rfl rfl fun h₅ he => ?_
      have G := G.keeps (h' := h₅) (tk := s₁.toks) fun b o e => he b o (Nat.ne_of_lt (Heap.lt_size e)) e
      refine assignInOrder_cons (wpAny_assign_Name (sto G (fun s₃ G => ?_) rfl hx (by simp [genEnv, hkind])))
      refine assignInOrder_cons (wpAny_assign_Name (sto G (fun s₄ G => ?_) rfl hx2 (by simp [genEnv, hkind])))
      refine assignInOrder_nil ?_
      refine wpAny_mono (step i out S' v1 v2 A' S' _ _ _ s₄ _ E' hi hV M j (fun p hp => ?_) G (by simp [hy]) (by simp) C3) (fun v s₅ h₅ => ?_) fun _ _ e => e
      · exact List.mem_append_right _ (.tail _ (.tail _ hp))
      obtain ⟨S₂, G, M2, j2⟩ := h₅
      have hgz : g < s₅.gens.size := Nat.lt_of_lt_of_le hgs (Nat.le_trans (Nat.le_refl _) G.grow.gens.2)
      obtain ⟨oc', N', F'⟩ := F.sleep G
      exact ⟨S₂, out, oc', _, _, k', F', N', fun b o q => M2 _ _ (M _ _ q), p'.mono M2, j2, ho, hgz⟩
    · obtain ⟨S', out, oc, mc, ows, k', F, N, M, p, j, ho, hgs⟩ := h
      have C3 : Cx A' (C :: L :: fr) n := hA ▸ Cc2.over rfl hkind (ne_tab hC F.st.size.2.2)
      have F := F.perm (own' := ows ++ ((C, oc) :: (a, genO g n1 n2) :: (stk, listOf (vs ++ out).toArray k') :: rest)) (List.perm_append_comm_assoc [_] ows _)
      refine (Itn.list (w := w) (A := A') C3.handled).done p F fun s₁ F => ⟨rfl, S', out, k', F.drop.drop, M, j⟩
    · obtain ⟨S', out, oc, mc, ows, k', F, N, M, p, j, ho, hgs⟩ := h
      obtain ⟨oi, rfl, hoi, _⟩ := id p
      exact wpAny_pyIter_listiter ⟨oi, (F.mine (I, oi) (by simp)).1, hoi.1, hoi.2⟩ hq
  refine gextend (Inv := GInv B T s₀ fr mu L m S rest a C I l stk g n1 n2 vs items J) (Post := GPost B T s₀ fr mu L m S rest a C I l stk g n1 n2 vs items J) (Fin := GFin B T s₀ fr mu L m S rest stk vs items J) (n := items.length) (g := g)
    (gs := .fresh (.compStart (.GeneratorExp elt [⟨.Tuple [.Name y px, .Name y2 p2] k0 tp, iter, [], 0⟩] scope pos) 0 (.ref I) .none (genEnv scope cl C code builtinsNs env)))
    Cc.handled Cc.room (fun i s h => ?_) (fun i s h => ?_) (fun i v s₁ hi h => ?_) (fun s₁ h' h hk => ?_) (F.mine (stk, _) (.tail _ (.tail _ (.tail _ (.head _))))).1 (by simp only [List.size_toArray]; omega) hne (gen F (.head _)) hg (fun s'' h => ⟨rfl, ?_⟩) (fun h' hs he => ?_)
  · obtain ⟨S', out, oc, mc, ows, k', F, N, M, p, j, ho, hgs⟩ := h
    exact ⟨gen F (by simp), (hB.at F.st).nolimit⟩
  · obtain ⟨S', out, oc, mc, ows, k', F, N, M, p, j, ho, hgs⟩ := h
    exact ⟨S', out, oc, mc, ows, k', F.setGen g _ rfl, N, M, p, j, ho, by simpa [Shared.setGen] using hgs⟩
  · obtain ⟨S', out, oc, mc, ows, k', F, N, M, p, j, ho, hgs⟩ := h
    refine ⟨hgs, (vs ++ out).toArray, k', (F.mine (stk, _) (by simp)).1, by simp only [List.size_toArray, List.length_append]; omega, fun gs' hb => ?_⟩
    have F := (F.setGen g gs' hb).perm (own' := (stk, listOf (vs ++ out).toArray k') :: (C, oc) :: (ows ++ (a, genO g n1 n2) :: rest)) (by
      refine (List.Perm.cons _ ?_).trans (.swap _ _ _)
      have : (ows ++ (a, genO g n1 n2) :: (stk, listOf (vs ++ out).toArray k') :: rest).Perm ((stk, listOf (vs ++ out).toArray k') :: (ows ++ (a, genO g n1 n2) :: rest)) := by
        refine (List.Perm.append_left ows (List.Perm.swap _ _ _)).trans ?_
        exact List.perm_middle
      exact this)
    have e1 : ∃ k2, Obj.mapSeq (·.push v) (listOf (vs ++ out).toArray k') = listOf (vs ++ (out ++ [v])).toArray k2 := ⟨_, congrArg (fun x => listOf x (if ((vs ++ out).toArray.push v).size == (vs ++ out).toArray.size then k' else k' + 1)) (by simp)⟩
    obtain ⟨k2, e1⟩ := e1
    have e := Heap.get?_update_self (Obj.mapSeq (·.push v)) (F.mine _ (.head _)).1 (by rw [e1]; rfl)
    rw [e1] at e
    have F := F.upd (tk := s₁.toks) (Heap.SameBut.update ..) e
    refine ⟨S', out ++ [v], oc, mc, ows, k2, F.perm ?_, N, M, p, j, by simp [ho], by simpa [Shared.setGen] using hgs⟩
    refine (List.Perm.swap _ _ _).trans (.cons _ ?_)
    have := (List.perm_middle (l₁ := ows ++ [(a, genO g n1 n2)]) (l₂ := rest) (a := (stk, listOf (vs ++ (out ++ [v])).toArray k2))).symm
    simp only [List.append_assoc, List.cons_append, List.nil_append] at this
    exact this
  · obtain ⟨S', out, k', F, M, j⟩ := h
    exact fin S' out k' _ ((F.setGen g .finished rfl).keeps (tk := s₁.toks) hk) M j
  · exact seg_start hco X s'' s'' h
  · obtain ⟨k', e⟩ := he
    have F := (F.perm (own' := (stk, listOf vs.toArray k) :: (a, genO g n1 n2) :: (C, oc) :: (I, { cls := .type "list_iterator", data := .fields #[.ref l, .int 0 0] }) :: rest) (List.perm_middle (l₁ := [_, _, _]))).upd (tk := s.toks) hs e
    obtain ⟨kl, hl⟩ := hl
    refine ⟨S, [], oc, _, [(I, { cls := .type "list_iterator", data := .fields #[.ref l, .int 0 0] })], k', F.perm ?_, N, fun _ _ q => q, ⟨_, rfl, ⟨rfl, rfl⟩, kl, hl⟩, j0, rfl, hgz⟩
    rw [List.append_nil]
    refine (List.perm_middle (l₁ := [_, _, _])).symm.trans ?_
    exact (List.Perm.swap _ _ _).trans (.cons _ (.swap _ _ _))
end
end DescLaw
end
section
open PySem PySem.W PyProof.Rows PySem.Calls
set_option Elab.async false
set_option maxRecDepth 100000
namespace DescLaw
/-! the plain laws -/
def lev : Nat → List Fnd → List Fnd
  | 0, fs => fs
  | n + 1, fs => lev n (fs.flatMap Fnd.kids)
theorem lev_succ : ∀ (n : Nat) (fs : List Fnd), lev (n + 1) fs = (lev n fs).flatMap Fnd.kids
  | 0, _ => rfl
  | n + 1, fs => lev_succ n (fs.flatMap Fnd.kids)
def pathK (p : Path) : Nat → Path
  | 0 => p
  | n + 1 => .child (pathK p n) .wild
theorem find_pathK (p : Path) (f : Fnd) : ∀ n, find (pathK p n) f = lev n (find p f)
  | 0 => rfl
  | n + 1 => by
    show (find (pathK p n) f).flatMap (find .wild) = _
    rw [find_pathK p f n, lev_succ]; rfl
def depthsK (p r : Path) (f : Fnd) : Nat → List Fnd
  | 0 => []
  | n + 1 => depthsK p r f n ++ find (.child (pathK p n) r) f
theorem depthsK_eq (p r : Path) (f : Fnd) : ∀ n, depthsK p r f n = (List.range n).flatMap fun k => (lev k (find p f)).flatMap (find r)
  | 0 => rfl
  | n + 1 => by
    rw [List.range_succ, List.flatMap_append]
    show depthsK p r f n ++ (find (pathK p n) f).flatMap (find r) = _
    rw [depthsK_eq p r f n, find_pathK]; simp
theorem flat_congr {α β : Type} {l : List α} {F G : α → List β} (h : ∀ x ∈ l, F x = G x) : l.flatMap F = l.flatMap G := by
  induction l with
  | nil => rfl
  | cons x l ih => simp only [List.flatMap_cons]; rw [h x (.head _), ih fun y hy => h y (.tail _ hy)]
theorem flat_cons_perm {α β : Type} (l : List α) (a : α → β) (F : α → List β) : (l.flatMap fun x => a x :: F x).Perm (l.map a ++ l.flatMap F) := by
  induction l with
  | nil => exact .refl _
  | cons x l ih =>
    simp only [List.flatMap_cons, List.map_cons, List.cons_append]
    refine .cons _ ?_
    refine (List.Perm.append_left (F x) ih).trans ?_
    rw [← List.append_assoc, ← List.append_assoc]
    exact List.Perm.append_right _ List.perm_append_comm
theorem flat_append_perm {α β : Type} (l : List α) (F G : α → List β) : (l.flatMap fun x => F x ++ G x).Perm (l.flatMap F ++ l.flatMap G) := by
  induction l with
  | nil => exact .refl _
  | cons x l ih =>
    simp only [List.flatMap_cons]
    have : (F x ++ G x ++ (l.flatMap F ++ l.flatMap G)).Perm (F x ++ l.flatMap F ++ (G x ++ l.flatMap G)) := by
      rw [List.append_assoc, List.append_assoc]
      refine List.Perm.append_left _ ?_
      rw [← List.append_assoc, ← List.append_assoc]
      exact List.Perm.append_right _ List.perm_append_comm
    exact (List.Perm.append_left _ ih).trans this
theorem flat_perm {α β : Type} {l : List α} {F G : α → List β} (h : ∀ x ∈ l, (F x).Perm (G x)) : (l.flatMap F).Perm (l.flatMap G) := by
  induction l with
  | nil => exact .refl _
  | cons x l ih =>
    simp only [List.flatMap_cons]
    exact (h x (.head _)).append (ih fun y hy => h y (.tail _ hy))
theorem lev_fit : ∀ {n : Nat} {k : Nat} {fs : List Fnd}, (∀ f ∈ fs, Fit (n + k) f.doc) → ∀ g ∈ lev n fs, Fit k g.doc
  | 0, k, fs, h, g, hg => by have := h g hg; rwa [Nat.zero_add] at this
  | n + 1, k, fs, h, g, hg => by
    refine lev_fit (n := n) (fun x hx => ?_) g hg
    obtain ⟨f, hf, hx⟩ := List.mem_flatMap.mp hx
    obtain ⟨p, hp, rfl⟩ := List.mem_map.mp hx
    have : Fit (n + k + 1) f.doc := by have := h f hf; rwa [show n + 1 + k = n + k + 1 by omega] at this
    exact this.2 p hp
theorem kids_nil {f : Fnd} (h : Fit 0 f.doc) : f.kids = [] := by
  have h : f.doc.kids = [] := h
  unfold Fnd.kids; rw [h]; rfl
theorem lev_none {n : Nat} {fs : List Fnd} (h : ∀ f ∈ fs, Fit n f.doc) : lev (n + 1) fs = [] := by
  rw [lev_succ, List.flatMap_eq_nil_iff]
  intro g hg
  exact kids_nil (lev_fit (n := n) (k := 0) h g hg)
theorem lev_none' {n m : Nat} {fs : List Fnd} (h : ∀ f ∈ fs, Fit n f.doc) (hm : n < m) : lev m fs = [] := by
  induction m with
  | zero => omega
  | succ m ih =>
    by_cases q : n = m
    · subst q; exact lev_none h
    · rw [lev_succ, ih (by omega)]; rfl
theorem pre_lev : ∀ (n : Nat) (fs : List Fnd), (fs.flatMap (pre n)).Perm ((List.range (n + 1)).flatMap fun k => lev k fs)
  | 0, fs => by
    show (fs.flatMap fun f => [f]).Perm _
    simp [lev]
  | n + 1, fs => by
    show (fs.flatMap fun f => id f :: f.kids.flatMap (pre n)).Perm _
    refine (flat_cons_perm fs id fun f => f.kids.flatMap (pre n)).trans ?_
    rw [List.map_id, List.range_succ_eq_map, List.flatMap_cons]
    refine List.Perm.append_left _ ?_
    rw [List.flatMap_map]
    have := pre_lev n (fs.flatMap Fnd.kids)
    rw [List.flatMap_assoc] at this
    exact this
theorem law_depths {p r : Path} {f : Fnd} (h : Fit 3 f.doc) : (find (.desc p r) f).Perm (depthsK p r f 5) := by
  have hf : ∀ g ∈ find p f, Fit 3 g.doc := fun g hg => find_fit h hg
  rw [depthsK_eq, List.range_succ, List.flatMap_append]
  have e : lev 4 (find p f) = [] := lev_none hf
  simp only [List.flatMap_cons, List.flatMap_nil, e, List.append_nil]
  have := (pre_lev 3 (find p f)).flatMap_right (find r)
  rw [List.flatMap_assoc, List.flatMap_assoc] at this
  exact this
theorem law_none {p : Path} {f : Fnd} (h : Fit 3 f.doc) : find (pathK p 5) f = [] := by
  rw [find_pathK]
  exact lev_none' (fun g hg => find_fit h hg) (by decide)
theorem law_union_right {p r q : Path} {f : Fnd} : (find (.desc p (.union r q)) f).Perm (find (.desc p r) f ++ find (.desc p q) f) := by
  show ((find p f).flatMap fun g => (pre 3 g).flatMap fun x => find r x ++ find q x).Perm (((find p f).flatMap fun g => (pre 3 g).flatMap (find r)) ++ ((find p f).flatMap fun g => (pre 3 g).flatMap (find q)))
  exact (flat_perm fun g _ => flat_append_perm _ _ _).trans (flat_append_perm _ _ _)
theorem law_union_left {p q r : Path} {f : Fnd} : find (.desc (.union p q) r) f = find (.desc p r) f ++ find (.desc q r) f := by
  show (find p f ++ find q f).flatMap _ = _
  rw [List.flatMap_append]; rfl
/-! each thing once more for each thing around it -/
theorem pre_more : ∀ {n k : Nat} {f : Fnd}, Fit n f.doc → n ≤ k → pre k f = pre n f
  | 0, 0, f, _, _ => rfl
  | 0, k + 1, f, h, _ => by
    show f :: f.kids.flatMap (pre k) = [f]
    rw [kids_nil h]; rfl
  | n + 1, 0, f, h, l => by omega
  | n + 1, k + 1, f, h, l => by
    show f :: f.kids.flatMap (pre k) = f :: f.kids.flatMap (pre n)
    congr 1
    refine flat_congr fun g hg => ?_
    obtain ⟨p, hp, rfl⟩ := List.mem_map.mp hg
    exact pre_more (h.2 p hp) (by omega)
theorem pre_addr : ∀ {n : Nat} {f g : Fnd}, g ∈ pre n f → f.addr.length ≤ g.addr.length
  | 0, f, g, h => by rw [List.mem_singleton.mp h]; exact Nat.le_refl _
  | n + 1, f, g, h => by
    rcases List.mem_cons.mp h with rfl | h
    · exact Nat.le_refl _
    · obtain ⟨k, hk, h⟩ := List.mem_flatMap.mp h
      obtain ⟨p, _, rfl⟩ := List.mem_map.mp hk
      have := pre_addr h
      simp only [Fnd.sub, List.length_append, List.length_cons, List.length_nil] at this
      omega
theorem pre_twice : ∀ {n : Nat} {f : Fnd}, Fit n f.doc → ((pre n f).flatMap (pre n)).Perm ((pre n f).flatMap fun g => List.replicate (g.addr.length - f.addr.length + 1) g)
  | 0, f, h => by simp [pre]
  | n + 1, f, h => by
    have key : ∀ k ∈ f.kids, Fit n k.doc := fun k hk => by
      obtain ⟨p, hp, rfl⟩ := List.mem_map.mp hk
      exact h.2 p hp
    have klen : ∀ k ∈ f.kids, k.addr.length = f.addr.length + 1 := fun k hk => by
      obtain ⟨p, hp, rfl⟩ := List.mem_map.mp hk
      simp [Fnd.sub]
    have sub : ∀ k ∈ f.kids, ∀ g ∈ pre n k, Fit n g.doc := by
      have fitp : ∀ {m : Nat} {x g : Fnd} {j : Nat}, Fit j x.doc → g ∈ pre m x → Fit j g.doc := by
        intro m
        induction m with
        | zero => intro x g j hx hg; rw [List.mem_singleton.mp hg]; exact hx
        | succ m ih =>
          intro x g j hx hg
          rcases List.mem_cons.mp hg with rfl | hg
          · exact hx
          · obtain ⟨k, hk, hg⟩ := List.mem_flatMap.mp hg
            obtain ⟨p, hp, rfl⟩ := List.mem_map.mp hk
            exact ih (hx.kid hp) hg
      exact fun k hk g hg => fitp (key k hk) hg
    show ((f :: f.kids.flatMap (pre n)).flatMap (pre (n + 1))).Perm ((f :: f.kids.flatMap (pre n)).flatMap _)
    rw [List.flatMap_cons, List.flatMap_cons, List.flatMap_assoc, List.flatMap_assoc, Nat.sub_self]
    show ((f :: f.kids.flatMap (pre n)) ++ _).Perm (f :: _)
    rw [List.cons_append]
    refine .cons _ ?_
    have e1 : (f.kids.flatMap fun k => (pre n k).flatMap (pre (n + 1))).Perm (f.kids.flatMap fun k => (pre n k).flatMap fun g => List.replicate (g.addr.length - k.addr.length + 1) g) := by
      refine flat_perm fun k hk => ?_
      have e : (pre n k).flatMap (pre (n + 1)) = (pre n k).flatMap (pre n) := flat_congr fun g hg => pre_more (sub k hk g hg) (Nat.le_succ _)
      rw [e]
      exact pre_twice (key k hk)
    have e2 : (f.kids.flatMap fun k => (pre n k).flatMap fun g => List.replicate (g.addr.length - f.addr.length + 1) g).Perm (f.kids.flatMap (pre n) ++ f.kids.flatMap fun k => (pre n k).flatMap fun g => List.replicate (g.addr.length - k.addr.length + 1) g) := by
      refine (flat_perm (G := fun k => pre n k ++ (pre n k).flatMap fun g => List.replicate (g.addr.length - k.addr.length + 1) g) fun k hk => ?_).trans (flat_append_perm _ _ _)
      refine (flat_perm (G := fun g => [g] ++ List.replicate (g.addr.length - k.addr.length + 1) g) fun g hg => ?_).trans ((flat_append_perm _ _ _).trans ?_)
      · have h1 := pre_addr hg
        have h2 := klen k hk
        have e : g.addr.length - f.addr.length + 1 = (g.addr.length - k.addr.length + 1) + 1 := by omega
        show (List.replicate (g.addr.length - f.addr.length + 1) g).Perm (g :: List.replicate (g.addr.length - k.addr.length + 1) g)
        rw [e]; exact .refl _
      · simp
    exact (List.Perm.append_left _ e1).trans e2.symm
theorem law_twice {f : Fnd} (h : Fit 3 f.doc) (h0 : f.addr = []) : (find (.desc (.desc .root .this) .this) f).Perm ((pre 3 f).flatMap fun g => List.replicate (g.addr.length + 1) g) := by
  have := pre_twice h
  rw [h0] at this
  have e : find (.desc (.desc .root .this) .this) f = (pre 3 f).flatMap (pre 3) := by
    simp [find]
  rw [e]
  exact this
/-! the way to a thing -/
def stepPath : Step → Path
  | .key k => .fields [k]
  | .idx i => .index i
def addrPath (a : List Step) : Path := a.foldl (fun p s => .child p (stepPath s)) .root
theorem addrPath_snoc (a : List Step) (s : Step) : addrPath (a ++ [s]) = .child (addrPath a) (stepPath s) := by simp [addrPath]
theorem lookup_nodup {α : Type} {cs : List (Str × α)} (nd : (cs.map (·.1)).Nodup) {k : Str} {d : α} (h : (k, d) ∈ cs) : cs.lookup k = some d := by
  induction cs with
  | nil => cases h
  | cons p cs ih =>
    obtain ⟨h1, h2⟩ := List.nodup_cons.mp nd
    rw [List.lookup_cons]
    rcases List.mem_cons.mp h with rfl | h
    · simp
    · have : k ≠ p.1 := fun q => h1 (List.mem_map.mpr ⟨_, h, q⟩)
      rw [beq_eq_false_iff_ne.mpr this]
      exact ih h2 h
theorem find_step {P : Params} {S : Sto} {f : Fnd} (h : DocAt P S f.doc) {p : Step × Doc} (hp : p ∈ f.doc.kids) : find (stepPath p.1) f = [f.sub p] := by
  obtain ⟨a, d⟩ := f
  have h : DocAt P S d := h
  have hp : p ∈ d.kids := hp
  cases h with
  | leaf _ => cases hp
  | @dict a' cs es n hm ho he nd hc =>
    obtain ⟨q, hq, rfl⟩ := List.mem_map.mp hp
    show List.filterMap (atKey _) [q.1] = _
    have : atKey ⟨a, .dict a' cs⟩ q.1 = some (Fnd.sub ⟨a, .dict a' cs⟩ (.key q.1, q.2)) := by
      unfold atKey
      simp [lookup_nodup nd (show (q.1, q.2) ∈ cs from hq)]
    simp [this]
  | @list a' cs n ho hc =>
    obtain ⟨q, hq, rfl⟩ := List.mem_map.mp hp
    have hi := List.mk_mem_zipIdx_iff_getElem?.mp (show (q.1, q.2) ∈ cs.zipIdx from hq)
    have hl : q.2 < cs.length := (List.getElem?_eq_some_iff.mp hi).1
    have hm : ((q.2 : Int) % (cs.length : Int)) = q.2 := Int.emod_eq_of_lt (by omega) (by omega)
    show (atIdx _ (q.2 : Int)).toList = _
    have : atIdx ⟨a, .list a' cs⟩ (q.2 : Int) = some (Fnd.sub ⟨a, .list a' cs⟩ (.idx q.2, q.1)) := by
      unfold atIdx
      simp only [hm]
      rw [if_pos ⟨by omega, by omega⟩]
      simp [hi]
    rw [this]; rfl
theorem find_addr {P : Params} {S : Sto} {f₀ : Fnd} : ∀ {n : Nat} {f : Fnd}, DocAt P S f.doc → find (addrPath f.addr) f₀ = [f] → ∀ g ∈ pre n f, find (addrPath g.addr) f₀ = [g]
  | 0, f, _, e, g, hg => by rw [List.mem_singleton.mp hg]; exact e
  | n + 1, f, h, e, g, hg => by
    rcases List.mem_cons.mp hg with rfl | hg
    · exact e
    · obtain ⟨k, hk, hg⟩ := List.mem_flatMap.mp hg
      obtain ⟨p, hp, rfl⟩ := List.mem_map.mp hk
      refine find_addr (f := f.sub p) (h.kid hp) ?_ g hg
      show find (addrPath (f.addr ++ [p.1])) f₀ = _
      rw [addrPath_snoc]
      show (find (addrPath f.addr) f₀).flatMap (find (stepPath p.1)) = _
      rw [e]
      simp [find_step h hp]
theorem law_rows {P : Params} {S : Sto} {f : Fnd} {r : Path} (h : DocAt P S f.doc) (h0 : f.addr = []) : find (.desc .root r) f = (pre 3 f).flatMap fun g => find (.child (addrPath g.addr) r) f := by
  have key := find_addr (f₀ := f) (n := 3) h (by rw [h0]; rfl)
  show [f].flatMap (fun g => (pre 3 g).flatMap (find r)) = _
  simp only [List.flatMap_cons, List.flatMap_nil, List.append_nil]
  refine flat_congr fun g hg => ?_
  show find r g = (find (addrPath g.addr) f).flatMap (find r)
  rw [key g hg]; simp
end DescLaw
end
section
open PySem PySem.W PyProof.Rows PySem.Calls
set_option Elab.async false
set_option maxRecDepth 100000
namespace DescLaw
theorem pre3 {g : Fnd} (h : Fit 3 g.doc) : pre 3 g = g :: g.kids.flatMap (pre 3) := by
  show g :: g.kids.flatMap (pre 2) = _
  congr 1
  refine flat_congr fun k hk => ?_
  obtain ⟨p, hp, rfl⟩ := List.mem_map.mp hk
  exact (pre_more (h.2 p hp) (by decide)).symm
theorem pre_pos (n : Nat) (g : Fnd) : 1 ≤ (pre n g).length := by cases n <;> simp [pre]
theorem flat_ge {α β : Type} {l : List α} {F : α → List β} (h : ∀ x ∈ l, 1 ≤ (F x).length) : l.length ≤ (l.flatMap F).length := by
  induction l with
  | nil => simp
  | cons x l ih =>
    have := h x (.head _)
    have := ih fun y hy => h y (.tail _ hy)
    simp only [List.flatMap_cons, List.length_append, List.length_cons]; omega
theorem Datums.rev {P : Params} {S : Sto} {vs : List Value} {fs : List Fnd} (h : Datums P S vs fs) : Datums P S vs.reverse fs.reverse := by
  induction h with
  | nil => exact .nil
  | cons h _ ih => rw [List.reverse_cons, List.reverse_cons]; exact ih.append (.cons h .nil)
theorem Datums.uncons {P : Params} {S : Sto} {vs : List Value} {f : Fnd} {fs : List Fnd} (h : Datums P S vs (f :: fs)) : ∃ v ws, vs = v :: ws ∧ DatumAt P S v f ∧ Datums P S ws fs := by
  cases h with
  | cons d r => exact ⟨_, _, rfl, d, r⟩
theorem ty_pop : typeOf (.builtin "list.pop") = pure (.type "method_descriptor") := by show builtinType _ = _; rw [builtinType_eq_fast]; kernel_rfl
theorem ty_ext : typeOf (.builtin "list.extend") = pure (.type "method_descriptor") := by show builtinType _ = _; rw [builtinType_eq_fast]; kernel_rfl
theorem ty_rev : typeOf (.builtin "list.reverse") = pure (.type "method_descriptor") := by show builtinType _ = _; rw [builtinType_eq_fast]; kernel_rfl
section
variable {w : World} {A : Around} {B : Heap} {fr : List Addr} {s : Shared} {S : Sto}
/-- the state between the turns: done, and what stands on the stack, its top first -/
structure DSt (w : World) (B : Heap) (S₀ : Sto) (s₀ : Shared) (fr : List Addr) (L : Addr) (x ma sa : Addr) (r : Path) (all : List Fnd) (j : Nat) (s : Shared) : Prop where
  ex : ∃ m S o v out vs fs done k k2, Fx B S₀ s₀ fr [] L m S [(L + 1, o), (ma, listOf out.toArray k), (sa, listOf vs.reverse.toArray k2)] s ∧ o.data = .cell v ∧ m (Str.ofString "self") = some (.ref x) ∧ m (Str.ofString "matches") = some (.ref ma) ∧ m (Str.ofString "stack") = some (.ref sa) ∧
    Datums w.params S out done ∧ Datums w.params S vs fs ∧ done ++ fs.flatMap (fun g => (pre 3 g).flatMap (find r)) = all ∧ (∀ g ∈ fs, Fit 3 g.doc) ∧ j = (fs.flatMap (pre 3)).length ∧ j ≤ 1000000
theorem find_desc (w : World) (B : Heap) (hB : Hp w B) {l r : Path} (hl : FindSpec w B l) (hr : FindSpec w B r) : FindSpec w B (.desc l r) := by
  intro A fr s S self v b f E Q C st H hp I hok hcap h
  have gd := hp.good
  cases hp with
  | @desc x lv rv _ _ hx pl pr =>
  have hok : (ok b l && ok false r) = true := hok
  rw [Bool.and_eq_true] at hok
  have hcap : cap l * (40 * cap r) ≤ 1000000 := hcap
  have hm := million
  have hcl : cap l ≤ cap l * (40 * cap r) := Nat.le_mul_of_pos_right _ (Nat.mul_pos (by decide) (cap_pos r))
  have hcl40 : cap l * 40 ≤ cap l * (40 * cap r) := Nat.mul_le_mul_left _ (Nat.le_mul_of_pos_right _ (cap_pos r))
  have hcr : cap r ≤ cap l * (40 * cap r) := Nat.le_trans (by omega) (Nat.le_mul_of_pos_left _ (cap_pos l))
  have hall : (find (.desc l r) f).length ≤ 1000000 := Nat.le_trans (find_len gd I.fit) hcap
  have C : Cx A fr (max (room l) (room r) + 11 + 1) := C
  refine wpAny_call ?_
  refine enterC (n := max (room l) (room r) + 11) (own := []) (mu := []) (S := S) (binds := [(Str.ofString "self", .ref x), (Str.ofString "datum", v)]) .nil hB C st H (by rfl) (by kernel_rfl) (BindsTo.of_eq rfl) (by rfl) (by decide) (fun L h₁ tk cells Ce F C' => ?_) rfl rfl rfl
  obtain ⟨o, rfl, hod⟩ := Ce.one
  obtain ⟨_, _, _, rfl, _, _⟩ := pathTruth pl
  obtain ⟨_, _, _, rfl, _, _⟩ := pathTruth pr
  -- left_matches
  refine wpAny_execs_cons (asg (MethodCall_ (Attribute_name (nm F rfl (getA hB F hx rfl (by kernel_rfl) (by kernel_rfl) (attr := none) (by kernel_rfl) (by kernel_rfl) rfl fun s₁ F => getFind hB F pl (callWith_K (hB.at F.st).k (kp_find _ _) (spliced_more (nmC F (.head _) hod (spliced_none ⟨(hB.at F.st).k, ?_⟩)))))))))
  refine hl (C'.le (by omega)) F.st F.has pl I hok.1 (Nat.le_trans hcl hcap) fun a s₂ S₂ vs n O ha hd => ?_
  have F := F.call O
  refine sto F fun s₃ F => ?_
  refine wpAny_execs_cons (wpAny_If (isTrue_not (isTrue_plain (cb (hB.at F.st) (kn_isi _) bn_isi (spliced_more (nm F rfl (spliced_more (bl (hB.at F.st) (kn_list _) bn_list (spliced_none (isi1 hB F (Kd.list ha rfl) (b := true) (by kernel_rfl) fun s₄ F => wpAny_truthy_bool ?_))))))))))
  rw [if_neg (by decide)]
  refine wpAny_execs_nil ?_
  -- matches, stack
  have hvs : vs.length ≤ 1000000 := by have := hd.length; have := find_len gd.1 I.fit; omega
  refine wpAny_execs_cons (asg (List_ (spliced_none (newL F fun ma s₅ F => sto F fun s₆ F => ?_))))
  refine wpAny_execs_cons (asg (backL (nm F rfl ⟨a, vs, n, S₂, _, rfl, F.has.get ha, hvs, F, fun sa s₇ F => sto F fun s₈ F => ?_⟩)))
  have F := F.perm (own' := [(L + 1, o), (ma, listOf #[] 0), (sa, listOf vs.reverse.toArray 0)]) ((List.Perm.cons _ (.swap _ _ _)).trans ((List.Perm.swap _ _ _).trans (.cons _ (.swap _ _ _))))
  have base : ∀ b o, S b o → S₂ b o := O.sub
  refine wpAny_execs_cons (wpAny_While ?_)
  refine codeAny_whileLoop (DSt w B S s fr L x ma sa r (find (.desc l r) f)) ?turn _ ⟨_, S₂, o, _, [], vs, find l f, [], 0, 0, F, hod, rfl, rfl, rfl, .nil, hd, by rfl, fun g hg => find_fit I.fit hg, rfl, Nat.le_trans (flat_len _ _ 40 fun g hg => pre_len 3 g (find_fit I.fit hg)) (Nat.le_trans (Nat.mul_le_mul_right _ (find_len gd.1 I.fit)) (Nat.le_trans hcl40 hcap))⟩
  rintro j s' ⟨m, S', o, v', out, vs, fs, done, k, k2, F, hod, m1, m2, m3, d1, d2, e0, ft, rfl, hj⟩
  have hout : out.length ≤ 1000000 := by
    rw [d1.length]
    have : done.length ≤ (find (.desc l r) f).length := by rw [← e0, List.length_append]; omega
    omega
  have hvl : vs.length ≤ 1000000 := by rw [d2.length]; exact Nat.le_trans (flat_ge fun g _ => pre_pos 3 g) hj
  refine isTrue_plain (nm F m3 (wpAny_truthy_list (items := vs.reverse.toArray) ⟨_, (F.mine (sa, listOf vs.reverse.toArray k2) (by simp)).1, rfl, k2, rfl⟩ (by simp only [List.size_toArray, List.length_reverse]; omega) ?_))
  have F := F.toks (tk := s'.toks + 1 + 1)
  cases fs with
  | nil =>
    cases d2
    rw [if_neg (by simp)]
    refine wpAny_execs_nil (wpAny_execs_cons (wpAny_Return_some (nm F m2 ?_)))
    have F := F.perm (own' := [(ma, listOf out.toArray k), (L + 1, o), (sa, listOf ([] : List Value).reverse.toArray k2)]) (.swap _ _ _)
    refine h ma _ _ out k F.freeze.out0 (.inr ⟨rfl, rfl⟩) ?_
    have e0 : done ++ [] = _ := e0
    rw [List.append_nil] at e0
    rw [← e0]
    exact d1.mono fun _ _ q => .inl q
  | cons g fs =>
    obtain ⟨dv, ws, rfl, dg, d3⟩ := d2.uncons
    obtain ⟨y, pv, cv, rfl, I2⟩ := dg.inst
    have hdoc := dg.doc
    rw [if_pos (by simp)]
    have pe := pre3 hdoc.2
    have e1 : done ++ (find r g ++ (g.kids ++ fs).flatMap fun g => (pre 3 g).flatMap (find r)) = find (.desc l r) f := by
      rw [← e0, List.flatMap_cons, pe, List.flatMap_cons, List.flatMap_append, List.flatMap_assoc, List.append_assoc]
    have ej : ((g.kids ++ fs).flatMap (pre 3)).length < ((g :: fs).flatMap (pre 3)).length := by
      rw [List.flatMap_cons, pe, List.flatMap_append]; simp
    have hwl : ws.length + g.kids.length < 1000000 := by
      have := flat_ge (l := g.kids ++ fs) fun g _ => pre_pos 3 g
      rw [List.length_append, ← d3.length] at this
      omega
    -- datum = stack.pop()
    have F := F.perm (own' := [(sa, listOf (Value.ref y :: ws).reverse.toArray k2), (L + 1, o), (ma, listOf out.toArray k)]) ((List.Perm.cons _ (.swap _ _ _)).trans (.swap _ _ _))
    refine wpAny_execs_cons (asg (MethodCall_ (nm F m3 ?_)))
    refine mtL (F.mine _ (.head _)).1 PySem.F.slot_list_pop ty_pop (callWith_method0 ?_)
    rw [List.reverse_cons] at F
    refine popL F (by simp only [List.length_cons, List.length_reverse] at hvl ⊢; omega) fun s₁ k3 F => ?_
    have F := F.perm (own' := [(L + 1, o), (ma, listOf out.toArray k), (sa, listOf ws.reverse.toArray k3)]) ((List.Perm.swap _ _ _).trans (.cons _ (.swap _ _ _)))
    refine stoC F hod fun s₂ o F hod => ?_
    have mono : ∀ b o, S b o → S' b o := F.sub
    -- matches.extend(self.right.find(datum))
    refine wpAny_execs_cons (wpAny_Expr_any (MethodCall_ (nm F m2 (mtL (F.mine (ma, listOf out.toArray k) (by simp)).1 PySem.F.slot_list_extend ty_ext (callWith_method1 (spliced_more (MethodCall_ (Attribute_name (nm F m1 (getA hB F (hx.mono mono) rfl (by kernel_rfl) (by kernel_rfl) (attr := none) (by kernel_rfl) (by kernel_rfl) rfl fun s₃ F => getFind hB F (pr.mono mono) (callWith_K (hB.at F.st).k (kp_find _ _) (spliced_more (nmC F (.head _) hod (spliced_none ⟨(hB.at F.st).k, ?_⟩))))))))))))))
    refine hr (C'.le (by omega)) F.st F.has (pr.mono mono) (.dat dg) hok.2 (Nat.le_trans hcr hcap) fun a2 s₄ S₄ vs2 n2 O2 ha2 hd2 => ?_
    have hov : out.length + vs2.length ≤ 1000000 := by
      have h1 := congrArg List.length e1
      simp only [List.length_append] at h1
      rw [d1.length, hd2.length]; omega
    have F := (F.call O2).perm (own' := [(ma, listOf out.toArray k), (L + 1, o), (sa, listOf ws.reverse.toArray k3)]) (.swap _ _ _)
    refine spliced_none (extL F (F.has.get ha2) hov fun s₅ k4 F => ?_)
    have F := F.perm (own' := [(L + 1, o), (ma, listOf (out ++ vs2).toArray k4), (sa, listOf ws.reverse.toArray k3)]) (.swap _ _ _)
    -- value = datum.value
    refine wpAny_execs_cons (asg (Attribute_name (nmC F (.head _) hod (valueA hB (n := 5) (C'.le (by omega)) F (I2.mono O2.sub) hdoc.1.handed fun s₆ F => sto F fun s₇ F => ?_))))
    have dg := dg.mono O2.sub
    have d3 := d3.mono O2.sub
    have d1 := (d1.mono O2.sub).append hd2
    have hdoc := dg.doc
    have fin : ∀ m5 S5 s5 o5 v5 k5 k6 kv, Fx B S s fr [] L m5 S5 [(L + 1, o5), (ma, listOf (out ++ vs2).toArray k5), (sa, listOf (ws.reverse ++ kv.reverse).toArray k6)] s5 → o5.data = .cell v5 → m5 (Str.ofString "self") = some (.ref x) → m5 (Str.ofString "matches") = some (.ref ma) → m5 (Str.ofString "stack") = some (.ref sa) →
        (∀ b o, S₄ b o → S5 b o) → Datums w.params S5 kv g.kids → ∃ j', j' < ((g :: fs).flatMap (pre 3)).length ∧ DSt w B S s fr L x ma sa r (find (.desc l r) f) j' s5 := fun m5 S5 s5 o5 v5 k5 k6 kv F h1 h2 h3 h4 M5 dk =>
      ⟨_, ej, m5, S5, o5, v5, out ++ vs2, kv ++ ws, g.kids ++ fs, done ++ find r g, k5, k6, by rw [List.reverse_append]; exact F, h1, h2, h3, h4, d1.mono M5, dk.append (d3.mono M5), by rw [List.append_assoc]; exact e1, fun q hq => (List.mem_append.mp hq).elim (fun hq => kid_fit hdoc.2 hq) fun hq => ft q (.tail _ hq), rfl, Nat.le_trans (Nat.le_of_lt ej) hj⟩
    refine wpAny_execs_cons (wpAny_If (isTrue_plain (cb (hB.at F.st) (kn_isi _) bn_isi (spliced_more (nm F rfl (spliced_more (bl (hB.at F.st) (kn_list _) bn_list (spliced_none (isi1 hB F (Kd.doc hdoc.1) (kit_l hdoc.1) fun s₈ F => wpAny_truthy_bool ?_)))))))))
    by_cases hL : g.doc.isL = true
    · rw [if_pos hL]
      obtain ⟨la, cs, e⟩ := isL_inv hL
      have h3 : cs.length ≤ 3 := by have := hdoc.2.three; rw [e] at this; simpa [Doc.kids] using this
      obtain ⟨kl, hlst⟩ : ∃ k, S₄ la (listOf (cs.map Doc.val).toArray k) := by
        have := hdoc.1
        rw [e] at this
        cases this with
        | list ho _ => exact ⟨_, ho⟩
      refine wpAny_execs_cons (lassign F (cl := [(Str.ofString "datum", L + 1)]) rfl ?_)
      have ev : g.doc.val = .ref la := by rw [e]; rfl
      refine cbt (hB.at F.st) (kn_enum _) bn_enum (spliced_more (nm F ((if_pos rfl).trans (congrArg some ev)) (spliced_none ?_)))
      refine enumL F hlst fun en I₂ s₉ ows F p0 => ?_
      have X := Itp.enum (w := w) (A := A.deeper (envOfC (Str.ofString "Descendants.find") (defScope (methAt 12 1)) L (findOf (.desc l r)) (Value.ref 450))) (e := en) (I := I₂) (l := la) (items := cs.map Doc.val) C'.handled
      refine X.self p0 F ⟨S₄, ows ++ [(L + 1, o), (ma, listOf (out ++ vs2).toArray k4), (sa, listOf ws.reverse.toArray k3)], cs.length, _, fun out' S' rest => rest = [(L + 1, o), (ma, listOf (out ++ vs2).toArray k4), (sa, listOf ws.reverse.toArray k3)] ∧ (∀ a o, S₄ a o → S' a o) ∧ Datums w.params S' out' g.kids, Nat.le_trans h3 three_ok, F, ⟨ows, _, rfl, p0, rfl, fun _ _ h => h, .nil⟩, LTurns.ofp (n := cs.length) (by simpa using X) C'.handled (fun i out' S' rest => rest = [(L + 1, o), (ma, listOf (out ++ vs2).toArray k4), (sa, listOf ws.reverse.toArray k3)] ∧ (∀ a o, S₄ a o → S' a o) ∧ Datums w.params S' out' (g.kids.take i)) rfl rfl (by decide) rfl (fun i out' S₅ ows₁ rest s₁₀ C₁ oc D od mc u1 u2 E' hi hvv J F N h1 h2 => ?_) (fun out' S₅ rest J => ?_), fun D out' S₅ own kD s₁₀ J F => ?_⟩
      · obtain ⟨rfl, M, J⟩ := J
        obtain ⟨⟨t, rfl⟩, hv2⟩ := hvv
        obtain ⟨d, hcd, rfl⟩ := hv2
        refine cfK (hB.at F.st) (kn_Dat _) (kp_Dat _) (spliced_more (nmO F (.head _) N h2 (spliced_none (kwAll_cons (nmC (c := L + 1) (o := o) F (by simp) hod (kwAll_cons (cf (hB.at F.st) (kn_Index _) (kp_Index _) (spliced_more (nmO F (.head _) N h1 (spliced_none ⟨(hB.at F.st).k, index_ (n := 8) hB (C'.le (by omega)) F fun y2 s₁₁ S₆ F M2 py => ?_⟩))))))))))
        refine kwAll_nil ⟨(hB.at F.st).k, ?_⟩
        refine dat (n := 8) hB (C'.le (by omega)) F (.inr (.inl rfl)) (.inr (pathTruth py)) (.inr ⟨y, _, rfl, (I2.mono O2.sub).mono fun a o q => M2 _ _ (M _ _ q)⟩) fun z s₁₂ S₇ pv2 F M3 I3 hpv => ?_
        obtain rfl := hpv (by intro q; cases q)
        refine ⟨S₇, _, oc, mc, F, N, fun a o q => M3 _ _ (M2 _ _ q), rfl, fun a o q => M3 _ _ (M2 _ _ (M _ _ q)), ?_⟩
        rw [List.take_add_one, kids_list e hcd]
        refine (J.mono fun a o q => M3 _ _ (M2 _ _ q)).snoc (sub_idx (dg.mono fun a o q => M3 _ _ (M2 _ _ (M _ _ q))) e hcd ?_ I3 (py.mono M3))
        rw [Int.emod_eq_of_lt (by omega) (by omega)]; rfl
      · obtain ⟨rfl, M, J⟩ := J
        refine ⟨rfl, M, ?_⟩
        rwa [List.take_of_length_le (by rw [kids_len, e]; simp [Doc.kids])] at J
      · obtain ⟨rfl, M, J⟩ := J
        have hol : out'.length = g.kids.length := J.length
        have hk3 : g.kids.length ≤ 3 := by rw [kids_len]; exact hdoc.2.three
        refine wpAny_execs_cons (wpAny_Expr_any (MethodCall_ (nm F rfl (mtL (F.mine _ (.head _)).1 PySem.F.slot_list_reverse ty_rev (revL F (by omega) fun s₁₁ k5 F => ?_)))))
        have F := F.freeze.perm (own' := [(sa, listOf ws.reverse.toArray k3), (L + 1, o), (ma, listOf (out ++ vs2).toArray k4)]) ((List.Perm.cons _ (.swap _ _ _)).trans (.swap _ _ _))
        refine wpAny_execs_cons (wpAny_Expr_any (MethodCall_ (nm F (((if_neg (by decide)).trans (if_neg (by decide))).trans m3) (mtL (F.mine _ (.head _)).1 PySem.F.slot_list_extend ty_ext (callWith_method1 (spliced_more (nm F rfl (spliced_none (extL F (F.has.get (.inr ⟨rfl, rfl⟩)) (by simp only [List.length_reverse]; omega) fun s₁₂ k6 F => ?_)))))))))
        have F := F.perm (own' := [(L + 1, o), (ma, listOf (out ++ vs2).toArray k4), (sa, listOf (ws.reverse ++ out'.reverse).toArray k6)]) ((List.Perm.swap _ _ _).trans (.cons _ (.swap _ _ _)))
        exact wpAny_execs_nil (wpAny_execs_nil (fin _ _ _ o _ k4 k6 out' F hod (((if_neg (by decide)).trans (if_neg (by decide))).trans m1) (((if_neg (by decide)).trans (if_neg (by decide))).trans m2) (((if_neg (by decide)).trans (if_neg (by decide))).trans m3) (fun a o q => .inl (M _ _ q)) (J.mono fun _ _ q => .inl q)))
    rw [if_neg hL]
    refine wpAny_execs_cons (wpAny_If (isTrue_plain (cb (hB.at F.st) (kn_isi _) bn_isi (spliced_more (nm F rfl (spliced_more (bl (hB.at F.st) (kn_dict _) bn_dict (spliced_none (isi1 hB F (Kd.doc hdoc.1) (kit_d hdoc.1) fun s₈ F => wpAny_truthy_bool ?_)))))))))
    by_cases hD : g.doc.isD = true
    · rw [if_pos hD]
      obtain ⟨da, cs, e⟩ := isD_inv hD
      have h3 : cs.length ≤ 3 := by have := hdoc.2.three; rw [e] at this; simpa [Doc.kids] using this
      have hdd := hdoc.1
      rw [e] at hdd
      obtain ⟨es, ep, hsm, ho, he, nd⟩ : ∃ es ep, (da == sysModules) = false ∧ S₄ da (dictOf es ep) ∧ Ents w.params es (cs.map fun p => (p.1, p.2.val)) ∧ ((cs.map fun p => (p.1, p.2.val)).map (·.1)).Nodup := by
        cases hdd with
        | dict hm ho he nd _ => exact ⟨_, _, hm, ho, he, by rw [List.map_map]; exact nd⟩
      refine wpAny_execs_cons (wpAny_Expr_any (MethodCall_ (nm F ((if_neg (by decide)).trans m3) (mtL (F.mine (sa, listOf ws.reverse.toArray k3) (by simp)).1 PySem.F.slot_list_extend ty_ext (callWith_method1 (spliced_more (genmake hB C' F (cl := [(Str.ofString "datum", L + 1)]) rfl ?_)))))))
      have ev : g.doc.val = .ref da := by rw [e]; rfl
      refine backL (B := B) (T := S) (s₀ := s) (fr := fr) (mu := []) (L := L) (m := fun y => if y = Str.ofString "value" then some g.doc.val else m y) (cbt (hB.at F.st) (kn_list _) bn_list (spliced_more (MethodCall_ (nm F ((if_pos rfl).trans (congrArg some ev)) ?_))))
      refine itemsM F ho he nd (callWith_method0 (itemsC F ho he nd hsm fun vw s₉ F => spliced_none (listItems C'.handled F ho he nd (by simp only [List.length_map]; omega) fun ra ts kt s₁₀ S₅ F M hlen hts => ?_)))
      refine ⟨ra, ts.map Value.ref, kt, S₅, _, rfl, (F.mine _ (.head _)).1, by simp only [List.length_map] at hlen ⊢; omega, F, fun rb s₁₁ F => ?_⟩
      have F := F.freeze.drop
      refine wpAny_pyIter_list ⟨_, F.has.get (.inr ⟨rfl, rfl⟩), rfl, _, rfl⟩ ?_
      have F := F.push { cls := .type "list_iterator", data := .fields #[.ref rb, .int 0 0] }
      refine ⟨_, _, F, fun Cg ga oc gi n1 n2 code s₁₂ F N hC hg => spliced_none ?_⟩
      have F := F.perm (own' := (ga, genO gi n1 n2) :: (Cg, oc) :: (s₁₁.heap.objs.size, { cls := .type "list_iterator", data := .fields #[.ref rb, .int 0 0] }) :: (sa, listOf ws.reverse.toArray k3) :: [(L + 1, o), (ma, listOf (out ++ vs2).toArray k4)]) (.cons _ (.cons _ (.cons _ ((List.Perm.cons _ (.swap _ _ _)).trans (.swap _ _ _)))))
      have hgl : (ts.map Value.ref).reverse.length = g.kids.length := by rw [List.length_reverse, List.length_map, hlen, kids_len, e]; simp [Doc.kids]
      have hcl : cs.length = g.kids.length := by rw [kids_len, e]; simp [Doc.kids]
      refine gext (J := fun i out' S' => Datums w.params S' out' (g.kids.reverse.take i)) (V := fun i v1 v2 => ∃ kk t d, v1 = .str kk t ∧ v2 = d.val ∧ (kk, d) ∈ cs ∧ g.kids.reverse[i]? = some (g.sub (.key kk, d))) (n := 8) (items := (ts.map Value.ref).reverse) hB (C'.le (by omega)) F N hC hg ⟨_, .inr ⟨rfl, rfl⟩⟩ (by rw [hgl, List.length_reverse]; exact hwl) (fun i t hi => ?_) .nil rfl rfl (by decide) rfl rfl (fun i out' S' v1 v2 A' T' s₁ mu' own s' mc E' hi hV M5 J5 hmem G h1 h2 C3 => ?_) (fun S' out' k' s' F M5 J5 => ?_)
      · have hil : i < (ts.map Value.ref).length := by
          have := (List.getElem?_eq_some_iff.mp hi).1
          rwa [List.length_reverse] at this
        rw [List.getElem?_reverse hil, List.getElem?_map] at hi
        obtain ⟨q, hq, rfl⟩ := Option.map_eq_some_iff.mp hi
        obtain ⟨kk, t, v, hkv, hS⟩ := hts _ q hq
        rw [List.getElem?_map] at hkv
        obtain ⟨⟨k', d⟩, hcd, hkd⟩ := Option.map_eq_some_iff.mp hkv
        cases hkd
        refine ⟨q, _, _, rfl, .inl hS, _, t, d, rfl, rfl, List.mem_of_getElem? hcd, ?_⟩
        have hlt : (ts.map Value.ref).length = g.kids.length := by rw [← hgl, List.length_reverse]
        rw [hlt] at hil hcd
        rw [List.getElem?_reverse hil]
        exact kids_dict e hcd
      · obtain ⟨kk, t, d, rfl, rfl, hin, hki⟩ := hV
        have hcell : (L + 1, o) ∈ own := hmem _ (.head _)
        refine cfK (hB.at G.st) (kn_Dat _) (kp_Dat _) (spliced_more (nm G h2 (spliced_none (kwAll_cons (wpAny_Name (wpAny_loadName_free rfl rfl rfl ⟨o, (G.mine _ hcell).1, hod⟩ (kwAll_cons (MethodCall_ (gl (hB.at G.st) (kn_Fields _) (getC hB G (by kernel_rfl) (by kernel_rfl) (by kernel_rfl) (p := 601) (by kernel_rfl) (f := f_Fields_compliant_constructor) (by rfl) fun q s₁₃ G => callC hB G (by kernel_rfl) (spliced_more (nm G h1 (spliced_none ⟨_, G, rfl, compliant hB (C3.le (by omega)) G.st G.has fun y2 s₁₄ S₆ O py => ?_⟩)))))))) (by decide))))))
        have G := (G.call O).drop
        refine kwAll_nil ⟨(hB.at G.st).k, ?_⟩
        have M6 : ∀ a o, S₄ a o → S₆ a o := fun a o q => O.sub _ _ (M5 _ _ (.inl (M _ _ q)))
        refine dat (n := 2) hB (C3.le (by omega)) G (.inr (.inl rfl)) (.inr (pathTruth py)) (.inr ⟨y, _, rfl, (I2.mono O2.sub).mono M6⟩) fun z s₁₅ S₇ pv2 G M3 I3 hpv => ?_
        obtain rfl := hpv (by intro q; cases q)
        refine ⟨S₇, G, fun a o q => M3 _ _ (O.sub _ _ q), ?_⟩
        rw [List.take_add_one, hki]
        exact (J5.mono fun a o q => M3 _ _ (O.sub _ _ q)).snoc (sub_key (dg.mono fun a o q => M3 _ _ (M6 _ _ q)) e hin I3 (py.mono M3))
      · have J5 : Datums w.params S' out' (g.kids.reverse.take (ts.map Value.ref).reverse.length) := J5
        rw [hgl, List.take_of_length_le (by simp)] at J5
        have J6 := J5.rev
        rw [List.reverse_reverse] at J6
        have F := F.perm (own' := [(L + 1, o), (ma, listOf (out ++ vs2).toArray k4), (sa, listOf (ws.reverse ++ out'.reverse.reverse).toArray k')]) (by rw [List.reverse_reverse]; exact (List.Perm.swap _ _ _).trans (.cons _ (.swap _ _ _)))
        exact wpAny_execs_nil (wpAny_execs_nil (wpAny_execs_nil (fin _ _ _ o _ k4 k' out'.reverse F hod ((if_neg (by decide)).trans m1) ((if_neg (by decide)).trans m2) ((if_neg (by decide)).trans m3) (fun a o q => M5 _ _ (.inl (M _ _ q))) J6)))
    · rw [if_neg hD]
      have F := F.perm (own' := [(L + 1, o), (ma, listOf (out ++ vs2).toArray k4), (sa, listOf (ws.reverse ++ ([] : List Value).reverse).toArray k3)]) (by rw [List.reverse_nil, List.append_nil])
      exact wpAny_execs_nil (wpAny_execs_nil (wpAny_execs_nil (fin _ _ _ o _ k4 k3 [] F hod ((if_neg (by decide)).trans m1) ((if_neg (by decide)).trans m2) ((if_neg (by decide)).trans m3) (fun _ _ q => q) (by rw [kids_leaf (by simpa using hL) (by simpa using hD)]; exact .nil))))
end
end DescLaw
end
section
open PySem PySem.W PyProof.Rows PySem.Calls
set_option Elab.async false
set_option maxRecDepth 100000
namespace DescLaw
theorem all_find (w : World) (B : Heap) (hB : Hp w B) : ∀ p, FindSpec w B p
  | .root => find_root w B hB
  | .this => find_this w B hB
  | .wild => find_wild w B hB
  | .fields ks => find_fields w B hB ks
  | .index i => find_index w B hB i
  | .slice st sp => find_slice w B hB st sp
  | .child l r => find_child w B hB (all_find w B hB l) (all_find w B hB r)
  | .union l r => find_union w B hB (all_find w B hB l) (all_find w B hB r)
  | .desc l r => find_desc w B hB (all_find w B hB l) (all_find w B hB r)
end DescLaw
end
section
open PySem PyProof.Rows
set_option Elab.async false
set_option maxRecDepth 100000
namespace DescLaw
/-! sorting: search in a sorted stretch -/
abbrev SM := StateT SortSt Sem
def gallopP : Bool → Keyed → Array Keyed → Nat → Nat → Nat → SM (Option Nat) := sortPriv% PySem.Builtin.gallop
variable {κ : PyProof.Rows.KeyKind}
def kk (κ : PyProof.Rows.KeyKind) (p : Keyed) : κ.α := (κ.keyOf p.1).getD κ.dflt
def Good (κ : PyProof.Rows.KeyKind) (p : Keyed) : Prop := ∃ a, κ.keyOf p.1 = some a
theorem kk_of {p : Keyed} {a : κ.α} (h : κ.keyOf p.1 = some a) : kk κ p = a := by unfold kk; rw [h]; rfl
theorem KK_at {xs : Array Keyed} {i : Nat} {p : Keyed} (h : xs[i]? = some p) : KK κ xs i = kk κ p := by unfold KK; rw [h]; rfl
section
variable {prog : Program} {w : World} {A : Around} {E : Value → Shared → Prop} {s : Shared}
theorem wpS_lt {p q : Keyed} {Q : Option Bool → SortSt → Prop} {st : SortSt} (hO : κ.OneLt) (hk : kindOf st = oneType') (hp : Good κ p) (hq : Good κ q) (h : Q (some (κ.blt (kk κ p) (kk κ q))) st) : wpS (model prog w) A E s (lt' p q) Q st := by
  obtain ⟨a, ha⟩ := hp
  obtain ⟨b, hb⟩ := hq
  rw [kk_of ha, kk_of hb] at h
  rw [lt'_eq]
  refine wpS_bind (wpS_get ?_)
  rw [hk, keyLt'_oneType]
  refine wpS_bind (wpS_lift (wpAny_attempt (hO prog w A _ s p.1 q.1 a b ha hb ⟨rfl, ?_⟩)))
  exact wpS_pure h
theorem wpS_elem {arr : Array Keyed} {i : Nat} {p : Keyed} {Q : Keyed → SortSt → Prop} {st : SortSt} (e : arr[i]? = some p) (h : Q p st) : wpS (model prog w) A E s (elem' arr i) Q st := by
  rw [elem'_eq, e]
  exact wpS_pure h
/-- where the searched thing lies: p holds ahead of it, and no more from it on -/
structure Cut (P : Nat → Bool) (n k : Nat) : Prop where
  le : k ≤ n
  yes : ∀ i, i < k → P i = true
  no : ∀ i, k ≤ i → i < n → P i = false
def beyond (κ : PyProof.Rows.KeyKind) (left : Bool) (key x : Keyed) : Bool := if left then κ.blt (kk κ x) (kk κ key) else !(κ.blt (kk κ key) (kk κ x))
theorem wpS_gallop {left : Bool} {key : Keyed} {arr : Array Keyed} {base n hint : Nat} {x : Nat → Keyed} {Q : Option Nat → SortSt → Prop} {st : SortSt} (hO : κ.OneLt) (hk : kindOf st = oneType') (hkey : Good κ key)
    (hx : ∀ i, i < n → arr[base + i]? = some (x i) ∧ Good κ (x i)) (hh : hint < n) (mono : ∀ i j, i ≤ j → j < n → beyond κ left key (x j) = true → beyond κ left key (x i) = true)
    (h : ∀ k, Cut (fun i => beyond κ left key (x i)) n k → Q (some k) st) : wpS (model prog w) A E s (gallopP left key arr base n hint) Q st := by
  have ask : ∀ {i : Nat} {Q' : Option Bool → SortSt → Prop}, i < n → Q' (some (beyond κ left key (x i))) st →
      wpS (model prog w) A E s (do let x ← elem' arr (base + i); if left = true then lt' x key else do let r ← lt' key x; pure (Option.map (fun x => !x) r)) Q' st := by
    intro i Q' hi hq
    obtain ⟨e, g⟩ := hx i hi
    refine wpS_bind (wpS_elem e ?_)
    cases left with
    | true => rw [if_pos rfl]; exact wpS_lt hO hk g hkey hq
    | false => rw [if_neg (by decide)]; exact wpS_bind (wpS_lt hO hk hkey g (wpS_pure hq))
  have fin : ∀ lo hi (f : Nat → (Option (Option Nat) × Nat × Nat) → SM (ForInStep (Option (Option Nat) × Nat × Nat))) (g : (Option (Option Nat) × Nat × Nat) → SM (Option Nat)),
      lo ≤ hi → hi ≤ n → (∀ i, i < lo → beyond κ left key (x i) = true) → (∀ i, hi ≤ i → i < n → beyond κ left key (x i) = false) →
      (∀ i c lo hi, lo ≤ hi → hi ≤ n → c = (none, lo, hi) → ∀ Q' : ForInStep (Option (Option Nat) × Nat × Nat) → SortSt → Prop, (lo ≥ hi → Q' (.done (none, lo, hi)) st) → (lo < hi → beyond κ left key (x (lo + (hi - lo) / 2)) = true → Q' (.yield (none, lo + (hi - lo) / 2 + 1, hi)) st) → (lo < hi → beyond κ left key (x (lo + (hi - lo) / 2)) = false → Q' (.yield (none, lo, lo + (hi - lo) / 2)) st) → wpS (model prog w) A E s (f i c) Q' st) →
      (∀ lo hi, wpS (model prog w) A E s (g (none, lo, hi)) (fun r st' => r = some hi ∧ st' = st) st) →
      wpS (model prog w) A E s (forIn [:n] (none, lo, hi) f >>= g) Q st := by
    intro lo hi f g h1 h2 h3 h4 hf hg
    refine wpS_bind (wpS_mono (wpS_forRange (I := fun i c st' => st' = st ∧ ∃ lo hi, c = (none, lo, hi) ∧ lo ≤ hi ∧ hi ≤ n ∧ hi - lo ≤ n - i ∧ (∀ i, i < lo → beyond κ left key (x i) = true) ∧ (∀ i, hi ≤ i → i < n → beyond κ left key (x i) = false))
      (Q := fun c st' => st' = st ∧ ∃ k, c = (none, k, k) ∧ Cut (fun i => beyond κ left key (x i)) n k) ?_ ?_ ⟨rfl, lo, hi, rfl, h1, h2, by omega, h3, h4⟩) ?_)
    · rintro i c st' _ hi' ⟨rfl, lo, hi, rfl, a1, a2, a3, a4, a5⟩
      refine hf i _ lo hi a1 a2 rfl _ (fun q => ?_) (fun q b => ?_) (fun q b => ?_)
      · have : lo = hi := by omega
        subst this
        exact ⟨rfl, lo, rfl, a2, a4, a5⟩
      · refine ⟨rfl, _, _, rfl, by omega, a2, by omega, fun j hj => ?_, a5⟩
        exact mono j _ (by omega) (by omega) b
      · refine ⟨rfl, _, _, rfl, by omega, by omega, by omega, a4, fun j hj hj2 => ?_⟩
        cases e : beyond κ left key (x j) with
        | false => rfl
        | true => rw [mono _ j hj hj2 e] at b; cases b
    · rintro c st' ⟨rfl, lo, hi, rfl, a1, a2, a3, a4, a5⟩
      have : lo = hi := by omega
      subst this
      exact ⟨rfl, lo, rfl, a2, a4, a5⟩
    · rintro c st' ⟨rfl, k, rfl, hc⟩
      refine wpS_mono (hg k k) fun r st' q => ?_
      obtain ⟨rfl, rfl⟩ := q
      exact h k hc
  refine wpS_bind (ask hh ?_)
  cases hb : beyond κ left key (x hint) with
  | true =>
    dsimp only
    rw [if_pos rfl]
    refine wpS_bind (wpS_mono (wpS_forRange (I := fun i c st' => st' = st ∧ ∃ l o, c = (none, l, o) ∧ i + 1 ≤ o ∧ l + 1 ≤ o ∧ hint + l < n ∧ beyond κ left key (x (hint + l)) = true)
      (Q := fun c st' => st' = st ∧ ∃ l o, c = (none, l, o) ∧ l + 1 ≤ o ∧ hint + l < n ∧ beyond κ left key (x (hint + l)) = true ∧ (o ≥ n - hint ∨ (hint + o < n ∧ beyond κ left key (x (hint + o)) = false))) ?_ ?_ ⟨rfl, 0, 1, rfl, by omega, by omega, hh, hb⟩) ?_)
    · rintro i c st' _ hi' ⟨rfl, l, o, rfl, a1, a2, a3, a4⟩
      dsimp only
      by_cases ho : o ≥ n - hint
      · rw [if_pos ho]
        exact wpS_pure ⟨rfl, l, o, rfl, a2, a3, a4, .inl ho⟩
      · rw [if_neg ho]
        refine wpS_bind (ask (by omega) ?_)
        cases hb2 : beyond κ left key (x (hint + o)) with
        | true => exact wpS_pure ⟨rfl, o, 2 * o + 1, rfl, by omega, by omega, by omega, hb2⟩
        | false => exact wpS_pure ⟨rfl, l, o, rfl, a2, a3, a4, .inr ⟨by omega, hb2⟩⟩
    · rintro c st' ⟨rfl, l, o, rfl, a1, a2, a3, a4⟩
      exact ⟨rfl, l, o, rfl, a2, a3, a4, .inl (by omega)⟩
    · rintro c st' ⟨rfl, l, o, rfl, a2, a3, a4, a5⟩
      dsimp only
      refine fin _ _ _ _ (by omega) (by omega) (fun i hi => mono i _ (by omega) a3 a4) (fun i hi hi2 => ?_) (fun i c lo hi a1 a2 hc Q' q1 q2 q3 => ?_) (fun lo hi => wpS_pure ⟨rfl, rfl⟩)
      · rcases a5 with a5 | ⟨a5, a6⟩
        · omega
        · cases e : beyond κ left key (x i) with
          | false => rfl
          | true => rw [mono (hint + o) i (by omega) hi2 e] at a6; cases a6
      · subst hc
        dsimp only
        by_cases hl : lo ≥ hi
        · rw [if_pos hl]; exact wpS_pure (q1 hl)
        · rw [if_neg hl]
          refine wpS_bind (ask (by omega) ?_)
          cases hb2 : beyond κ left key (x (lo + (hi - lo) / 2)) with
          | true => exact wpS_pure (q2 (by omega) hb2)
          | false => exact wpS_pure (q3 (by omega) hb2)
  | false =>
    dsimp only
    rw [if_neg (by decide)]
    refine wpS_bind (wpS_mono (wpS_forRange (I := fun i c st' => st' = st ∧ ∃ l o, c = (none, l, o) ∧ i + 1 ≤ o ∧ l + 1 ≤ o ∧ l ≤ hint ∧ beyond κ left key (x (hint - l)) = false)
      (Q := fun c st' => st' = st ∧ ∃ l o, c = (none, l, o) ∧ l + 1 ≤ o ∧ l ≤ hint ∧ beyond κ left key (x (hint - l)) = false ∧ (o ≥ hint + 1 ∨ (o ≤ hint ∧ beyond κ left key (x (hint - o)) = true))) ?_ ?_ ⟨rfl, 0, 1, rfl, by omega, by omega, by omega, hb⟩) ?_)
    · rintro i c st' _ hi' ⟨rfl, l, o, rfl, a1, a2, a3, a4⟩
      dsimp only
      by_cases ho : o ≥ hint + 1
      · rw [if_pos ho]
        exact wpS_pure ⟨rfl, l, o, rfl, a2, a3, a4, .inl ho⟩
      · rw [if_neg ho]
        refine wpS_bind (ask (by omega) ?_)
        cases hb2 : beyond κ left key (x (hint - o)) with
        | true => exact wpS_pure ⟨rfl, l, o, rfl, a2, a3, a4, .inr ⟨by omega, hb2⟩⟩
        | false => exact wpS_pure ⟨rfl, o, 2 * o + 1, rfl, by omega, by omega, by omega, hb2⟩
    · rintro c st' ⟨rfl, l, o, rfl, a1, a2, a3, a4⟩
      exact ⟨rfl, l, o, rfl, a2, a3, a4, .inl (by omega)⟩
    · rintro c st' ⟨rfl, l, o, rfl, a2, a3, a4, a5⟩
      dsimp only
      refine fin _ _ _ _ (by omega) (by omega) (fun i hi => ?_) (fun i hi hi2 => ?_) (fun i c lo hi a1 a2 hc Q' q1 q2 q3 => ?_) (fun lo hi => wpS_pure ⟨rfl, rfl⟩)
      · rcases a5 with a5 | ⟨a5, a6⟩
        · omega
        · exact mono i _ (by omega) (by omega) a6
      · cases e : beyond κ left key (x i) with
        | false => rfl
        | true => rw [mono (hint - l) i (by omega) hi2 e] at a4; cases a4
      · subst hc
        dsimp only
        by_cases hl : lo ≥ hi
        · rw [if_pos hl]; exact wpS_pure (q1 hl)
        · rw [if_neg hl]
          refine wpS_bind (ask (by omega) ?_)
          cases hb2 : beyond κ left key (x (lo + (hi - lo) / 2)) with
          | true => exact wpS_pure (q2 (by omega) hb2)
          | false => exact wpS_pure (q3 (by omega) hb2)
theorem by_tt {key x : Keyed} (h : beyond κ true key x = true) : κ.kle (kk κ x) (kk κ key) := KeyOrd.kle_of_klt (show κ.klt _ _ from h)
theorem by_tf {key x : Keyed} (h : beyond κ true key x = false) : κ.kle (kk κ key) (kk κ x) := h
theorem by_ft {key x : Keyed} (h : beyond κ false key x = true) : κ.kle (kk κ x) (kk κ key) := by
  have h : (!(κ.blt (kk κ key) (kk κ x))) = true := h
  rwa [Bool.not_eq_true'] at h
theorem by_ff {key x : Keyed} (h : beyond κ false key x = false) : κ.kle (kk κ key) (kk κ x) := by
  have h : (!(κ.blt (kk κ key) (kk κ x))) = false := h
  rw [Bool.not_eq_false'] at h
  exact KeyOrd.kle_of_klt h
theorem beyond_mono {left : Bool} {key x y : Keyed} (h : κ.kle (kk κ x) (kk κ y)) (hb : beyond κ left key y = true) : beyond κ left key x = true := by
  cases left with
  | true =>
    have hb : κ.blt (kk κ y) (kk κ key) = true := hb
    exact KeyOrd.klt_of_kle_of_klt h hb
  | false =>
    have hb : (!(κ.blt (kk κ key) (kk κ y))) = true := hb
    show (!(κ.blt (kk κ key) (kk κ x))) = true
    rw [Bool.not_eq_true'] at hb ⊢
    exact KeyOrd.kle_trans h hb
theorem wpS_gallopA {left : Bool} {key : Keyed} {arr : Array Keyed} {base n hint : Nat} {Q : Option Nat → SortSt → Prop} {st : SortSt} (hO : κ.OneLt) (hk : kindOf st = oneType') (hkey : Good κ key)
    (hbn : base + n ≤ arr.size) (g : ∀ i (q : i < arr.size), Good κ arr[i]) (srt : ∀ i j (_ : base ≤ i) (_ : i ≤ j) (q : j < base + n), κ.kle (kk κ (arr[i]'(by omega))) (kk κ (arr[j]'(by omega)))) (hh : hint < n)
    (h : ∀ k (_ : k ≤ n), (∀ i (q : i < k), beyond κ left key (arr[base + i]'(by omega)) = true) → (∀ i (_ : k ≤ i) (q : i < n), beyond κ left key (arr[base + i]'(by omega)) = false) → Q (some k) st) : wpS (model prog w) A E s (gallopP left key arr base n hint) Q st := by
  have ex : ∀ i (q : i < n), (arr[base + i]?).getD (.none, .none) = arr[base + i]'(by omega) := fun i q => by rw [getElem?_pos arr (base + i) (by omega)]; rfl
  refine wpS_gallop (x := fun i => (arr[base + i]?).getD (.none, .none)) hO hk hkey (fun i hi => ?_) hh (fun i j hij hj hb => ?_) fun k hc => ?_
  · rw [ex i hi]; exact ⟨getElem?_pos arr (base + i) (by omega), g _ _⟩
  · rw [ex i (by omega)]
    rw [ex j hj] at hb
    exact beyond_mono (srt _ _ (by omega) (by omega) (by omega)) hb
  · obtain ⟨h1, h2, h3⟩ := hc
    refine h k h1 (fun i hi => ?_) (fun i hi hi2 => ?_)
    · have := h2 i hi
      rwa [ex i (by omega)] at this
    · have := h3 i hi hi2
      rwa [ex i hi2] at this
end
end DescLaw
end
section
open PySem PyProof.Rows
set_option Elab.async false
set_option maxRecDepth 100000
namespace DescLaw
/-! sorting: two stretches are merged, from the low end -/
def mergeLoP : Array Keyed → Array Keyed → SM (Array Keyed) := sortPriv% PySem.Builtin.mergeLo
variable {κ : PyProof.Rows.KeyKind}
def Srt (κ : PyProof.Rows.KeyKind) (l : List Keyed) : Prop := l.Pairwise fun p q => κ.kle (kk κ p) (kk κ q)
/-- a merge's outcome -/
def Mgd (κ : PyProof.Rows.KeyKind) (a b r : Array Keyed) : Prop := r.toList.Perm (a.toList ++ b.toList) ∧ Srt κ r.toList
structure Same (st st' : SortSt) : Prop where
  kind : kindOf st' = kindOf st
  arr : arrOf st' = arrOf st
  pend : pendingOf st' = pendingOf st
  fail : failedOf st' = failedOf st
theorem Same.refl (st : SortSt) : Same st st := ⟨rfl, rfl, rfl, rfl⟩
theorem Same.trans {x y z : SortSt} (h : Same x y) (h' : Same y z) : Same x z := ⟨h'.kind.trans h.kind, h'.arr.trans h.arr, h'.pend.trans h.pend, h'.fail.trans h.fail⟩
theorem Srt.le {l : List Keyed} (h : Srt κ l) {i j : Nat} (hi : i ≤ j) (hj : j < l.length) : κ.kle (kk κ (l[i]'(by omega))) (kk κ l[j]) := by
  rcases Nat.lt_or_eq_of_le hi with q | q
  · exact List.pairwise_iff_getElem.mp h i j (by omega) hj q
  · subst q; exact KeyOrd.kle_refl _
theorem Srt.leA {a : Array Keyed} (h : Srt κ a.toList) {i j : Nat} (hi : i ≤ j) (hj : j < a.size) : κ.kle (kk κ (a[i]'(by omega))) (kk κ a[j]) := by
  have := h.le hi (by simpa using hj)
  simpa using this
theorem Srt.snoc {l : List Keyed} {x : Keyed} (h : Srt κ l) (hx : ∀ y ∈ l, κ.kle (kk κ y) (kk κ x)) : Srt κ (l ++ [x]) :=
  List.pairwise_append.mpr ⟨h, List.pairwise_singleton _ _, fun y hy z hz => by rw [List.mem_singleton.mp hz]; exact hx y hy⟩
theorem drop_at {a : Array Keyed} {i : Nat} (h : i < a.size) : a.toList.drop i = a[i] :: a.toList.drop (i + 1) := by
  rw [List.drop_eq_getElem_cons (by simpa using h)]; simp
theorem ext_succ {a : Array Keyed} {i k : Nat} (h : i + k < a.size) : a.extract i (i + (k + 1)) = (a.extract i (i + k)).push a[i + k] := by
  apply Array.ext'
  rw [Array.toList_push, Array.toList_extract, Array.toList_extract]
  show (a.toList.drop i).take (i + (k + 1) - i) = (a.toList.drop i).take (i + k - i) ++ [a[i + k]]
  rw [show i + (k + 1) - i = k + 1 by omega, show i + k - i = k by omega, List.take_add_one]
  congr 1
  simp [h]
theorem ext_rest {a : Array Keyed} {i : Nat} : (a.extract i a.size).toList = a.toList.drop i := by
  rw [Array.toList_extract]
  show (a.toList.drop i).take (a.size - i) = _
  rw [List.take_of_length_le (by simp)]
structure LoI (κ : PyProof.Rows.KeyKind) (a b out : Array Keyed) (ia ib : Nat) : Prop where
  perm : (out.toList ++ (a.toList.drop ia ++ b.toList.drop ib)).Perm (a.toList ++ b.toList)
  srt : Srt κ out.toList
  cross : ∀ x ∈ out.toList, ∀ y ∈ a.toList.drop ia ++ b.toList.drop ib, κ.kle (kk κ x) (kk κ y)
  size : out.size = ia + ib
section
variable {a b out : Array Keyed} {ia ib k : Nat}
theorem LoI.pushB (h : LoI κ a b out ia ib) (sa : Srt κ a.toList) (sb : Srt κ b.toList) (hb : ib < b.size) (hle : ∀ q : ia < a.size, κ.kle (kk κ b[ib]) (kk κ a[ia])) : LoI κ a b (out.push b[ib]) ia (ib + 1) := by
  obtain ⟨h1, h2, h3, h4⟩ := h
  rw [drop_at hb] at h1 h3
  refine ⟨?_, ?_, fun x hx y hy => ?_, by rw [Array.size_push]; omega⟩
  · rw [Array.toList_push]
    refine .trans ?_ h1
    rw [List.append_assoc]
    refine List.Perm.append_left _ ?_
    rw [List.singleton_append]
    exact List.perm_middle.symm
  · rw [Array.toList_push]
    exact h2.snoc fun y hy => h3 y hy _ (List.mem_append_right _ (.head _))
  · rw [Array.toList_push] at hx
    rcases List.mem_append.mp hx with hx | hx
    · exact h3 x hx y (List.mem_append.mpr ((List.mem_append.mp hy).imp id (.tail _)))
    · rw [List.mem_singleton.mp hx]
      rcases List.mem_append.mp hy with hy | hy
      · obtain ⟨j, hj, rfl⟩ := List.mem_drop_iff_getElem.mp hy
        have hj : ia + j < a.size := by simpa [Nat.add_comm] using hj
        have := sa.leA (Nat.le_add_right ia j) hj
        simpa [Nat.add_comm] using KeyOrd.kle_trans (hle (by omega)) this
      · obtain ⟨j, hj, rfl⟩ := List.mem_drop_iff_getElem.mp hy
        have hj : ib + 1 + j < b.size := by simpa [Nat.add_comm] using hj
        have := sb.leA (i := ib) (j := ib + 1 + j) (by omega) hj
        simpa [Nat.add_comm] using this
theorem LoI.pushA (h : LoI κ a b out ia ib) (sa : Srt κ a.toList) (sb : Srt κ b.toList) (ha : ia < a.size) (hle : ∀ q : ib < b.size, κ.kle (kk κ a[ia]) (kk κ b[ib])) : LoI κ a b (out.push a[ia]) (ia + 1) ib := by
  obtain ⟨h1, h2, h3, h4⟩ := h
  rw [drop_at ha] at h1 h3
  refine ⟨?_, ?_, fun x hx y hy => ?_, by rw [Array.size_push]; omega⟩
  · rw [Array.toList_push]
    refine .trans ?_ h1
    rw [List.append_assoc]
    exact List.Perm.append_left _ (by simp)
  · rw [Array.toList_push]
    exact h2.snoc fun y hy => h3 y hy _ (List.mem_append_left _ (.head _))
  · rw [Array.toList_push] at hx
    rcases List.mem_append.mp hx with hx | hx
    · exact h3 x hx y (List.mem_append.mpr ((List.mem_append.mp hy).imp (.tail _) id))
    · rw [List.mem_singleton.mp hx]
      rcases List.mem_append.mp hy with hy | hy
      · obtain ⟨j, hj, rfl⟩ := List.mem_drop_iff_getElem.mp hy
        have hj : ia + 1 + j < a.size := by simpa [Nat.add_comm] using hj
        have := sa.leA (i := ia) (j := ia + 1 + j) (by omega) hj
        simpa [Nat.add_comm] using this
      · obtain ⟨j, hj, rfl⟩ := List.mem_drop_iff_getElem.mp hy
        have hj : ib + j < b.size := by simpa [Nat.add_comm] using hj
        have := sb.leA (Nat.le_add_right ib j) hj
        simpa [Nat.add_comm] using KeyOrd.kle_trans (hle (by omega)) this
theorem LoI.appA (h : LoI κ a b out ia ib) (sa : Srt κ a.toList) (sb : Srt κ b.toList) (ha : ia + k ≤ a.size) (hle : ∀ i (hi : i < k) (q : ib < b.size), κ.kle (kk κ (a[ia + i]'(by omega))) (kk κ b[ib])) : LoI κ a b (out ++ a.extract ia (ia + k)) (ia + k) ib := by
  induction k with
  | zero =>
    have e : a.extract ia (ia + 0) = #[] := by apply Array.ext'; simp
    rw [e, Array.append_empty]; exact h
  | succ k ih =>
    have h := (ih (by omega) fun i hi q => hle i (by omega) q).pushA sa sb (by omega) fun q => hle k (by omega) q
    rw [ext_succ (by omega), Array.append_push]
    exact h
theorem LoI.appB (h : LoI κ a b out ia ib) (sa : Srt κ a.toList) (sb : Srt κ b.toList) (hb : ib + k ≤ b.size) (hle : ∀ i (hi : i < k) (q : ia < a.size), κ.kle (kk κ (b[ib + i]'(by omega))) (kk κ a[ia])) : LoI κ a b (out ++ b.extract ib (ib + k)) ia (ib + k) := by
  induction k with
  | zero =>
    have e : b.extract ib (ib + 0) = #[] := by apply Array.ext'; simp
    rw [e, Array.append_empty]; exact h
  | succ k ih =>
    have h := (ih (by omega) fun i hi q => hle i (by omega) q).pushB sa sb (by omega) fun q => hle k (by omega) q
    rw [ext_succ (by omega), Array.append_push]
    exact h
theorem Srt.drop {l : List Keyed} (h : Srt κ l) (n : Nat) : Srt κ (l.drop n) := h.sublist (List.drop_sublist _ _)
theorem Srt.take {l : List Keyed} (h : Srt κ l) (n : Nat) : Srt κ (l.take n) := h.sublist (List.take_sublist _ _)
theorem LoI.done (h : LoI κ a b out ia ib) (sa : Srt κ a.toList) (sb : Srt κ b.toList) (hx : ia = a.size ∨ ib = b.size) : Mgd κ a b (out ++ a.extract ia a.size ++ b.extract ib b.size) := by
  obtain ⟨h1, h2, h3, h4⟩ := h
  refine ⟨by rw [Array.toList_append, Array.toList_append, ext_rest, ext_rest, List.append_assoc]; exact h1, ?_⟩
  rw [Array.toList_append, Array.toList_append, ext_rest, ext_rest, List.append_assoc]
  refine List.pairwise_append.mpr ⟨h2, ?_, h3⟩
  rcases hx with rfl | rfl
  · rw [List.drop_of_length_le (l := a.toList) (by simp), List.nil_append]; exact sb.drop _
  · rw [List.drop_of_length_le (l := b.toList) (by simp), List.append_nil]; exact sa.drop _
theorem LoI.lastA (h : LoI κ a b out ia ib) (sb : Srt κ b.toList) (hx : ia + 1 = a.size) (hl : ∀ y ∈ b.toList, ∀ q : a.size - 1 < a.size, κ.kle (kk κ y) (kk κ a[a.size - 1])) : Mgd κ a b (out ++ b.extract ib b.size ++ a.extract ia a.size) := by
  obtain ⟨h1, h2, h3, h4⟩ := h
  refine ⟨?_, ?_⟩
  · rw [Array.toList_append, Array.toList_append, ext_rest, ext_rest, List.append_assoc]
    exact (List.Perm.append_left _ List.perm_append_comm).trans h1
  rw [Array.toList_append, Array.toList_append, ext_rest, ext_rest, List.append_assoc]
  refine List.pairwise_append.mpr ⟨h2, ?_, fun x hx y hy => h3 x hx y (List.mem_append.mpr (List.mem_append.mp hy).symm)⟩
  have e : a.toList.drop ia = [a[ia]] := by
    rw [drop_at (by omega), List.drop_of_length_le (by simp; omega)]
  rw [e]
  refine (sb.drop _).snoc fun y hy => ?_
  have := hl y (List.mem_of_mem_drop hy) (by omega)
  have e2 : a.size - 1 = ia := by omega
  simpa only [e2] using this
end
section
variable {prog : Program} {w : World} {A : Around} {E : Value → Shared → Prop} {s : Shared} {a b : Array Keyed} {st : SortSt}
theorem at_ {a : Array Keyed} {i : Nat} (h : i < a.size) : a[i]? = some a[i] := getElem?_pos a i h
theorem wpS_mergeLo {Q : Array Keyed → SortSt → Prop} (hO : κ.OneLt) (hk : kindOf st = oneType') (ga : ∀ x ∈ a.toList, Good κ x) (gb : ∀ x ∈ b.toList, Good κ x) (sa : Srt κ a.toList) (sb : Srt κ b.toList) (ha : 1 ≤ a.size) (hb : 1 ≤ b.size)
    (h0 : κ.kle (kk κ b[0]) (kk κ a[0])) (hl : ∀ y ∈ b.toList, ∀ q : a.size - 1 < a.size, κ.kle (kk κ y) (kk κ a[a.size - 1]))
    (h : ∀ r st', Same st st' → Mgd κ a b r → Q r st') : wpS (model prog w) A E s (mergeLoP a b) Q st := by
  have ga' : ∀ i (q : i < a.size), Good κ a[i] := fun i q => ga _ (by simp)
  have gb' : ∀ i (q : i < b.size), Good κ b[i] := fun i q => gb _ (by simp)
  refine wpS_bind (wpS_lift (wpAny_rule ⟨rfl, ?_⟩))
  refine wpS_bind (wpS_elem (at_ (by omega)) ?_)
  have I0 : LoI κ a b #[] 0 0 := ⟨by simp, .nil, fun x hx => by simp at hx, rfl⟩
  have I1 := I0.pushB sa sb (by omega) fun _ => h0
  dsimp only
  by_cases e1 : 1 = b.size
  · rw [if_pos (by simpa using e1)]
    exact wpS_pure (h _ _ (.refl _) (I1.done sa sb (.inr e1)))
  rw [if_neg (by simpa using e1)]
  by_cases e2 : 0 + 1 = a.size
  · rw [if_pos (by simpa using e2)]
    exact wpS_pure (h _ _ (.refl _) (I1.lastA sb e2 hl))
  rw [if_neg (by simpa using e2)]
  refine wpS_bind (wpS_get ?_)
  refine wpS_bind (wpS_mono (wpS_forRange
    (I := fun i c st' => Same st st' ∧ ∃ out ia ib mg, c = (none, out, ia, ib, mg) ∧ LoI κ a b out ia ib ∧ ia + 1 < a.size ∧ ib < b.size ∧ i + 1 ≤ out.size)
    (Q := fun c st' => Same st st' ∧ ∃ r x, c = (some r, x) ∧ Mgd κ a b r) ?_ ?_ ⟨.refl _, _, _, _, _, rfl, I1, by omega, by omega, by simp⟩) ?_)
  · rintro i c st' _ hi ⟨hS, out, ia, ib, mg, rfl, hI, b1, b2, b3⟩
    dsimp only
    refine wpS_bind (wpS_mono (wpS_forRange
      (I := fun j c st' => Same st st' ∧ ∃ out' ia ib ac bc, c = (none, out', ia, ib, ac, bc) ∧ LoI κ a b out' ia ib ∧ ia + 1 < a.size ∧ ib < b.size ∧ out.size + j ≤ out'.size)
      (Q := fun c st' => Same st st' ∧ ((∃ r x, c = (some r, x) ∧ Mgd κ a b r) ∨ ∃ out' ia ib ac bc, c = (none, out', ia, ib, ac, bc) ∧ LoI κ a b out' ia ib ∧ ia + 1 < a.size ∧ ib < b.size ∧ out.size + 1 ≤ out'.size)) ?_ ?_ ⟨hS, _, _, _, _, _, rfl, hI, b1, b2, by omega⟩) ?_)
    · rintro j c st' _ hj ⟨hS, out, ia, ib, ac, bc, rfl, hI, b1, b2, b3⟩
      dsimp only
      refine wpS_bind (wpS_elem (at_ b2) (wpS_bind (wpS_elem (at_ (by omega)) (wpS_bind (wpS_lt hO (hS.kind.trans hk) (gb' _ _) (ga' _ _) ?_)))))
      cases hlt : κ.blt (kk κ b[ib]) (kk κ a[ia]) with
      | true =>
        dsimp only
        rw [if_pos rfl]
        have J := hI.pushB sa sb b2 fun _ => KeyOrd.kle_of_klt hlt
        refine wpS_bind (wpS_elem (at_ b2) ?_)
        by_cases e3 : ib + 1 = b.size
        · rw [if_pos (by simpa using e3)]
          exact wpS_pure ⟨hS, .inl ⟨_, _, rfl, J.done sa sb (.inr e3)⟩⟩
        rw [if_neg (by simpa using e3)]
        split
        · exact wpS_pure ⟨hS, .inr ⟨_, _, _, _, _, rfl, J, b1, by omega, by rw [Array.size_push]; omega⟩⟩
        · exact wpS_pure ⟨hS, _, _, _, _, _, rfl, J, b1, by omega, by rw [Array.size_push]; omega⟩
      | false =>
        dsimp only
        rw [if_neg (by decide)]
        have J := hI.pushA sa sb (by omega) fun _ => hlt
        refine wpS_bind (wpS_elem (at_ (by omega)) ?_)
        by_cases e3 : ia + 1 + 1 = a.size
        · rw [if_pos (by simpa using e3)]
          exact wpS_pure ⟨hS, .inl ⟨_, _, rfl, J.lastA sb e3 hl⟩⟩
        rw [if_neg (by simpa using e3)]
        split
        · exact wpS_pure ⟨hS, .inr ⟨_, _, _, _, _, rfl, J, by omega, by omega, by rw [Array.size_push]; omega⟩⟩
        · exact wpS_pure ⟨hS, _, _, _, _, _, rfl, J, by omega, by omega, by rw [Array.size_push]; omega⟩
    · rintro c st' ⟨hS, out', ia, ib, ac, bc, rfl, hI, b1, b2, b3⟩
      exact ⟨hS, .inr ⟨_, _, _, _, _, rfl, hI, b1, b2, by omega⟩⟩
    · rintro c st' ⟨hS, ⟨r, x, rfl, hr⟩ | ⟨out', ia, ib, ac, bc, rfl, hI, b1, b2, b4⟩⟩
      · exact wpS_pure ⟨hS, _, _, rfl, hr⟩
      dsimp only
      refine wpS_bind (wpS_lift (wpAny_rule ⟨rfl, ?_⟩))
      refine wpS_bind (wpS_mono (wpS_forRange
        (I := fun j c st' => Same st st' ∧ ∃ out' ia ib mg ac bc, c = (none, out', ia, ib, mg, ac, bc) ∧ LoI κ a b out' ia ib ∧ ia + 1 < a.size ∧ ib < b.size ∧ out.size + 1 ≤ out'.size)
        (Q := fun c st' => Same st st' ∧ ((∃ r x, c = (some r, x) ∧ Mgd κ a b r) ∨ ∃ out' ia ib mg ac bc, c = (none, out', ia, ib, mg, ac, bc) ∧ LoI κ a b out' ia ib ∧ ia + 1 < a.size ∧ ib < b.size ∧ out.size + 1 ≤ out'.size)) ?_ ?_ ⟨hS, _, _, _, _, _, _, rfl, hI, b1, b2, b4⟩) ?_)
      · rintro j c st' _ hj ⟨hS, out', ia, ib, mg, ac, bc, rfl, hI, b1, b2, b4⟩
        dsimp only
        by_cases hmg : mg > 1
        · rw [if_pos hmg]
          refine wpS_bind (wpS_modify ?_)
          have hS : Same st (SortSt.mk' (kindOf st') (arrOf st') (pendingOf st') (mg - 1) (failedOf st')) := hS.trans ⟨rfl, rfl, rfl, rfl⟩
          refine wpS_bind (wpS_elem (at_ b2) (wpS_bind (wpS_gallopA hO (hS.kind.trans hk) (gb' _ _) (by omega) ga' (fun i j _ hij hj => sa.leA hij (by omega)) (by omega) fun k hkn hy hn => ?_)))
          dsimp only
          have J := hI.appA (k := k) sa sb (by omega) fun i hi q => by_ft (hy i hi)
          have hgt : ∀ q : ia + k < a.size, κ.kle (kk κ b[ib]) (kk κ a[ia + k]) := fun q => by_ff (hn k (Nat.le_refl _) (by omega))
          by_cases hk0 : k > 0
          · rw [if_pos hk0]
            by_cases e3 : ia + k + 1 = a.size
            · rw [if_pos (by simpa using e3)]
              exact wpS_pure ⟨hS, .inl ⟨_, _, rfl, J.lastA sb e3 hl⟩⟩
            rw [if_neg (by simpa using e3)]
            by_cases e4 : ia + k = a.size
            · rw [if_pos (by simpa using e4)]
              exact wpS_pure ⟨hS, .inl ⟨_, _, rfl, J.done sa sb (.inl e4)⟩⟩
            rw [if_neg (by simpa using e4)]
            have hz : out'.size ≤ (out' ++ a.extract ia (ia + k)).size := by rw [Array.size_append]; omega
            have J := J.pushB sa sb b2 fun q => hgt q
            refine wpS_bind (wpS_elem (at_ b2) ?_)
            by_cases e6 : ib + 1 = b.size
            · rw [if_pos (by simpa using e6)]
              exact wpS_pure ⟨hS, .inl ⟨_, _, rfl, J.done sa sb (.inr e6)⟩⟩
            rw [if_neg (by simpa using e6)]
            refine wpS_bind (wpS_elem (at_ (by omega)) (wpS_bind (wpS_gallopA hO (hS.kind.trans hk) (ga' _ _) (by omega) gb' (fun i j _ hij hj => sb.leA hij (by omega)) (by omega) fun k2 hkn2 hy2 hn2 => ?_)))
            dsimp only
            have J := J.appB (k := k2) sa sb (by omega) fun i hi q => by_tt (hy2 i hi)
            have hgt2 : ∀ q : ib + 1 + k2 < b.size, κ.kle (kk κ (a[ia + k]'(by omega))) (kk κ b[ib + 1 + k2]) := fun q => by_tf (hn2 k2 (Nat.le_refl _) (by omega))
            by_cases hk2 : k2 > 0
            · rw [if_pos hk2]
              by_cases e7 : ib + 1 + k2 = b.size
              · rw [if_pos (by simpa using e7)]
                exact wpS_pure ⟨hS, .inl ⟨_, _, rfl, J.done sa sb (.inr e7)⟩⟩
              rw [if_neg (by simpa using e7)]
              have J := J.pushA sa sb (by omega) hgt2
              have hz2 : (out' ++ a.extract ia (ia + k)).size + 1 ≤ (((out' ++ a.extract ia (ia + k)).push b[ib] ++ b.extract (ib + 1) (ib + 1 + k2)).push (a[ia + k]'(by omega))).size := by simp only [Array.size_push, Array.size_append]; omega
              refine wpS_bind (wpS_elem (at_ (by omega)) ?_)
              by_cases e8 : ia + k + 1 + 1 = a.size
              · rw [if_pos (by simpa using e8)]
                exact wpS_pure ⟨hS, .inl ⟨_, _, rfl, J.lastA sb e8 hl⟩⟩
              rw [if_neg (by simpa using e8)]
              cases (decide (k < 7) && decide (k2 < 7)) with
              | true =>
                rw [if_pos rfl]
                exact wpS_pure ⟨hS, .inr ⟨_, _, _, _, _, _, rfl, J, by omega, by omega, by omega⟩⟩
              | false =>
                rw [if_neg (by decide)]
                exact wpS_pure ⟨hS, _, _, _, _, _, _, rfl, J, by omega, by omega, by omega⟩
            · rw [if_neg hk2]
              obtain rfl : k2 = 0 := by omega
              have e9 : b.extract (ib + 1) (ib + 1 + 0) = #[] := by apply Array.ext'; simp
              rw [e9, Array.append_empty] at J
              have J := J.pushA sa sb (by omega) hgt2
              have hz2 : (out' ++ a.extract ia (ia + k)).size + 1 ≤ (((out' ++ a.extract ia (ia + k)).push b[ib]).push (a[ia + k]'(by omega))).size := by simp only [Array.size_push]; omega
              refine wpS_bind (wpS_elem (at_ (by omega)) ?_)
              by_cases e8 : ia + k + 1 + 1 = a.size
              · rw [if_pos (by simpa using e8)]
                exact wpS_pure ⟨hS, .inl ⟨_, _, rfl, J.lastA sb e8 hl⟩⟩
              rw [if_neg (by simpa using e8)]
              cases (decide (k < 7) && decide (0 < 7)) with
              | true =>
                rw [if_pos rfl]
                exact wpS_pure ⟨hS, .inr ⟨_, _, _, _, _, _, rfl, J, by omega, by omega, by omega⟩⟩
              | false =>
                rw [if_neg (by decide)]
                exact wpS_pure ⟨hS, _, _, _, _, _, _, rfl, J, by omega, by omega, by omega⟩
          · rw [if_neg hk0]
            obtain rfl : k = 0 := by omega
            have e5 : a.extract ia (ia + 0) = #[] := by apply Array.ext'; simp
            rw [e5, Array.append_empty] at J
            have hz : out'.size ≤ out'.size := Nat.le_refl _
            have J := J.pushB sa sb b2 fun q => hgt q
            refine wpS_bind (wpS_elem (at_ b2) ?_)
            by_cases e6 : ib + 1 = b.size
            · rw [if_pos (by simpa using e6)]
              exact wpS_pure ⟨hS, .inl ⟨_, _, rfl, J.done sa sb (.inr e6)⟩⟩
            rw [if_neg (by simpa using e6)]
            refine wpS_bind (wpS_elem (at_ (by omega)) (wpS_bind (wpS_gallopA hO (hS.kind.trans hk) (ga' _ _) (by omega) gb' (fun i j _ hij hj => sb.leA hij (by omega)) (by omega) fun k2 hkn2 hy2 hn2 => ?_)))
            dsimp only
            have J := J.appB (k := k2) sa sb (by omega) fun i hi q => by_tt (hy2 i hi)
            have hgt2 : ∀ q : ib + 1 + k2 < b.size, κ.kle (kk κ (a[ia]'(by omega))) (kk κ b[ib + 1 + k2]) := fun q => by_tf (hn2 k2 (Nat.le_refl _) (by omega))
            by_cases hk2 : k2 > 0
            · rw [if_pos hk2]
              by_cases e7 : ib + 1 + k2 = b.size
              · rw [if_pos (by simpa using e7)]
                exact wpS_pure ⟨hS, .inl ⟨_, _, rfl, J.done sa sb (.inr e7)⟩⟩
              rw [if_neg (by simpa using e7)]
              have J := J.pushA sa sb (by omega) hgt2
              have hz2 : (out').size + 1 ≤ (((out').push b[ib] ++ b.extract (ib + 1) (ib + 1 + k2)).push (a[ia]'(by omega))).size := by simp only [Array.size_push, Array.size_append]; omega
              refine wpS_bind (wpS_elem (at_ (by omega)) ?_)
              by_cases e8 : ia + 1 + 1 = a.size
              · rw [if_pos (by simpa using e8)]
                exact wpS_pure ⟨hS, .inl ⟨_, _, rfl, J.lastA sb e8 hl⟩⟩
              rw [if_neg (by simpa using e8)]
              cases (decide (0 < 7) && decide (k2 < 7)) with
              | true =>
                rw [if_pos rfl]
                exact wpS_pure ⟨hS, .inr ⟨_, _, _, _, _, _, rfl, J, by omega, by omega, by omega⟩⟩
              | false =>
                rw [if_neg (by decide)]
                exact wpS_pure ⟨hS, _, _, _, _, _, _, rfl, J, by omega, by omega, by omega⟩
            · rw [if_neg hk2]
              obtain rfl : k2 = 0 := by omega
              have e9 : b.extract (ib + 1) (ib + 1 + 0) = #[] := by apply Array.ext'; simp
              rw [e9, Array.append_empty] at J
              have J := J.pushA sa sb (by omega) hgt2
              have hz2 : (out').size + 1 ≤ (((out').push b[ib]).push (a[ia]'(by omega))).size := by simp only [Array.size_push]; omega
              refine wpS_bind (wpS_elem (at_ (by omega)) ?_)
              by_cases e8 : ia + 1 + 1 = a.size
              · rw [if_pos (by simpa using e8)]
                exact wpS_pure ⟨hS, .inl ⟨_, _, rfl, J.lastA sb e8 hl⟩⟩
              rw [if_neg (by simpa using e8)]
              cases (decide (0 < 7) && decide (0 < 7)) with
              | true =>
                rw [if_pos rfl]
                exact wpS_pure ⟨hS, .inr ⟨_, _, _, _, _, _, rfl, J, by omega, by omega, by omega⟩⟩
              | false =>
                rw [if_neg (by decide)]
                exact wpS_pure ⟨hS, _, _, _, _, _, _, rfl, J, by omega, by omega, by omega⟩
        · rw [if_neg hmg]
          refine wpS_bind (wpS_modify ?_)
          have hS : Same st (SortSt.mk' (kindOf st') (arrOf st') (pendingOf st') mg (failedOf st')) := hS.trans ⟨rfl, rfl, rfl, rfl⟩
          refine wpS_bind (wpS_elem (at_ b2) (wpS_bind (wpS_gallopA hO (hS.kind.trans hk) (gb' _ _) (by omega) ga' (fun i j _ hij hj => sa.leA hij (by omega)) (by omega) fun k hkn hy hn => ?_)))
          dsimp only
          have J := hI.appA (k := k) sa sb (by omega) fun i hi q => by_ft (hy i hi)
          have hgt : ∀ q : ia + k < a.size, κ.kle (kk κ b[ib]) (kk κ a[ia + k]) := fun q => by_ff (hn k (Nat.le_refl _) (by omega))
          by_cases hk0 : k > 0
          · rw [if_pos hk0]
            by_cases e3 : ia + k + 1 = a.size
            · rw [if_pos (by simpa using e3)]
              exact wpS_pure ⟨hS, .inl ⟨_, _, rfl, J.lastA sb e3 hl⟩⟩
            rw [if_neg (by simpa using e3)]
            by_cases e4 : ia + k = a.size
            · rw [if_pos (by simpa using e4)]
              exact wpS_pure ⟨hS, .inl ⟨_, _, rfl, J.done sa sb (.inl e4)⟩⟩
            rw [if_neg (by simpa using e4)]
            have hz : out'.size ≤ (out' ++ a.extract ia (ia + k)).size := by rw [Array.size_append]; omega
            have J := J.pushB sa sb b2 fun q => hgt q
            refine wpS_bind (wpS_elem (at_ b2) ?_)
            by_cases e6 : ib + 1 = b.size
            · rw [if_pos (by simpa using e6)]
              exact wpS_pure ⟨hS, .inl ⟨_, _, rfl, J.done sa sb (.inr e6)⟩⟩
            rw [if_neg (by simpa using e6)]
            refine wpS_bind (wpS_elem (at_ (by omega)) (wpS_bind (wpS_gallopA hO (hS.kind.trans hk) (ga' _ _) (by omega) gb' (fun i j _ hij hj => sb.leA hij (by omega)) (by omega) fun k2 hkn2 hy2 hn2 => ?_)))
            dsimp only
            have J := J.appB (k := k2) sa sb (by omega) fun i hi q => by_tt (hy2 i hi)
            have hgt2 : ∀ q : ib + 1 + k2 < b.size, κ.kle (kk κ (a[ia + k]'(by omega))) (kk κ b[ib + 1 + k2]) := fun q => by_tf (hn2 k2 (Nat.le_refl _) (by omega))
            by_cases hk2 : k2 > 0
            · rw [if_pos hk2]
              by_cases e7 : ib + 1 + k2 = b.size
              · rw [if_pos (by simpa using e7)]
                exact wpS_pure ⟨hS, .inl ⟨_, _, rfl, J.done sa sb (.inr e7)⟩⟩
              rw [if_neg (by simpa using e7)]
              have J := J.pushA sa sb (by omega) hgt2
              have hz2 : (out' ++ a.extract ia (ia + k)).size + 1 ≤ (((out' ++ a.extract ia (ia + k)).push b[ib] ++ b.extract (ib + 1) (ib + 1 + k2)).push (a[ia + k]'(by omega))).size := by simp only [Array.size_push, Array.size_append]; omega
              refine wpS_bind (wpS_elem (at_ (by omega)) ?_)
              by_cases e8 : ia + k + 1 + 1 = a.size
              · rw [if_pos (by simpa using e8)]
                exact wpS_pure ⟨hS, .inl ⟨_, _, rfl, J.lastA sb e8 hl⟩⟩
              rw [if_neg (by simpa using e8)]
              cases (decide (k < 7) && decide (k2 < 7)) with
              | true =>
                rw [if_pos rfl]
                exact wpS_pure ⟨hS, .inr ⟨_, _, _, _, _, _, rfl, J, by omega, by omega, by omega⟩⟩
              | false =>
                rw [if_neg (by decide)]
                exact wpS_pure ⟨hS, _, _, _, _, _, _, rfl, J, by omega, by omega, by omega⟩
            · rw [if_neg hk2]
              obtain rfl : k2 = 0 := by omega
              have e9 : b.extract (ib + 1) (ib + 1 + 0) = #[] := by apply Array.ext'; simp
              rw [e9, Array.append_empty] at J
              have J := J.pushA sa sb (by omega) hgt2
              have hz2 : (out' ++ a.extract ia (ia + k)).size + 1 ≤ (((out' ++ a.extract ia (ia + k)).push b[ib]).push (a[ia + k]'(by omega))).size := by simp only [Array.size_push]; omega
              refine wpS_bind (wpS_elem (at_ (by omega)) ?_)
              by_cases e8 : ia + k + 1 + 1 = a.size
              · rw [if_pos (by simpa using e8)]
                exact wpS_pure ⟨hS, .inl ⟨_, _, rfl, J.lastA sb e8 hl⟩⟩
              rw [if_neg (by simpa using e8)]
              cases (decide (k < 7) && decide (0 < 7)) with
              | true =>
                rw [if_pos rfl]
                exact wpS_pure ⟨hS, .inr ⟨_, _, _, _, _, _, rfl, J, by omega, by omega, by omega⟩⟩
              | false =>
                rw [if_neg (by decide)]
                exact wpS_pure ⟨hS, _, _, _, _, _, _, rfl, J, by omega, by omega, by omega⟩
          · rw [if_neg hk0]
            obtain rfl : k = 0 := by omega
            have e5 : a.extract ia (ia + 0) = #[] := by apply Array.ext'; simp
            rw [e5, Array.append_empty] at J
            have hz : out'.size ≤ out'.size := Nat.le_refl _
            have J := J.pushB sa sb b2 fun q => hgt q
            refine wpS_bind (wpS_elem (at_ b2) ?_)
            by_cases e6 : ib + 1 = b.size
            · rw [if_pos (by simpa using e6)]
              exact wpS_pure ⟨hS, .inl ⟨_, _, rfl, J.done sa sb (.inr e6)⟩⟩
            rw [if_neg (by simpa using e6)]
            refine wpS_bind (wpS_elem (at_ (by omega)) (wpS_bind (wpS_gallopA hO (hS.kind.trans hk) (ga' _ _) (by omega) gb' (fun i j _ hij hj => sb.leA hij (by omega)) (by omega) fun k2 hkn2 hy2 hn2 => ?_)))
            dsimp only
            have J := J.appB (k := k2) sa sb (by omega) fun i hi q => by_tt (hy2 i hi)
            have hgt2 : ∀ q : ib + 1 + k2 < b.size, κ.kle (kk κ (a[ia]'(by omega))) (kk κ b[ib + 1 + k2]) := fun q => by_tf (hn2 k2 (Nat.le_refl _) (by omega))
            by_cases hk2 : k2 > 0
            · rw [if_pos hk2]
              by_cases e7 : ib + 1 + k2 = b.size
              · rw [if_pos (by simpa using e7)]
                exact wpS_pure ⟨hS, .inl ⟨_, _, rfl, J.done sa sb (.inr e7)⟩⟩
              rw [if_neg (by simpa using e7)]
              have J := J.pushA sa sb (by omega) hgt2
              have hz2 : (out').size + 1 ≤ (((out').push b[ib] ++ b.extract (ib + 1) (ib + 1 + k2)).push (a[ia]'(by omega))).size := by simp only [Array.size_push, Array.size_append]; omega
              refine wpS_bind (wpS_elem (at_ (by omega)) ?_)
              by_cases e8 : ia + 1 + 1 = a.size
              · rw [if_pos (by simpa using e8)]
                exact wpS_pure ⟨hS, .inl ⟨_, _, rfl, J.lastA sb e8 hl⟩⟩
              rw [if_neg (by simpa using e8)]
              cases (decide (0 < 7) && decide (k2 < 7)) with
              | true =>
                rw [if_pos rfl]
                exact wpS_pure ⟨hS, .inr ⟨_, _, _, _, _, _, rfl, J, by omega, by omega, by omega⟩⟩
              | false =>
                rw [if_neg (by decide)]
                exact wpS_pure ⟨hS, _, _, _, _, _, _, rfl, J, by omega, by omega, by omega⟩
            · rw [if_neg hk2]
              obtain rfl : k2 = 0 := by omega
              have e9 : b.extract (ib + 1) (ib + 1 + 0) = #[] := by apply Array.ext'; simp
              rw [e9, Array.append_empty] at J
              have J := J.pushA sa sb (by omega) hgt2
              have hz2 : (out').size + 1 ≤ (((out').push b[ib]).push (a[ia]'(by omega))).size := by simp only [Array.size_push]; omega
              refine wpS_bind (wpS_elem (at_ (by omega)) ?_)
              by_cases e8 : ia + 1 + 1 = a.size
              · rw [if_pos (by simpa using e8)]
                exact wpS_pure ⟨hS, .inl ⟨_, _, rfl, J.lastA sb e8 hl⟩⟩
              rw [if_neg (by simpa using e8)]
              cases (decide (0 < 7) && decide (0 < 7)) with
              | true =>
                rw [if_pos rfl]
                exact wpS_pure ⟨hS, .inr ⟨_, _, _, _, _, _, rfl, J, by omega, by omega, by omega⟩⟩
              | false =>
                rw [if_neg (by decide)]
                exact wpS_pure ⟨hS, _, _, _, _, _, _, rfl, J, by omega, by omega, by omega⟩
      · rintro c st' ⟨hS, out', ia, ib, mg, ac, bc, rfl, hI, b1, b2, b4⟩
        exact ⟨hS, .inr ⟨_, _, _, _, _, _, rfl, hI, b1, b2, b4⟩⟩
      · rintro c st' ⟨hS, ⟨r, x, rfl, hr⟩ | ⟨out', ia, ib, mg, ac, bc, rfl, hI, b1, b2, b4⟩⟩
        · exact wpS_pure ⟨hS, _, _, rfl, hr⟩
        dsimp only
        refine wpS_bind (wpS_modify (wpS_pure ⟨hS.trans ⟨rfl, rfl, rfl, rfl⟩, _, _, _, _, rfl, hI, b1, b2, by omega⟩))
  · rintro c st' ⟨hS, out, ia, ib, mg, rfl, hI, b1, b2, b3⟩
    exfalso
    have := hI.size
    omega
  · rintro c st' ⟨hS, r, x, rfl, hr⟩
    exact wpS_pure (h _ _ hS hr)
end
end DescLaw
end
section
open PySem PyProof.Rows
set_option Elab.async false
set_option maxRecDepth 100000
set_option linter.unusedSimpArgs false
namespace DescLaw
/-! sorting: two stretches are merged, from the high end -/
def mergeHiP : Array Keyed → Array Keyed → SM (Array Keyed) := sortPriv% PySem.Builtin.mergeHi
variable {κ : PyProof.Rows.KeyKind}
theorem Srt.cons {l : List Keyed} {x : Keyed} (h : Srt κ l) (hx : ∀ y ∈ l, κ.kle (kk κ x) (kk κ y)) : Srt κ (x :: l) := List.pairwise_cons.mpr ⟨hx, h⟩
theorem take_at {a : Array Keyed} {i : Nat} (h : i < a.size) : a.toList.take (i + 1) = a.toList.take i ++ [a[i]] := by
  rw [List.take_add_one]
  simp [h]
theorem ext_take {a : Array Keyed} {i : Nat} : (a.extract 0 i).toList = a.toList.take i := by
  rw [Array.toList_extract]; simp
structure HiI (κ : PyProof.Rows.KeyKind) (a b out : Array Keyed) (na nb : Nat) : Prop where
  perm : ((a.toList.take na ++ b.toList.take nb) ++ out.toList.reverse).Perm (a.toList ++ b.toList)
  srt : Srt κ out.toList.reverse
  cross : ∀ x ∈ out.toList, ∀ y ∈ a.toList.take na ++ b.toList.take nb, κ.kle (kk κ y) (kk κ x)
  size : out.size + na + nb = a.size + b.size
section
variable {a b out : Array Keyed} {na nb k : Nat}
theorem HiI.pushA (h : HiI κ a b out (na + 1) nb) (sa : Srt κ a.toList) (sb : Srt κ b.toList) (ha : na < a.size) (hnb : nb ≤ b.size) (hle : ∀ q : 0 < nb, κ.kle (kk κ (b[nb - 1]'(by omega))) (kk κ a[na])) : HiI κ a b (out.push a[na]) na nb := by
  obtain ⟨h1, h2, h3, h4⟩ := h
  rw [take_at ha] at h1 h3
  refine ⟨?_, ?_, fun x hx y hy => ?_, by rw [Array.size_push]; omega⟩
  · rw [Array.toList_push, List.reverse_append]
    refine .trans ?_ h1
    show ((_ ++ _) ++ (a[na] :: out.toList.reverse)).Perm _
    rw [List.append_assoc, List.append_assoc, List.append_assoc]
    refine List.Perm.append_left _ ?_
    show (_ ++ (a[na] :: _)).Perm (a[na] :: (_ ++ _))
    exact List.perm_middle
  · rw [Array.toList_push, List.reverse_append]
    exact h2.cons fun y hy => h3 y (List.mem_reverse.mp hy) _ (List.mem_append_left _ (List.mem_append_right _ (.head _)))
  · rw [Array.toList_push] at hx
    rcases List.mem_append.mp hx with hx | hx
    · exact h3 x hx y (List.mem_append.mpr ((List.mem_append.mp hy).imp (List.mem_append_left _) id))
    · rw [List.mem_singleton.mp hx]
      rcases List.mem_append.mp hy with hy | hy
      · obtain ⟨j, hj, rfl⟩ := List.mem_take_iff_getElem.mp hy
        have hj : j < na := by have := hj; omega
        have := sa.leA (i := j) (j := na) (by omega) ha
        simpa using this
      · obtain ⟨j, hj, rfl⟩ := List.mem_take_iff_getElem.mp hy
        have hj : j < nb := by have := hj; omega
        have := sb.leA (i := j) (j := nb - 1) (by omega) (by omega)
        simpa using KeyOrd.kle_trans this (hle (by omega))
theorem HiI.pushB (h : HiI κ a b out na (nb + 1)) (sa : Srt κ a.toList) (sb : Srt κ b.toList) (hb : nb < b.size) (hna : na ≤ a.size) (hle : ∀ q : 0 < na, κ.kle (kk κ (a[na - 1]'(by omega))) (kk κ b[nb])) : HiI κ a b (out.push b[nb]) na nb := by
  obtain ⟨h1, h2, h3, h4⟩ := h
  rw [take_at hb] at h1 h3
  refine ⟨?_, ?_, fun x hx y hy => ?_, by rw [Array.size_push]; omega⟩
  · rw [Array.toList_push, List.reverse_append]
    refine .trans ?_ h1
    show ((_ ++ _) ++ (b[nb] :: out.toList.reverse)).Perm _
    rw [List.append_assoc, List.append_assoc, List.append_assoc]
    exact .refl _
  · rw [Array.toList_push, List.reverse_append]
    exact h2.cons fun y hy => h3 y (List.mem_reverse.mp hy) _ (List.mem_append_right _ (List.mem_append_right _ (.head _)))
  · rw [Array.toList_push] at hx
    rcases List.mem_append.mp hx with hx | hx
    · exact h3 x hx y (List.mem_append.mpr ((List.mem_append.mp hy).imp id (List.mem_append_left _)))
    · rw [List.mem_singleton.mp hx]
      rcases List.mem_append.mp hy with hy | hy
      · obtain ⟨j, hj, rfl⟩ := List.mem_take_iff_getElem.mp hy
        have hj : j < na := by have := hj; omega
        have := sa.leA (i := j) (j := na - 1) (by omega) (by omega)
        simpa using KeyOrd.kle_trans this (hle (by omega))
      · obtain ⟨j, hj, rfl⟩ := List.mem_take_iff_getElem.mp hy
        have hj : j < nb := by have := hj; omega
        have := sb.leA (i := j) (j := nb) (by omega) hb
        simpa using this
theorem rev_ext {a : Array Keyed} {i k : Nat} (h : i + k < a.size) : out ++ (a.extract i (i + (k + 1))).reverse = out.push a[i + k] ++ (a.extract i (i + k)).reverse := by
  rw [ext_succ h]
  apply Array.ext'
  rw [Array.toList_append, Array.toList_reverse, Array.toList_push, List.reverse_append, Array.toList_append, Array.toList_push, Array.toList_reverse, List.append_assoc]
  rfl
theorem HiI.appA (h : HiI κ a b out (na + k) nb) (sa : Srt κ a.toList) (sb : Srt κ b.toList) (ha : na + k ≤ a.size) (hnb : nb ≤ b.size) (hle : ∀ i (hi : i < k) (q : 0 < nb), κ.kle (kk κ (b[nb - 1]'(by omega))) (kk κ (a[na + i]'(by omega)))) : HiI κ a b (out ++ (a.extract na (na + k)).reverse) na nb := by
  induction k generalizing out with
  | zero =>
    have e : a.extract na (na + 0) = #[] := by apply Array.ext'; simp
    rw [e]; simpa using h
  | succ k ih =>
    rw [rev_ext (a := a) (i := na) (k := k) (by omega)]
    exact ih (HiI.pushA (na := na + k) h sa sb (by omega) hnb fun q => hle k (by omega) q) (by omega) fun i hi q => hle i (by omega) q
theorem HiI.appB (h : HiI κ a b out na (nb + k)) (sa : Srt κ a.toList) (sb : Srt κ b.toList) (hb : nb + k ≤ b.size) (hna : na ≤ a.size) (hle : ∀ i (hi : i < k) (q : 0 < na), κ.kle (kk κ (a[na - 1]'(by omega))) (kk κ (b[nb + i]'(by omega)))) : HiI κ a b (out ++ (b.extract nb (nb + k)).reverse) na nb := by
  induction k generalizing out with
  | zero =>
    have e : b.extract nb (nb + 0) = #[] := by apply Array.ext'; simp
    rw [e]; simpa using h
  | succ k ih =>
    rw [rev_ext (a := b) (i := nb) (k := k) (by omega)]
    exact ih (HiI.pushB (nb := nb + k) h sa sb (by omega) hna fun q => hle k (by omega) q) (by omega) fun i hi q => hle i (by omega) q
theorem HiI.done (h : HiI κ a b out na nb) (sa : Srt κ a.toList) (sb : Srt κ b.toList) (hx : na = 0 ∨ nb = 0) : Mgd κ a b (a.extract 0 na ++ b.extract 0 nb ++ out.reverse) := by
  obtain ⟨h1, h2, h3, h4⟩ := h
  refine ⟨by rw [Array.toList_append, Array.toList_append, ext_take, ext_take, Array.toList_reverse]; exact h1, ?_⟩
  rw [Array.toList_append, Array.toList_append, ext_take, ext_take, Array.toList_reverse]
  refine List.pairwise_append.mpr ⟨?_, h2, fun x hx y hy => h3 y (List.mem_reverse.mp hy) x hx⟩
  rcases hx with rfl | rfl
  · rw [List.take_zero, List.nil_append]; exact sb.take _
  · rw [List.take_zero, List.append_nil]; exact sa.take _
theorem HiI.firstB (h : HiI κ a b out na 1) (sa : Srt κ a.toList) (hb : 0 < b.size) (h0 : ∀ x ∈ a.toList, κ.kle (kk κ b[0]) (kk κ x)) : Mgd κ a b (b.extract 0 1 ++ a.extract 0 na ++ out.reverse) := by
  obtain ⟨h1, h2, h3, h4⟩ := h
  refine ⟨?_, ?_⟩
  · rw [Array.toList_append, Array.toList_append, ext_take, ext_take, Array.toList_reverse]
    exact (List.Perm.append_right _ List.perm_append_comm).trans h1
  rw [Array.toList_append, Array.toList_append, ext_take, ext_take, Array.toList_reverse]
  refine List.pairwise_append.mpr ⟨?_, h2, fun x hx y hy => h3 y (List.mem_reverse.mp hy) x (List.mem_append.mpr (List.mem_append.mp hx).symm)⟩
  have e : b.toList.take 1 = [b[0]] := by rw [take_at hb]; simp
  rw [e]
  exact (sa.take _).cons fun y hy => h0 y (List.mem_of_mem_take hy)
end
section
variable {prog : Program} {w : World} {A : Around} {E : Value → Shared → Prop} {s : Shared} {a b : Array Keyed} {st : SortSt}
theorem wpS_mergeHi {Q : Array Keyed → SortSt → Prop} (hO : κ.OneLt) (hk : kindOf st = oneType') (ga : ∀ x ∈ a.toList, Good κ x) (gb : ∀ x ∈ b.toList, Good κ x) (sa : Srt κ a.toList) (sb : Srt κ b.toList) (ha : 1 ≤ a.size) (hb : 1 ≤ b.size)
    (h0 : ∀ x ∈ a.toList, κ.kle (kk κ b[0]) (kk κ x)) (hl : κ.kle (kk κ (b[b.size - 1]'(by omega))) (kk κ (a[a.size - 1]'(by omega))))
    (h : ∀ r st', Same st st' → Mgd κ a b r → Q r st') : wpS (model prog w) A E s (mergeHiP a b) Q st := by
  have ga' : ∀ i (q : i < a.size), Good κ a[i] := fun i q => ga _ (by simp)
  have gb' : ∀ i (q : i < b.size), Good κ b[i] := fun i q => gb _ (by simp)
  refine wpS_bind (wpS_lift (wpAny_rule ⟨rfl, ?_⟩))
  refine wpS_bind (wpS_elem (at_ (by omega)) ?_)
  have I0 : HiI κ a b #[] (a.size - 1 + 1) b.size := ⟨by rw [List.take_of_length_le (l := a.toList) (by simp; omega), List.take_of_length_le (l := b.toList) (by simp)]; simp, .nil, fun x hx => by simp at hx, by simp; omega⟩
  have I1 := I0.pushA sa sb (by omega) (Nat.le_refl _) fun _ => hl
  dsimp only
  by_cases e1 : a.size - 1 = 0
  · rw [if_pos (by simpa using e1)]
    exact wpS_pure (h _ _ (.refl _) (I1.done sa sb (.inl e1)))
  rw [if_neg (by simpa using e1)]
  by_cases e2 : b.size = 1
  · rw [if_pos (by simpa using e2)]
    rw [e2] at I1
    refine wpS_pure (h _ _ (.refl _) ?_)
    rw [e2]
    exact I1.firstB sa (by omega) h0
  rw [if_neg (by simpa using e2)]
  refine wpS_bind (wpS_get ?_)
  refine wpS_bind (wpS_mono (wpS_forRange
    (I := fun i c st' => Same st st' ∧ ∃ na nb out mg, c = (none, na, nb, out, mg) ∧ HiI κ a b out na nb ∧ 1 ≤ na ∧ na ≤ a.size ∧ 2 ≤ nb ∧ nb ≤ b.size ∧ i + 1 ≤ out.size)
    (Q := fun c st' => Same st st' ∧ ∃ r x, c = (some r, x) ∧ Mgd κ a b r) ?_ ?_ ⟨.refl _, _, _, _, _, rfl, I1, by omega, by omega, by omega, by omega, by simp⟩) ?_)
  · rintro i c st' _ hi ⟨hS, na, nb, out, mg, rfl, hI, b1, b5, b2, b6, b3⟩
    dsimp only
    refine wpS_bind (wpS_mono (wpS_forRange
      (I := fun j c st' => Same st st' ∧ ∃ na nb out' ac bc, c = (none, na, nb, out', ac, bc) ∧ HiI κ a b out' na nb ∧ 1 ≤ na ∧ na ≤ a.size ∧ 2 ≤ nb ∧ nb ≤ b.size ∧ out.size + j ≤ out'.size)
      (Q := fun c st' => Same st st' ∧ ((∃ r x, c = (some r, x) ∧ Mgd κ a b r) ∨ ∃ na nb out' ac bc, c = (none, na, nb, out', ac, bc) ∧ HiI κ a b out' na nb ∧ 1 ≤ na ∧ na ≤ a.size ∧ 2 ≤ nb ∧ nb ≤ b.size ∧ out.size + 1 ≤ out'.size)) ?_ ?_ ⟨hS, _, _, _, _, _, rfl, hI, b1, b5, b2, b6, by omega⟩) ?_)
    · rintro j c st' _ hj ⟨hS, na, nb, out, ac, bc, rfl, hI, b1, b5, b2, b6, b3⟩
      dsimp only
      obtain ⟨na, rfl⟩ : ∃ x, na = x + 1 := ⟨na - 1, by omega⟩
      obtain ⟨nb, rfl⟩ : ∃ x, nb = x + 1 := ⟨nb - 1, by omega⟩
      simp only [Nat.add_sub_cancel]
      refine wpS_bind (wpS_elem (at_ (by omega)) (wpS_bind (wpS_elem (at_ (by omega)) (wpS_bind (wpS_lt hO (hS.kind.trans hk) (gb' _ _) (ga' _ _) ?_)))))
      cases hlt : κ.blt (kk κ b[nb]) (kk κ a[na]) with
      | true =>
        dsimp only
        rw [if_pos rfl]
        have J := hI.pushA sa sb (by omega) b6 fun _ => KeyOrd.kle_of_klt hlt
        refine wpS_bind (wpS_elem (at_ (by omega)) ?_)
        by_cases e3 : na = 0
        · rw [if_pos (by simpa using e3)]
          exact wpS_pure ⟨hS, .inl ⟨_, _, rfl, J.done sa sb (.inl e3)⟩⟩
        rw [if_neg (by simpa using e3)]
        split
        · exact wpS_pure ⟨hS, .inr ⟨_, _, _, _, _, rfl, J, by omega, by omega, b2, b6, by rw [Array.size_push]; omega⟩⟩
        · exact wpS_pure ⟨hS, _, _, _, _, _, rfl, J, by omega, by omega, b2, b6, by rw [Array.size_push]; omega⟩
      | false =>
        dsimp only
        rw [if_neg (by decide)]
        have J := hI.pushB sa sb (by omega) b5 fun _ => hlt
        refine wpS_bind (wpS_elem (at_ (by omega)) ?_)
        by_cases e3 : nb = 1
        · rw [if_pos (by simpa using e3)]
          subst e3
          exact wpS_pure ⟨hS, .inl ⟨_, _, rfl, J.firstB sa (by omega) h0⟩⟩
        rw [if_neg (by simpa using e3)]
        split
        · exact wpS_pure ⟨hS, .inr ⟨_, _, _, _, _, rfl, J, by omega, by omega, by omega, by omega, by rw [Array.size_push]; omega⟩⟩
        · exact wpS_pure ⟨hS, _, _, _, _, _, rfl, J, by omega, by omega, by omega, by omega, by rw [Array.size_push]; omega⟩
    · rintro c st' ⟨hS, na, nb, out', ac, bc, rfl, hI, b1, b5, b2, b6, b3⟩
      exact ⟨hS, .inr ⟨_, _, _, _, _, rfl, hI, b1, b5, b2, b6, by omega⟩⟩
    · rintro c st' ⟨hS, ⟨r, x, rfl, hr⟩ | ⟨na, nb, out', ac, bc, rfl, hI, b1, b5, b2, b6, b4⟩⟩
      · exact wpS_pure ⟨hS, _, _, rfl, hr⟩
      dsimp only
      refine wpS_bind (wpS_lift (wpAny_rule ⟨rfl, ?_⟩))
      refine wpS_bind (wpS_mono (wpS_forRange
        (I := fun j c st' => Same st st' ∧ ∃ na nb out' mg ac bc, c = (none, na, nb, out', mg, ac, bc) ∧ HiI κ a b out' na nb ∧ 1 ≤ na ∧ na ≤ a.size ∧ 2 ≤ nb ∧ nb ≤ b.size ∧ out.size + 1 ≤ out'.size)
        (Q := fun c st' => Same st st' ∧ ((∃ r x, c = (some r, x) ∧ Mgd κ a b r) ∨ ∃ na nb out' mg ac bc, c = (none, na, nb, out', mg, ac, bc) ∧ HiI κ a b out' na nb ∧ 1 ≤ na ∧ na ≤ a.size ∧ 2 ≤ nb ∧ nb ≤ b.size ∧ out.size + 1 ≤ out'.size)) ?_ ?_ ⟨hS, _, _, _, _, _, _, rfl, hI, b1, b5, b2, b6, b4⟩) ?_)
      · rintro j c st' _ hj ⟨hS, na, nb, out', mg, ac, bc, rfl, hI, b1, b5, b2, b6, b4⟩
        dsimp only
        obtain ⟨nb, rfl⟩ : ∃ x, nb = x + 1 := ⟨nb - 1, by omega⟩
        by_cases hmg : mg > 1
        · rw [if_pos hmg]
          refine wpS_bind (wpS_modify ?_)
          have hS : Same st (SortSt.mk' (kindOf st') (arrOf st') (pendingOf st') (mg - 1) (failedOf st')) := hS.trans ⟨rfl, rfl, rfl, rfl⟩
          simp only [Nat.add_sub_cancel]
          refine wpS_bind (wpS_elem (at_ (by omega)) (wpS_bind (wpS_gallopA hO (hS.kind.trans hk) (gb' _ _) (by omega) ga' (fun i j _ hij hj => sa.leA hij (by omega)) (by omega) fun at1 hkn hy hn => ?_)))
          dsimp only
          obtain ⟨k, rfl⟩ : ∃ k, na = at1 + k := ⟨na - at1, by omega⟩
          simp only [Nat.zero_add] at hy hn
          have J := hI.appA (na := at1) (k := k) sa sb (by omega) b6 fun i hi q => by_ff (hn (at1 + i) (by omega) (by omega))
          have hgt : ∀ q : 0 < at1, κ.kle (kk κ (a[at1 - 1]'(by omega))) (kk κ b[nb]) := fun q => by_ft (hy (at1 - 1) (by omega))
          rw [show at1 + k - at1 = k by omega]
          by_cases hk0 : k > 0
          · rw [if_pos hk0]
            by_cases e3 : at1 = 0
            · rw [if_pos (by simpa using e3)]
              exact wpS_pure ⟨hS, .inl ⟨_, _, rfl, J.done sa sb (.inl e3)⟩⟩
            rw [if_neg (by simpa using e3)]
            have J := J.pushB sa sb (by omega) (by omega) fun q => hgt q
            refine wpS_bind (wpS_elem (at_ (by omega)) ?_)
            by_cases e6 : nb = 1
            · rw [if_pos (by simpa using e6)]
              subst e6
              exact wpS_pure ⟨hS, .inl ⟨_, _, rfl, J.firstB sa (by omega) h0⟩⟩
            rw [if_neg (by simpa using e6)]
            obtain ⟨nx, rfl⟩ : ∃ x, at1 = x + 1 := ⟨at1 - 1, by omega⟩
            simp only [Nat.add_sub_cancel, Nat.add_zero]
            refine wpS_bind (wpS_elem (at_ (by omega)) (wpS_bind (wpS_gallopA hO (hS.kind.trans hk) (ga' _ _) (by omega) gb' (fun i j _ hij hj => sb.leA hij (by omega)) (by omega) fun at2 hkn2 hy2 hn2 => ?_)))
            dsimp only
            obtain ⟨k2, rfl⟩ : ∃ k, nb = at2 + k := ⟨nb - at2, by omega⟩
            simp only [Nat.zero_add] at hy2 hn2
            have J := J.appB (nb := at2) (k := k2) sa sb (by omega) (by omega) fun i hi q => by_tf (hn2 (at2 + i) (by omega) (by omega))
            have hgt2 : ∀ q : 0 < at2, κ.kle (kk κ (b[at2 - 1]'(by omega))) (kk κ (a[nx]'(by omega))) := fun q => by_tt (hy2 (at2 - 1) (by omega))
            rw [show at2 + k2 - at2 = k2 by omega]
            by_cases hk2 : k2 > 0
            · rw [if_pos hk2]
              by_cases e7 : at2 = 1
              · rw [if_pos (by simpa using e7)]
                subst e7
                exact wpS_pure ⟨hS, .inl ⟨_, _, rfl, J.firstB sa (by omega) h0⟩⟩
              rw [if_neg (by simpa using e7)]
              by_cases e8 : at2 = 0
              · rw [if_pos (by simpa using e8)]
                exact wpS_pure ⟨hS, .inl ⟨_, _, rfl, J.done sa sb (.inr e8)⟩⟩
              rw [if_neg (by simpa using e8)]
              have J := J.pushA sa sb (by omega) (by omega) hgt2
              have hz2 : out'.size + 1 ≤ (((out' ++ (a.extract (nx + 1) ((nx + 1) + k)).reverse).push (b[at2 + k2]'(by omega)) ++ (b.extract at2 (at2 + k2)).reverse).push (a[nx]'(by omega))).size := by simp only [Array.size_push, Array.size_append]; omega
              refine wpS_bind (wpS_elem (at_ (by omega)) ?_)
              by_cases e9 : nx = 0
              · rw [if_pos (by simpa using e9)]
                exact wpS_pure ⟨hS, .inl ⟨_, _, rfl, J.done sa sb (.inl e9)⟩⟩
              rw [if_neg (by simpa using e9)]
              cases (decide (k < 7) && decide (k2 < 7)) with
              | true =>
                rw [if_pos rfl]
                exact wpS_pure ⟨hS, .inr ⟨_, _, _, _, _, _, rfl, J, by omega, by omega, by omega, by omega, by omega⟩⟩
              | false =>
                rw [if_neg (by decide)]
                exact wpS_pure ⟨hS, _, _, _, _, _, _, rfl, J, by omega, by omega, by omega, by omega, by omega⟩
            · rw [if_neg hk2]
              obtain rfl : k2 = 0 := by omega
              have e10 : (b.extract at2 (at2 + 0)).reverse = #[] := by apply Array.ext'; simp
              rw [e10, Array.append_empty] at J
              have J := J.pushA sa sb (by omega) (by omega) hgt2
              have hz2 : out'.size + 1 ≤ (((out' ++ (a.extract (nx + 1) ((nx + 1) + k)).reverse).push (b[at2 + 0]'(by omega))).push (a[nx]'(by omega))).size := by simp only [Array.size_push, Array.size_append]; omega
              refine wpS_bind (wpS_elem (at_ (by omega)) ?_)
              by_cases e9 : nx = 0
              · rw [if_pos (by simpa using e9)]
                exact wpS_pure ⟨hS, .inl ⟨_, _, rfl, J.done sa sb (.inl e9)⟩⟩
              rw [if_neg (by simpa using e9)]
              cases (decide (k < 7) && decide (0 < 7)) with
              | true =>
                rw [if_pos rfl]
                exact wpS_pure ⟨hS, .inr ⟨_, _, _, _, _, _, rfl, J, by omega, by omega, by omega, by omega, by omega⟩⟩
              | false =>
                rw [if_neg (by decide)]
                exact wpS_pure ⟨hS, _, _, _, _, _, _, rfl, J, by omega, by omega, by omega, by omega, by omega⟩
          · rw [if_neg hk0]
            obtain rfl : k = 0 := by omega
            have e5 : (a.extract at1 (at1 + 0)).reverse = #[] := by apply Array.ext'; simp
            rw [e5, Array.append_empty] at J
            have e3 : at1 ≠ 0 := by omega
            have J := J.pushB sa sb (by omega) (by omega) fun q => hgt q
            refine wpS_bind (wpS_elem (at_ (by omega)) ?_)
            by_cases e6 : nb = 1
            · rw [if_pos (by simpa using e6)]
              subst e6
              exact wpS_pure ⟨hS, .inl ⟨_, _, rfl, J.firstB sa (by omega) h0⟩⟩
            rw [if_neg (by simpa using e6)]
            obtain ⟨nx, rfl⟩ : ∃ x, at1 = x + 1 := ⟨at1 - 1, by omega⟩
            simp only [Nat.add_sub_cancel, Nat.add_zero]
            refine wpS_bind (wpS_elem (at_ (by omega)) (wpS_bind (wpS_gallopA hO (hS.kind.trans hk) (ga' _ _) (by omega) gb' (fun i j _ hij hj => sb.leA hij (by omega)) (by omega) fun at2 hkn2 hy2 hn2 => ?_)))
            dsimp only
            obtain ⟨k2, rfl⟩ : ∃ k, nb = at2 + k := ⟨nb - at2, by omega⟩
            simp only [Nat.zero_add] at hy2 hn2
            have J := J.appB (nb := at2) (k := k2) sa sb (by omega) (by omega) fun i hi q => by_tf (hn2 (at2 + i) (by omega) (by omega))
            have hgt2 : ∀ q : 0 < at2, κ.kle (kk κ (b[at2 - 1]'(by omega))) (kk κ (a[nx]'(by omega))) := fun q => by_tt (hy2 (at2 - 1) (by omega))
            rw [show at2 + k2 - at2 = k2 by omega]
            by_cases hk2 : k2 > 0
            · rw [if_pos hk2]
              by_cases e7 : at2 = 1
              · rw [if_pos (by simpa using e7)]
                subst e7
                exact wpS_pure ⟨hS, .inl ⟨_, _, rfl, J.firstB sa (by omega) h0⟩⟩
              rw [if_neg (by simpa using e7)]
              by_cases e8 : at2 = 0
              · rw [if_pos (by simpa using e8)]
                exact wpS_pure ⟨hS, .inl ⟨_, _, rfl, J.done sa sb (.inr e8)⟩⟩
              rw [if_neg (by simpa using e8)]
              have J := J.pushA sa sb (by omega) (by omega) hgt2
              have hz2 : out'.size + 1 ≤ (((out').push (b[at2 + k2]'(by omega)) ++ (b.extract at2 (at2 + k2)).reverse).push (a[nx]'(by omega))).size := by simp only [Array.size_push, Array.size_append]; omega
              refine wpS_bind (wpS_elem (at_ (by omega)) ?_)
              by_cases e9 : nx = 0
              · rw [if_pos (by simpa using e9)]
                exact wpS_pure ⟨hS, .inl ⟨_, _, rfl, J.done sa sb (.inl e9)⟩⟩
              rw [if_neg (by simpa using e9)]
              cases (decide (0 < 7) && decide (k2 < 7)) with
              | true =>
                rw [if_pos rfl]
                exact wpS_pure ⟨hS, .inr ⟨_, _, _, _, _, _, rfl, J, by omega, by omega, by omega, by omega, by omega⟩⟩
              | false =>
                rw [if_neg (by decide)]
                exact wpS_pure ⟨hS, _, _, _, _, _, _, rfl, J, by omega, by omega, by omega, by omega, by omega⟩
            · rw [if_neg hk2]
              obtain rfl : k2 = 0 := by omega
              have e10 : (b.extract at2 (at2 + 0)).reverse = #[] := by apply Array.ext'; simp
              rw [e10, Array.append_empty] at J
              have J := J.pushA sa sb (by omega) (by omega) hgt2
              have hz2 : out'.size + 1 ≤ (((out').push (b[at2 + 0]'(by omega))).push (a[nx]'(by omega))).size := by simp only [Array.size_push, Array.size_append]; omega
              refine wpS_bind (wpS_elem (at_ (by omega)) ?_)
              by_cases e9 : nx = 0
              · rw [if_pos (by simpa using e9)]
                exact wpS_pure ⟨hS, .inl ⟨_, _, rfl, J.done sa sb (.inl e9)⟩⟩
              rw [if_neg (by simpa using e9)]
              cases (decide (0 < 7) && decide (0 < 7)) with
              | true =>
                rw [if_pos rfl]
                exact wpS_pure ⟨hS, .inr ⟨_, _, _, _, _, _, rfl, J, by omega, by omega, by omega, by omega, by omega⟩⟩
              | false =>
                rw [if_neg (by decide)]
                exact wpS_pure ⟨hS, _, _, _, _, _, _, rfl, J, by omega, by omega, by omega, by omega, by omega⟩
        · rw [if_neg hmg]
          refine wpS_bind (wpS_modify ?_)
          have hS : Same st (SortSt.mk' (kindOf st') (arrOf st') (pendingOf st') (mg) (failedOf st')) := hS.trans ⟨rfl, rfl, rfl, rfl⟩
          simp only [Nat.add_sub_cancel]
          refine wpS_bind (wpS_elem (at_ (by omega)) (wpS_bind (wpS_gallopA hO (hS.kind.trans hk) (gb' _ _) (by omega) ga' (fun i j _ hij hj => sa.leA hij (by omega)) (by omega) fun at1 hkn hy hn => ?_)))
          dsimp only
          obtain ⟨k, rfl⟩ : ∃ k, na = at1 + k := ⟨na - at1, by omega⟩
          simp only [Nat.zero_add] at hy hn
          have J := hI.appA (na := at1) (k := k) sa sb (by omega) b6 fun i hi q => by_ff (hn (at1 + i) (by omega) (by omega))
          have hgt : ∀ q : 0 < at1, κ.kle (kk κ (a[at1 - 1]'(by omega))) (kk κ b[nb]) := fun q => by_ft (hy (at1 - 1) (by omega))
          rw [show at1 + k - at1 = k by omega]
          by_cases hk0 : k > 0
          · rw [if_pos hk0]
            by_cases e3 : at1 = 0
            · rw [if_pos (by simpa using e3)]
              exact wpS_pure ⟨hS, .inl ⟨_, _, rfl, J.done sa sb (.inl e3)⟩⟩
            rw [if_neg (by simpa using e3)]
            have J := J.pushB sa sb (by omega) (by omega) fun q => hgt q
            refine wpS_bind (wpS_elem (at_ (by omega)) ?_)
            by_cases e6 : nb = 1
            · rw [if_pos (by simpa using e6)]
              subst e6
              exact wpS_pure ⟨hS, .inl ⟨_, _, rfl, J.firstB sa (by omega) h0⟩⟩
            rw [if_neg (by simpa using e6)]
            obtain ⟨nx, rfl⟩ : ∃ x, at1 = x + 1 := ⟨at1 - 1, by omega⟩
            simp only [Nat.add_sub_cancel, Nat.add_zero]
            refine wpS_bind (wpS_elem (at_ (by omega)) (wpS_bind (wpS_gallopA hO (hS.kind.trans hk) (ga' _ _) (by omega) gb' (fun i j _ hij hj => sb.leA hij (by omega)) (by omega) fun at2 hkn2 hy2 hn2 => ?_)))
            dsimp only
            obtain ⟨k2, rfl⟩ : ∃ k, nb = at2 + k := ⟨nb - at2, by omega⟩
            simp only [Nat.zero_add] at hy2 hn2
            have J := J.appB (nb := at2) (k := k2) sa sb (by omega) (by omega) fun i hi q => by_tf (hn2 (at2 + i) (by omega) (by omega))
            have hgt2 : ∀ q : 0 < at2, κ.kle (kk κ (b[at2 - 1]'(by omega))) (kk κ (a[nx]'(by omega))) := fun q => by_tt (hy2 (at2 - 1) (by omega))
            rw [show at2 + k2 - at2 = k2 by omega]
            by_cases hk2 : k2 > 0
            · rw [if_pos hk2]
              by_cases e7 : at2 = 1
              · rw [if_pos (by simpa using e7)]
                subst e7
                exact wpS_pure ⟨hS, .inl ⟨_, _, rfl, J.firstB sa (by omega) h0⟩⟩
              rw [if_neg (by simpa using e7)]
              by_cases e8 : at2 = 0
              · rw [if_pos (by simpa using e8)]
                exact wpS_pure ⟨hS, .inl ⟨_, _, rfl, J.done sa sb (.inr e8)⟩⟩
              rw [if_neg (by simpa using e8)]
              have J := J.pushA sa sb (by omega) (by omega) hgt2
              have hz2 : out'.size + 1 ≤ (((out' ++ (a.extract (nx + 1) ((nx + 1) + k)).reverse).push (b[at2 + k2]'(by omega)) ++ (b.extract at2 (at2 + k2)).reverse).push (a[nx]'(by omega))).size := by simp only [Array.size_push, Array.size_append]; omega
              refine wpS_bind (wpS_elem (at_ (by omega)) ?_)
              by_cases e9 : nx = 0
              · rw [if_pos (by simpa using e9)]
                exact wpS_pure ⟨hS, .inl ⟨_, _, rfl, J.done sa sb (.inl e9)⟩⟩
              rw [if_neg (by simpa using e9)]
              cases (decide (k < 7) && decide (k2 < 7)) with
              | true =>
                rw [if_pos rfl]
                exact wpS_pure ⟨hS, .inr ⟨_, _, _, _, _, _, rfl, J, by omega, by omega, by omega, by omega, by omega⟩⟩
              | false =>
                rw [if_neg (by decide)]
                exact wpS_pure ⟨hS, _, _, _, _, _, _, rfl, J, by omega, by omega, by omega, by omega, by omega⟩
            · rw [if_neg hk2]
              obtain rfl : k2 = 0 := by omega
              have e10 : (b.extract at2 (at2 + 0)).reverse = #[] := by apply Array.ext'; simp
              rw [e10, Array.append_empty] at J
              have J := J.pushA sa sb (by omega) (by omega) hgt2
              have hz2 : out'.size + 1 ≤ (((out' ++ (a.extract (nx + 1) ((nx + 1) + k)).reverse).push (b[at2 + 0]'(by omega))).push (a[nx]'(by omega))).size := by simp only [Array.size_push, Array.size_append]; omega
              refine wpS_bind (wpS_elem (at_ (by omega)) ?_)
              by_cases e9 : nx = 0
              · rw [if_pos (by simpa using e9)]
                exact wpS_pure ⟨hS, .inl ⟨_, _, rfl, J.done sa sb (.inl e9)⟩⟩
              rw [if_neg (by simpa using e9)]
              cases (decide (k < 7) && decide (0 < 7)) with
              | true =>
                rw [if_pos rfl]
                exact wpS_pure ⟨hS, .inr ⟨_, _, _, _, _, _, rfl, J, by omega, by omega, by omega, by omega, by omega⟩⟩
              | false =>
                rw [if_neg (by decide)]
                exact wpS_pure ⟨hS, _, _, _, _, _, _, rfl, J, by omega, by omega, by omega, by omega, by omega⟩
          · rw [if_neg hk0]
            obtain rfl : k = 0 := by omega
            have e5 : (a.extract at1 (at1 + 0)).reverse = #[] := by apply Array.ext'; simp
            rw [e5, Array.append_empty] at J
            have e3 : at1 ≠ 0 := by omega
            have J := J.pushB sa sb (by omega) (by omega) fun q => hgt q
            refine wpS_bind (wpS_elem (at_ (by omega)) ?_)
            by_cases e6 : nb = 1
            · rw [if_pos (by simpa using e6)]
              subst e6
              exact wpS_pure ⟨hS, .inl ⟨_, _, rfl, J.firstB sa (by omega) h0⟩⟩
            rw [if_neg (by simpa using e6)]
            obtain ⟨nx, rfl⟩ : ∃ x, at1 = x + 1 := ⟨at1 - 1, by omega⟩
            simp only [Nat.add_sub_cancel, Nat.add_zero]
            refine wpS_bind (wpS_elem (at_ (by omega)) (wpS_bind (wpS_gallopA hO (hS.kind.trans hk) (ga' _ _) (by omega) gb' (fun i j _ hij hj => sb.leA hij (by omega)) (by omega) fun at2 hkn2 hy2 hn2 => ?_)))
            dsimp only
            obtain ⟨k2, rfl⟩ : ∃ k, nb = at2 + k := ⟨nb - at2, by omega⟩
            simp only [Nat.zero_add] at hy2 hn2
            have J := J.appB (nb := at2) (k := k2) sa sb (by omega) (by omega) fun i hi q => by_tf (hn2 (at2 + i) (by omega) (by omega))
            have hgt2 : ∀ q : 0 < at2, κ.kle (kk κ (b[at2 - 1]'(by omega))) (kk κ (a[nx]'(by omega))) := fun q => by_tt (hy2 (at2 - 1) (by omega))
            rw [show at2 + k2 - at2 = k2 by omega]
            by_cases hk2 : k2 > 0
            · rw [if_pos hk2]
              by_cases e7 : at2 = 1
              · rw [if_pos (by simpa using e7)]
                subst e7
                exact wpS_pure ⟨hS, .inl ⟨_, _, rfl, J.firstB sa (by omega) h0⟩⟩
              rw [if_neg (by simpa using e7)]
              by_cases e8 : at2 = 0
              · rw [if_pos (by simpa using e8)]
                exact wpS_pure ⟨hS, .inl ⟨_, _, rfl, J.done sa sb (.inr e8)⟩⟩
              rw [if_neg (by simpa using e8)]
              have J := J.pushA sa sb (by omega) (by omega) hgt2
              have hz2 : out'.size + 1 ≤ (((out').push (b[at2 + k2]'(by omega)) ++ (b.extract at2 (at2 + k2)).reverse).push (a[nx]'(by omega))).size := by simp only [Array.size_push, Array.size_append]; omega
              refine wpS_bind (wpS_elem (at_ (by omega)) ?_)
              by_cases e9 : nx = 0
              · rw [if_pos (by simpa using e9)]
                exact wpS_pure ⟨hS, .inl ⟨_, _, rfl, J.done sa sb (.inl e9)⟩⟩
              rw [if_neg (by simpa using e9)]
              cases (decide (0 < 7) && decide (k2 < 7)) with
              | true =>
                rw [if_pos rfl]
                exact wpS_pure ⟨hS, .inr ⟨_, _, _, _, _, _, rfl, J, by omega, by omega, by omega, by omega, by omega⟩⟩
              | false =>
                rw [if_neg (by decide)]
                exact wpS_pure ⟨hS, _, _, _, _, _, _, rfl, J, by omega, by omega, by omega, by omega, by omega⟩
            · rw [if_neg hk2]
              obtain rfl : k2 = 0 := by omega
              have e10 : (b.extract at2 (at2 + 0)).reverse = #[] := by apply Array.ext'; simp
              rw [e10, Array.append_empty] at J
              have J := J.pushA sa sb (by omega) (by omega) hgt2
              have hz2 : out'.size + 1 ≤ (((out').push (b[at2 + 0]'(by omega))).push (a[nx]'(by omega))).size := by simp only [Array.size_push, Array.size_append]; omega
              refine wpS_bind (wpS_elem (at_ (by omega)) ?_)
              by_cases e9 : nx = 0
              · rw [if_pos (by simpa using e9)]
                exact wpS_pure ⟨hS, .inl ⟨_, _, rfl, J.done sa sb (.inl e9)⟩⟩
              rw [if_neg (by simpa using e9)]
              cases (decide (0 < 7) && decide (0 < 7)) with
              | true =>
                rw [if_pos rfl]
                exact wpS_pure ⟨hS, .inr ⟨_, _, _, _, _, _, rfl, J, by omega, by omega, by omega, by omega, by omega⟩⟩
              | false =>
                rw [if_neg (by decide)]
                exact wpS_pure ⟨hS, _, _, _, _, _, _, rfl, J, by omega, by omega, by omega, by omega, by omega⟩
      · rintro c st' ⟨hS, na, nb, out', mg, ac, bc, rfl, hI, b1, b5, b2, b6, b4⟩
        exact ⟨hS, .inr ⟨_, _, _, _, _, _, rfl, hI, b1, b5, b2, b6, b4⟩⟩
      · rintro c st' ⟨hS, ⟨r, x, rfl, hr⟩ | ⟨na, nb, out', mg, ac, bc, rfl, hI, b1, b5, b2, b6, b4⟩⟩
        · exact wpS_pure ⟨hS, _, _, rfl, hr⟩
        dsimp only
        refine wpS_bind (wpS_modify (wpS_pure ⟨hS.trans ⟨rfl, rfl, rfl, rfl⟩, _, _, _, _, rfl, hI, b1, b5, b2, b6, by omega⟩))
  · rintro c st' ⟨hS, na, nb, out, mg, rfl, hI, b1, b5, b2, b6, b3⟩
    exfalso
    have := hI.size
    omega
  · rintro c st' ⟨hS, r, x, rfl, hr⟩
    exact wpS_pure (h _ _ hS hr)
end
end DescLaw
end
section
open PySem PyProof.Rows
set_option Elab.async false
set_option maxRecDepth 100000
namespace DescLaw
/-! sorting: a run is found, or made, from any place on -/
variable {κ : PyProof.Rows.KeyKind}
structure SB (a₀ : Array Keyed) (pd : Array (Nat × Nat × Nat)) (st : SortSt) : Prop where
  perm : (arrOf st).Perm a₀
  kind : kindOf st = oneType'
  failed : failedOf st = none
  pend : pendingOf st = pd
theorem SB.size {a₀ : Array Keyed} {pd} {st : SortSt} (h : SB a₀ pd st) : (arrOf st).size = a₀.size := h.perm.size_eq
theorem SB.setArr {a₀ : Array Keyed} {pd} {st : SortSt} (h : SB a₀ pd st) {xs : Array Keyed} (hp : xs.Perm (arrOf st)) : SB a₀ pd (setArr st xs) := ⟨hp.trans h.perm, h.kind, h.failed, h.pend⟩
theorem SB.good {a₀ : Array Keyed} {pd} {st : SortSt} (h : SB a₀ pd st) (h0 : KeysOf κ a₀) {p : Keyed} (hp : p ∈ (arrOf st).toList) : Good κ p := h0 p ((Array.perm_iff_toList_perm.mp h.perm).mem_iff.mp hp)
def SOn (κ : PyProof.Rows.KeyKind) (xs : Array Keyed) (lo m : Nat) : Prop := ∀ i j, lo ≤ i → i ≤ j → j < m → κ.kle (KK κ xs i) (KK κ xs j)
def NOn (κ : PyProof.Rows.KeyKind) (xs : Array Keyed) (lo m : Nat) : Prop := ∀ i j, lo ≤ i → i ≤ j → j < m → κ.kle (KK κ xs j) (KK κ xs i)
def Kept (κ : PyProof.Rows.KeyKind) (lo : Nat) (xs ys : Array Keyed) : Prop := ∀ i, i < lo → KK κ ys i = KK κ xs i
theorem SOn.one (xs : Array Keyed) (lo : Nat) : SOn κ xs lo (lo + 1) := fun i j h1 h2 h3 => by
  obtain rfl : i = j := by omega
  exact KeyOrd.kle_refl _
theorem SOn.succ {xs : Array Keyed} {lo m : Nat} (h : SOn κ xs lo m) (hm : lo < m) (hl : κ.kle (KK κ xs (m - 1)) (KK κ xs m)) : SOn κ xs lo (m + 1) := fun i j h1 h2 h3 => by
  by_cases hj : j < m
  · exact h i j h1 h2 hj
  · obtain rfl : j = m := by omega
    by_cases hi : i = j
    · subst hi; exact KeyOrd.kle_refl _
    · exact KeyOrd.kle_trans (h i (j - 1) h1 (by omega) (by omega)) hl
theorem NOn.succ {xs : Array Keyed} {lo m : Nat} (h : NOn κ xs lo m) (hm : lo < m) (hl : κ.kle (KK κ xs m) (KK κ xs (m - 1))) : NOn κ xs lo (m + 1) := fun i j h1 h2 h3 => by
  by_cases hj : j < m
  · exact h i j h1 h2 hj
  · obtain rfl : j = m := by omega
    by_cases hi : i = j
    · subst hi; exact KeyOrd.kle_refl _
    · exact KeyOrd.kle_trans hl (h i (j - 1) h1 (by omega) (by omega))
section
variable {prog : Program} {w : World} {A : Around} {E : Value → Shared → Prop} {s : Shared} {a₀ : Array Keyed} {pd : Array (Nat × Nat × Nat)} {st : SortSt} {lo nrem : Nat}
theorem wpS_ltI {i j : Nat} {Q : Option Bool → SortSt → Prop} (hO : κ.OneLt) (hB : SB a₀ pd st) (h0 : KeysOf κ a₀) (hi : i < a₀.size) (hj : j < a₀.size)
    (h : Q (some (κ.blt (KK κ (arrOf st) i) (KK κ (arrOf st) j))) st) : wpS (model prog w) A E s (ltAt' i j) Q st := by
  have hi' : i < (arrOf st).size := by rw [hB.size]; exact hi
  have hj' : j < (arrOf st).size := by rw [hB.size]; exact hj
  obtain ⟨a, ha⟩ := hB.good h0 (p := (arrOf st)[i]) (by simp)
  obtain ⟨b, hb⟩ := hB.good h0 (p := (arrOf st)[j]) (by simp)
  have e1 := KK_at (κ := κ) (at_ hi')
  have e2 := KK_at (κ := κ) (at_ hj')
  rw [e1, e2, kk_of ha, kk_of hb] at h
  exact wpS_ltAtK hO hB.kind (at_ hi') (at_ hj') ha hb h
theorem wpS_asc {a : Nat} {f : Nat → (Option (Option Nat) × Nat) → SM (ForInStep (Option (Option Nat) × Nat))} {Q : (Option (Option Nat) × Nat) → SortSt → Prop} (ha : 1 ≤ a) (han : a ≤ nrem) (hn : lo + nrem ≤ a₀.size)
    (hf : ∀ i n (Q' : ForInStep (Option (Option Nat) × Nat) → SortSt → Prop), 1 ≤ n → lo + n < a₀.size → Q' (if κ.blt (KK κ (arrOf st) (lo + n)) (KK κ (arrOf st) (lo + n - 1)) = true then .done (none, n) else .yield (none, n + 1)) st → wpS (model prog w) A E s (f i (none, n)) Q' st)
    (hs : SOn κ (arrOf st) lo (lo + a)) (h : ∀ n, a ≤ n → n ≤ nrem → SOn κ (arrOf st) lo (lo + n) → (n = nrem ∨ κ.klt (KK κ (arrOf st) (lo + n)) (KK κ (arrOf st) (lo + n - 1))) → Q (none, n) st) :
    wpS (model prog w) A E s (forIn [a:nrem] (none, a) f) Q st := by
  refine wpS_forRange (I := fun x c st' => st' = st ∧ c = (none, x) ∧ SOn κ (arrOf st) lo (lo + x)) ?_ ?_ ⟨rfl, rfl, hs⟩
  · rintro x c st' hx hxn ⟨rfl, rfl, hs⟩
    refine hf x x _ (by omega) (by omega) ?_
    cases hlt : κ.blt (KK κ (arrOf st') (lo + x)) (KK κ (arrOf st') (lo + x - 1)) with
    | true => rw [if_pos rfl]; exact h x hx (by omega) hs (.inr hlt)
    | false => rw [if_neg (by decide)]; exact ⟨rfl, rfl, hs.succ (by omega) hlt⟩
  · rintro c st' ⟨rfl, rfl, hs⟩
    rw [show max a nrem = nrem by omega] at hs ⊢
    exact h nrem han (Nat.le_refl _) hs (.inl rfl)
theorem wpS_run {Q : Option Nat → SortSt → Prop} (hO : κ.OneLt) (h0 : KeysOf κ a₀) (hn : lo + nrem ≤ a₀.size) (h1 : 1 ≤ nrem) (hB : SB a₀ pd st)
    (h : ∀ m st', SB a₀ pd st' → Kept κ lo (arrOf st) (arrOf st') → 1 ≤ m → m ≤ nrem → SOn κ (arrOf st') lo (lo + m) → Q (some m) st') : wpS (model prog w) A E s (countRun' lo nrem) Q st := by
  refine wpS_bind (wpS_asc (κ := κ) (a₀ := a₀) (Nat.le_refl 1) h1 hn (fun i n Q' hn1 hn2 hq => ?_) (SOn.one _ _) fun n hn1 hn2 hs hor => ?_)
  · refine wpS_bind (wpS_ltI hO hB h0 hn2 (by omega) ?_)
    cases hb : κ.blt (KK κ (arrOf st) (lo + n)) (KK κ (arrOf st) (lo + n - 1)) with
    | true => rw [hb, if_pos rfl] at hq; exact wpS_pure hq
    | false => rw [hb, if_neg (by decide)] at hq; exact wpS_pure hq
  dsimp only
  by_cases hnn : n = nrem
  · rw [if_pos (by simpa using hnn)]
    exact wpS_pure (h n st hB (fun _ _ => rfl) hn1 hn2 hs)
  rw [if_neg (by simpa using hnn)]
  have hlt : κ.klt (KK κ (arrOf st) (lo + n)) (KK κ (arrOf st) (lo + n - 1)) := hor.resolve_left hnn
  have hsz : lo + n ≤ (arrOf st).size := by rw [hB.size]; omega
  by_cases hgt : n > 1
  · rw [if_pos hgt]
    refine wpS_bind (wpS_ltI hO hB h0 (by omega) (by omega) ?_)
    cases hrose : κ.blt (KK κ (arrOf st) lo) (KK κ (arrOf st) (lo + n - 1)) with
    | true =>
      dsimp only
      rw [if_pos rfl]
      exact wpS_pure (h n st hB (fun _ _ => rfl) hn1 hn2 hs)
    | false =>
      dsimp only
      rw [if_neg (by decide)]
      have hall : ∀ k, lo ≤ k → k < lo + n → KK κ (arrOf st) k = KK κ (arrOf st) (lo + n - 1) := by
        intro k hk1 hk2
        have a1 := hs lo k (Nat.le_refl _) hk1 hk2
        have a2 := hs k (lo + n - 1) hk1 (by omega) (by omega)
        exact KeyOrd.kle_antisymm a2 (KeyOrd.kle_trans hrose a1)
      refine wpS_bind (wpS_reverse ?_)
      obtain ⟨st1, hst1⟩ : ∃ x, x = setArr st (mirror (arrOf st) lo (lo + n) ((lo + n - lo) / 2)) := ⟨_, rfl⟩
      rw [← hst1]
      have hB1 : SB a₀ pd st1 := by rw [hst1]; exact hB.setArr (mirror_perm (arrOf st) lo (lo + n) ((lo + n - lo) / 2))
      have e1 : ∀ k, KK κ (arrOf st1) k = KK κ (arrOf st) k := by rw [hst1]; exact KK_mirror_equal hsz hall
      have hK1 : Kept κ lo (arrOf st) (arrOf st1) := fun i _ => e1 i
      have hN1 : NOn κ (arrOf st1) lo (lo + (n + 1)) := by
        refine NOn.succ (m := lo + n) (fun i j g1 g2 g3 => ?_) (by omega) ?_
        · rw [e1, e1, hall i g1 (by omega), hall j (by omega) g3]; exact KeyOrd.kle_refl _
        · rw [e1, e1]; exact KeyOrd.kle_of_klt hlt
      refine wpS_bind (wpS_lift (wpAny_rule ⟨rfl, ?_⟩))
      refine wpS_bind (wpS_mono (wpS_forRange
        (I := fun x c st' => ∃ neq, c = (none, x, neq) ∧ SB a₀ pd st' ∧ Kept κ lo (arrOf st) (arrOf st') ∧ NOn κ (arrOf st') lo (lo + x) ∧ neq + 1 ≤ x ∧ (∀ i, lo + x - (neq + 1) ≤ i → i < lo + x → KK κ (arrOf st') i = KK κ (arrOf st') (lo + x - 1)))
        (Q := fun c st' => ∃ m neq, c = (none, m, neq) ∧ n + 1 ≤ m ∧ m ≤ nrem ∧ SB a₀ pd st' ∧ Kept κ lo (arrOf st) (arrOf st') ∧ NOn κ (arrOf st') lo (lo + m) ∧ neq + 1 ≤ m ∧ (∀ i, lo + m - (neq + 1) ≤ i → i < lo + m → KK κ (arrOf st') i = KK κ (arrOf st') (lo + m - 1)))
        ?_ ?_ ⟨0, rfl, hB1, hK1, hN1, by omega, fun i g1 g2 => by congr 1; omega⟩) ?_)
      · rintro x c st' hx hxn ⟨neq, rfl, hB', hK', hN', hq, he⟩
        dsimp only
        have hsz : lo + x ≤ (arrOf st').size := by rw [hB'.size]; omega
        refine wpS_bind (wpS_ltI hO hB' h0 (by omega) (by omega) ?_)
        cases hless : κ.blt (KK κ (arrOf st') (lo + x)) (KK κ (arrOf st') (lo + x - 1)) with
        | true =>
          dsimp only
          rw [if_pos rfl]
          by_cases hneq : neq > 0
          · rw [if_pos hneq]
            have e2 : ∀ k, KK κ (mirror (arrOf st') (lo + x - (neq + 1)) (lo + x) ((lo + x - (lo + x - (neq + 1))) / 2)) k = KK κ (arrOf st') k := KK_mirror_equal hsz he
            refine wpS_bind (wpS_reverse (wpS_pure ⟨0, rfl, hB'.setArr (mirror_perm _ _ _ _), fun i hi => (e2 i).trans (hK' i hi), ?_, by omega, fun i g1 g2 => by congr 1; omega⟩))
            refine NOn.succ (m := lo + x) (fun i j g1 g2 g3 => ?_) (by omega) ?_
            · show κ.kle (KK κ (mirror _ _ _ _) j) (KK κ (mirror _ _ _ _) i)
              rw [e2, e2]; exact hN' i j g1 g2 g3
            · show κ.kle (KK κ (mirror _ _ _ _) _) (KK κ (mirror _ _ _ _) _)
              rw [e2, e2]; exact KeyOrd.kle_of_klt hless
          · rw [if_neg hneq]
            exact wpS_pure ⟨0, rfl, hB', hK', hN'.succ (m := lo + x) (by omega) (KeyOrd.kle_of_klt hless), by omega, fun i g1 g2 => by congr 1; omega⟩
        | false =>
          dsimp only
          rw [if_neg (by decide)]
          refine wpS_bind (wpS_ltI hO hB' h0 (by omega) (by omega) ?_)
          cases hlarger : κ.blt (KK κ (arrOf st') (lo + x - 1)) (KK κ (arrOf st') (lo + x)) with
          | true =>
            dsimp only
            rw [if_pos rfl]
            exact wpS_pure ⟨x, neq, rfl, hx, by omega, hB', hK', hN', hq, he⟩
          | false =>
            dsimp only
            rw [if_neg (by decide)]
            have heqx : KK κ (arrOf st') (lo + x) = KK κ (arrOf st') (lo + x - 1) := KeyOrd.kle_antisymm hlarger hless
            refine wpS_pure ⟨neq + 1, rfl, hB', hK', hN'.succ (m := lo + x) (by omega) hlarger, by omega, fun i g1 g2 => ?_⟩
            rw [show lo + (x + 1) - 1 = lo + x by omega]
            by_cases hix : i = lo + x
            · subst hix; rfl
            · rw [heqx]; exact he i (by omega) (by omega)
      · rintro c st' ⟨neq, rfl, hB', hK', hN', hq, he⟩
        rw [show max (n + 1) nrem = nrem by omega] at hN' hq he ⊢
        exact ⟨nrem, neq, rfl, by omega, Nat.le_refl _, hB', hK', hN', hq, he⟩
      · rintro c st2 ⟨m, neq, rfl, hm1, hm2, hB2, hK2, hN2, hq, he⟩
        dsimp only
        have hsz2 : lo + m ≤ (arrOf st2).size := by rw [hB2.size]; omega
        by_cases hneq : neq > 0
        · rw [if_pos hneq]
          refine wpS_bind (wpS_reverse ?_)
          have e2 : ∀ k, KK κ (mirror (arrOf st2) (lo + m - (neq + 1)) (lo + m) ((lo + m - (lo + m - (neq + 1))) / 2)) k = KK κ (arrOf st2) k := KK_mirror_equal hsz2 he
          obtain ⟨st3, hst3⟩ : ∃ x, x = setArr st2 (mirror (arrOf st2) (lo + m - (neq + 1)) (lo + m) ((lo + m - (lo + m - (neq + 1))) / 2)) := ⟨_, rfl⟩
          rw [← hst3]
          have hB3 : SB a₀ pd st3 := by rw [hst3]; exact hB2.setArr (mirror_perm _ _ _ _)
          have e3 : ∀ k, KK κ (arrOf st3) k = KK κ (arrOf st2) k := by rw [hst3]; exact e2
          have hsz3 : lo + m ≤ (arrOf st3).size := by rw [hB3.size]; omega
          refine wpS_bind (wpS_reverse ?_)
          obtain ⟨st4, hst4⟩ : ∃ x, x = setArr st3 (mirror (arrOf st3) lo (lo + m) ((lo + m - lo) / 2)) := ⟨_, rfl⟩
          rw [← hst4]
          have hB4 : SB a₀ pd st4 := by rw [hst4]; exact hB3.setArr (mirror_perm _ _ _ _)
          have e4 : ∀ k, KK κ (arrOf st4) k = if lo ≤ k ∧ k < lo + m then KK κ (arrOf st3) (lo + (lo + m) - 1 - k) else KK κ (arrOf st3) k := by rw [hst4]; exact KK_mirror hsz3
          have hK4 : Kept κ lo (arrOf st) (arrOf st4) := fun i hi => by rw [e4, if_neg (by omega), e3]; exact hK2 i hi
          have hS4 : SOn κ (arrOf st4) lo (lo + m) := fun i j g1 g2 g3 => by
            rw [e4, e4, if_pos (by omega), if_pos (by omega), e3, e3]
            exact hN2 _ _ (by omega) (by omega) (by omega)
          refine wpS_bind (wpS_asc (κ := κ) (a₀ := a₀) (by omega) hm2 hn (fun i n Q' hn1 hn2 hq => ?_) hS4 fun n' hn1' hn2' hs' _ => wpS_pure (h n' st4 hB4 hK4 (by omega) hn2' hs'))
          refine wpS_bind (wpS_ltI hO hB4 h0 hn2 (by omega) ?_)
          cases hb : κ.blt (KK κ (arrOf st4) (lo + n)) (KK κ (arrOf st4) (lo + n - 1)) with
          | true => rw [hb, if_pos rfl] at hq; exact wpS_pure hq
          | false => rw [hb, if_neg (by decide)] at hq; exact wpS_pure hq
        · rw [if_neg hneq]
          obtain ⟨st3, hst3⟩ : ∃ x, x = st2 := ⟨_, rfl⟩
          rw [← hst3]
          have hB3 : SB a₀ pd st3 := by rw [hst3]; exact hB2
          have e3 : ∀ k, KK κ (arrOf st3) k = KK κ (arrOf st2) k := by rw [hst3]; exact fun _ => rfl
          have hsz3 : lo + m ≤ (arrOf st3).size := by rw [hB3.size]; omega
          refine wpS_bind (wpS_reverse ?_)
          obtain ⟨st4, hst4⟩ : ∃ x, x = setArr st3 (mirror (arrOf st3) lo (lo + m) ((lo + m - lo) / 2)) := ⟨_, rfl⟩
          rw [← hst4]
          have hB4 : SB a₀ pd st4 := by rw [hst4]; exact hB3.setArr (mirror_perm _ _ _ _)
          have e4 : ∀ k, KK κ (arrOf st4) k = if lo ≤ k ∧ k < lo + m then KK κ (arrOf st3) (lo + (lo + m) - 1 - k) else KK κ (arrOf st3) k := by rw [hst4]; exact KK_mirror hsz3
          have hK4 : Kept κ lo (arrOf st) (arrOf st4) := fun i hi => by rw [e4, if_neg (by omega), e3]; exact hK2 i hi
          have hS4 : SOn κ (arrOf st4) lo (lo + m) := fun i j g1 g2 g3 => by
            rw [e4, e4, if_pos (by omega), if_pos (by omega), e3, e3]
            exact hN2 _ _ (by omega) (by omega) (by omega)
          refine wpS_bind (wpS_asc (κ := κ) (a₀ := a₀) (by omega) hm2 hn (fun i n Q' hn1 hn2 hq => ?_) hS4 fun n' hn1' hn2' hs' _ => wpS_pure (h n' st4 hB4 hK4 (by omega) hn2' hs'))
          refine wpS_bind (wpS_ltI hO hB4 h0 hn2 (by omega) ?_)
          cases hb : κ.blt (KK κ (arrOf st4) (lo + n)) (KK κ (arrOf st4) (lo + n - 1)) with
          | true => rw [hb, if_pos rfl] at hq; exact wpS_pure hq
          | false => rw [hb, if_neg (by decide)] at hq; exact wpS_pure hq
  · rw [if_neg hgt]
    obtain rfl : n = 1 := by omega
    obtain ⟨st1, hst1⟩ : ∃ x, x = st := ⟨_, rfl⟩
    rw [← hst1]
    have hB1 : SB a₀ pd st1 := by rw [hst1]; exact hB
    have hK1 : Kept κ lo (arrOf st) (arrOf st1) := by rw [hst1]; exact fun _ _ => rfl
    have hN1 : NOn κ (arrOf st1) lo (lo + (1 + 1)) := by
      rw [hst1]
      refine NOn.succ (m := lo + 1) (fun i j g1 g2 g3 => ?_) (by omega) (KeyOrd.kle_of_klt hlt)
      obtain rfl : i = j := by omega
      exact KeyOrd.kle_refl _
    refine wpS_bind (wpS_lift (wpAny_rule ⟨rfl, ?_⟩))
    refine wpS_bind (wpS_mono (wpS_forRange
      (I := fun x c st' => ∃ neq, c = (none, x, neq) ∧ SB a₀ pd st' ∧ Kept κ lo (arrOf st) (arrOf st') ∧ NOn κ (arrOf st') lo (lo + x) ∧ neq + 1 ≤ x ∧ (∀ i, lo + x - (neq + 1) ≤ i → i < lo + x → KK κ (arrOf st') i = KK κ (arrOf st') (lo + x - 1)))
      (Q := fun c st' => ∃ m neq, c = (none, m, neq) ∧ 1 + 1 ≤ m ∧ m ≤ nrem ∧ SB a₀ pd st' ∧ Kept κ lo (arrOf st) (arrOf st') ∧ NOn κ (arrOf st') lo (lo + m) ∧ neq + 1 ≤ m ∧ (∀ i, lo + m - (neq + 1) ≤ i → i < lo + m → KK κ (arrOf st') i = KK κ (arrOf st') (lo + m - 1)))
      ?_ ?_ ⟨0, rfl, hB1, hK1, hN1, by omega, fun i g1 g2 => by congr 1; omega⟩) ?_)
    · rintro x c st' hx hxn ⟨neq, rfl, hB', hK', hN', hq, he⟩
      dsimp only
      have hsz : lo + x ≤ (arrOf st').size := by rw [hB'.size]; omega
      refine wpS_bind (wpS_ltI hO hB' h0 (by omega) (by omega) ?_)
      cases hless : κ.blt (KK κ (arrOf st') (lo + x)) (KK κ (arrOf st') (lo + x - 1)) with
      | true =>
        dsimp only
        rw [if_pos rfl]
        by_cases hneq : neq > 0
        · rw [if_pos hneq]
          have e2 : ∀ k, KK κ (mirror (arrOf st') (lo + x - (neq + 1)) (lo + x) ((lo + x - (lo + x - (neq + 1))) / 2)) k = KK κ (arrOf st') k := KK_mirror_equal hsz he
          refine wpS_bind (wpS_reverse (wpS_pure ⟨0, rfl, hB'.setArr (mirror_perm _ _ _ _), fun i hi => (e2 i).trans (hK' i hi), ?_, by omega, fun i g1 g2 => by congr 1; omega⟩))
          refine NOn.succ (m := lo + x) (fun i j g1 g2 g3 => ?_) (by omega) ?_
          · show κ.kle (KK κ (mirror _ _ _ _) j) (KK κ (mirror _ _ _ _) i)
            rw [e2, e2]; exact hN' i j g1 g2 g3
          · show κ.kle (KK κ (mirror _ _ _ _) _) (KK κ (mirror _ _ _ _) _)
            rw [e2, e2]; exact KeyOrd.kle_of_klt hless
        · rw [if_neg hneq]
          exact wpS_pure ⟨0, rfl, hB', hK', hN'.succ (m := lo + x) (by omega) (KeyOrd.kle_of_klt hless), by omega, fun i g1 g2 => by congr 1; omega⟩
      | false =>
        dsimp only
        rw [if_neg (by decide)]
        refine wpS_bind (wpS_ltI hO hB' h0 (by omega) (by omega) ?_)
        cases hlarger : κ.blt (KK κ (arrOf st') (lo + x - 1)) (KK κ (arrOf st') (lo + x)) with
        | true =>
          dsimp only
          rw [if_pos rfl]
          exact wpS_pure ⟨x, neq, rfl, hx, by omega, hB', hK', hN', hq, he⟩
        | false =>
          dsimp only
          rw [if_neg (by decide)]
          have heqx : KK κ (arrOf st') (lo + x) = KK κ (arrOf st') (lo + x - 1) := KeyOrd.kle_antisymm hlarger hless
          refine wpS_pure ⟨neq + 1, rfl, hB', hK', hN'.succ (m := lo + x) (by omega) hlarger, by omega, fun i g1 g2 => ?_⟩
          rw [show lo + (x + 1) - 1 = lo + x by omega]
          by_cases hix : i = lo + x
          · subst hix; rfl
          · rw [heqx]; exact he i (by omega) (by omega)
    · rintro c st' ⟨neq, rfl, hB', hK', hN', hq, he⟩
      rw [show max (1 + 1) nrem = nrem by omega] at hN' hq he ⊢
      exact ⟨nrem, neq, rfl, by omega, Nat.le_refl _, hB', hK', hN', hq, he⟩
    · rintro c st2 ⟨m, neq, rfl, hm1, hm2, hB2, hK2, hN2, hq, he⟩
      dsimp only
      have hsz2 : lo + m ≤ (arrOf st2).size := by rw [hB2.size]; omega
      by_cases hneq : neq > 0
      · rw [if_pos hneq]
        refine wpS_bind (wpS_reverse ?_)
        have e2 : ∀ k, KK κ (mirror (arrOf st2) (lo + m - (neq + 1)) (lo + m) ((lo + m - (lo + m - (neq + 1))) / 2)) k = KK κ (arrOf st2) k := KK_mirror_equal hsz2 he
        obtain ⟨st3, hst3⟩ : ∃ x, x = setArr st2 (mirror (arrOf st2) (lo + m - (neq + 1)) (lo + m) ((lo + m - (lo + m - (neq + 1))) / 2)) := ⟨_, rfl⟩
        rw [← hst3]
        have hB3 : SB a₀ pd st3 := by rw [hst3]; exact hB2.setArr (mirror_perm _ _ _ _)
        have e3 : ∀ k, KK κ (arrOf st3) k = KK κ (arrOf st2) k := by rw [hst3]; exact e2
        have hsz3 : lo + m ≤ (arrOf st3).size := by rw [hB3.size]; omega
        refine wpS_bind (wpS_reverse ?_)
        obtain ⟨st4, hst4⟩ : ∃ x, x = setArr st3 (mirror (arrOf st3) lo (lo + m) ((lo + m - lo) / 2)) := ⟨_, rfl⟩
        rw [← hst4]
        have hB4 : SB a₀ pd st4 := by rw [hst4]; exact hB3.setArr (mirror_perm _ _ _ _)
        have e4 : ∀ k, KK κ (arrOf st4) k = if lo ≤ k ∧ k < lo + m then KK κ (arrOf st3) (lo + (lo + m) - 1 - k) else KK κ (arrOf st3) k := by rw [hst4]; exact KK_mirror hsz3
        have hK4 : Kept κ lo (arrOf st) (arrOf st4) := fun i hi => by rw [e4, if_neg (by omega), e3]; exact hK2 i hi
        have hS4 : SOn κ (arrOf st4) lo (lo + m) := fun i j g1 g2 g3 => by
          rw [e4, e4, if_pos (by omega), if_pos (by omega), e3, e3]
          exact hN2 _ _ (by omega) (by omega) (by omega)
        refine wpS_bind (wpS_asc (κ := κ) (a₀ := a₀) (by omega) hm2 hn (fun i n Q' hn1 hn2 hq => ?_) hS4 fun n' hn1' hn2' hs' _ => wpS_pure (h n' st4 hB4 hK4 (by omega) hn2' hs'))
        refine wpS_bind (wpS_ltI hO hB4 h0 hn2 (by omega) ?_)
        cases hb : κ.blt (KK κ (arrOf st4) (lo + n)) (KK κ (arrOf st4) (lo + n - 1)) with
        | true => rw [hb, if_pos rfl] at hq; exact wpS_pure hq
        | false => rw [hb, if_neg (by decide)] at hq; exact wpS_pure hq
      · rw [if_neg hneq]
        obtain ⟨st3, hst3⟩ : ∃ x, x = st2 := ⟨_, rfl⟩
        rw [← hst3]
        have hB3 : SB a₀ pd st3 := by rw [hst3]; exact hB2
        have e3 : ∀ k, KK κ (arrOf st3) k = KK κ (arrOf st2) k := by rw [hst3]; exact fun _ => rfl
        have hsz3 : lo + m ≤ (arrOf st3).size := by rw [hB3.size]; omega
        refine wpS_bind (wpS_reverse ?_)
        obtain ⟨st4, hst4⟩ : ∃ x, x = setArr st3 (mirror (arrOf st3) lo (lo + m) ((lo + m - lo) / 2)) := ⟨_, rfl⟩
        rw [← hst4]
        have hB4 : SB a₀ pd st4 := by rw [hst4]; exact hB3.setArr (mirror_perm _ _ _ _)
        have e4 : ∀ k, KK κ (arrOf st4) k = if lo ≤ k ∧ k < lo + m then KK κ (arrOf st3) (lo + (lo + m) - 1 - k) else KK κ (arrOf st3) k := by rw [hst4]; exact KK_mirror hsz3
        have hK4 : Kept κ lo (arrOf st) (arrOf st4) := fun i hi => by rw [e4, if_neg (by omega), e3]; exact hK2 i hi
        have hS4 : SOn κ (arrOf st4) lo (lo + m) := fun i j g1 g2 g3 => by
          rw [e4, e4, if_pos (by omega), if_pos (by omega), e3, e3]
          exact hN2 _ _ (by omega) (by omega) (by omega)
        refine wpS_bind (wpS_asc (κ := κ) (a₀ := a₀) (by omega) hm2 hn (fun i n Q' hn1 hn2 hq => ?_) hS4 fun n' hn1' hn2' hs' _ => wpS_pure (h n' st4 hB4 hK4 (by omega) hn2' hs'))
        refine wpS_bind (wpS_ltI hO hB4 h0 hn2 (by omega) ?_)
        cases hb : κ.blt (KK κ (arrOf st4) (lo + n)) (KK κ (arrOf st4) (lo + n - 1)) with
        | true => rw [hb, if_pos rfl] at hq; exact wpS_pure hq
        | false => rw [hb, if_neg (by decide)] at hq; exact wpS_pure hq
theorem wpS_bins {n ok : Nat} {Q : Bool → SortSt → Prop} (hO : κ.OneLt) (h0 : KeysOf κ a₀) (hn : lo + n ≤ a₀.size) (hok : ok ≤ n) (h1 : 1 ≤ ok) (hB : SB a₀ pd st) (hs : SOn κ (arrOf st) lo (lo + ok))
    (h : ∀ st', SB a₀ pd st' → Kept κ lo (arrOf st) (arrOf st') → SOn κ (arrOf st') lo (lo + n) → Q true st') : wpS (model prog w) A E s (binarySort' lo n ok) Q st := by
  refine wpS_bind (wpS_mono (wpS_forRange (I := fun k c st' => c = (none, ()) ∧ SB a₀ pd st' ∧ Kept κ lo (arrOf st) (arrOf st') ∧ SOn κ (arrOf st') lo (lo + k))
    (Q := fun c st' => c = (none, ()) ∧ SB a₀ pd st' ∧ Kept κ lo (arrOf st) (arrOf st') ∧ SOn κ (arrOf st') lo (lo + n)) ?_ ?_ ⟨rfl, hB, fun _ _ => rfl, by rw [show max ok 1 = ok by omega]; exact hs⟩) ?_)
  · rintro k c st' hak hkn ⟨rfl, hB', hK', hs'⟩
    have hk : lo + k < a₀.size := by omega
    refine wpS_bind (wpS_mono (wpS_forRange (I := fun x c st'' => st'' = st' ∧ ∃ l r, c = (none, l, r) ∧ l ≤ r ∧ r ≤ k ∧ r - l ≤ k - x ∧
        (∀ i, i < l → κ.kle (KK κ (arrOf st') (lo + i)) (KK κ (arrOf st') (lo + k))) ∧ (∀ i, r ≤ i → i < k → κ.klt (KK κ (arrOf st') (lo + k)) (KK κ (arrOf st') (lo + i))))
      (Q := fun c st'' => st'' = st' ∧ ∃ l r, c = (none, l, r) ∧ l ≤ k ∧
        (∀ i, i < l → κ.kle (KK κ (arrOf st') (lo + i)) (KK κ (arrOf st') (lo + k))) ∧ (∀ i, l ≤ i → i < k → κ.klt (KK κ (arrOf st') (lo + k)) (KK κ (arrOf st') (lo + i)))) ?_ ?_ ⟨rfl, 0, k, rfl, by omega, by omega, by omega, fun i hi => by omega, fun i h1 h2 => by omega⟩) ?_)
    · rintro x c st'' _ hxk ⟨rfl, l, r, rfl, hlr, hrk, hm, hlo, hhi⟩
      dsimp only
      by_cases hge : l ≥ r
      · rw [if_pos hge]
        obtain rfl : l = r := by omega
        exact wpS_pure ⟨rfl, l, l, rfl, hrk, hlo, hhi⟩
      · rw [if_neg hge]
        refine wpS_bind (wpS_ltI hO hB' h0 hk (by omega) ?_)
        cases hless : κ.blt (KK κ (arrOf st'') (lo + k)) (KK κ (arrOf st'') (lo + (l + r) / 2)) with
        | true =>
          dsimp only
          rw [if_pos rfl]
          refine wpS_pure ⟨rfl, l, (l + r) / 2, rfl, by omega, by omega, by omega, hlo, fun i g1 g2 => ?_⟩
          exact KeyOrd.klt_of_klt_of_kle hless (hs' _ _ (by omega) (by omega) (by omega))
        | false =>
          dsimp only
          rw [if_neg (by decide)]
          refine wpS_pure ⟨rfl, (l + r) / 2 + 1, r, rfl, by omega, by omega, by omega, fun i g1 => ?_, hhi⟩
          exact KeyOrd.kle_trans (hs' (lo + i) (lo + (l + r) / 2) (by omega) (by omega) (by omega)) (show κ.kle _ _ from hless)
    · rintro c st'' ⟨rfl, l, r, rfl, hlr, hrk, hm, hlo, hhi⟩
      obtain rfl : l = r := by omega
      exact ⟨rfl, l, l, rfl, hrk, hlo, hhi⟩
    · rintro c st'' ⟨rfl, l, r, rfl, hlk, hlo, hhi⟩
      dsimp only
      have hks : lo + k < (arrOf st'').size := by rw [hB'.size]; exact hk
      have e4 : ∀ q, KK κ (bubble (arrOf st'') (lo + k) (lo + k - (lo + l))) q = if q = lo + k - (lo + k - (lo + l)) then KK κ (arrOf st'') (lo + k) else if lo + k - (lo + k - (lo + l)) < q ∧ q ≤ lo + k then KK κ (arrOf st'') (q - 1) else KK κ (arrOf st'') q := KK_bubble hks (by omega)
      refine wpS_bind (wpS_modify (wpS_pure ⟨rfl, hB'.setArr (bubble_perm _ _ _), fun i hi => ?_, fun i j g1 g2 g3 => ?_⟩))
      · refine (e4 i).trans ?_
        rw [if_neg (by omega), if_neg (by omega)]
        exact hK' i hi
      · have e5 : ∀ q, lo ≤ q → KK κ (bubble (arrOf st'') (lo + k) (lo + k - (lo + l))) q = if q = lo + l then KK κ (arrOf st'') (lo + k) else if lo + l < q ∧ q ≤ lo + k then KK κ (arrOf st'') (q - 1) else KK κ (arrOf st'') q := fun q _ => by
          rw [e4 q, show lo + k - (lo + k - (lo + l)) = lo + l by omega]
        show κ.kle (KK κ (bubble (arrOf st'') (lo + k) (lo + k - (lo + l))) i) (KK κ (bubble (arrOf st'') (lo + k) (lo + k - (lo + l))) j)
        rw [e5 i g1, e5 j (by omega)]
        have lo' : ∀ q, lo ≤ q → q < lo + l → κ.kle (KK κ (arrOf st'') q) (KK κ (arrOf st'') (lo + k)) := fun q q1 q2 => by
          have := hlo (q - lo) (by omega)
          rwa [show lo + (q - lo) = q by omega] at this
        have hi' : ∀ q, lo + l ≤ q → q < lo + k → κ.kle (KK κ (arrOf st'') (lo + k)) (KK κ (arrOf st'') q) := fun q q1 q2 => by
          have := hhi (q - lo) (by omega) (by omega)
          rw [show lo + (q - lo) = q by omega] at this
          exact KeyOrd.kle_of_klt this
        repeat' split
        all_goals first
          | (exfalso; omega)
          | exact KeyOrd.kle_refl _
          | exact lo' _ (by omega) (by omega)
          | exact hi' _ (by omega) (by omega)
          | exact hs' _ _ (by omega) (by omega) (by omega)
  · rintro c st' ⟨hc, hB', hK', hs'⟩
    rw [show max (max ok 1) n = n by omega] at hs'
    exact ⟨hc, hB', hK', hs'⟩
  · rintro c st' ⟨rfl, hB', hK', hs'⟩
    exact wpS_pure (h st' hB' hK' hs')
end
end DescLaw
end
section
open PySem PyProof.Rows
set_option Elab.async false
set_option maxRecDepth 100000
namespace DescLaw
/-! sorting: the two runs are merged -/
variable {κ : PyProof.Rows.KeyKind}
theorem put_list : ∀ (l : List Keyed) (n base : Nat) (arr : Array Keyed), base + n + l.length ≤ arr.size →
    ((l.zipIdx n).foldl (fun a (x : Keyed × Nat) => match x with | (p, j) => a.setIfInBounds (base + j) p) arr).toList = arr.toList.take (base + n) ++ l ++ arr.toList.drop (base + n + l.length)
  | [], n, base, arr, _ => by simp
  | p :: l, n, base, arr, h => by
    have h' : base + n + (l.length + 1) ≤ arr.size := h
    rw [List.zipIdx_cons, List.foldl_cons]
    have ih := put_list l (n + 1) base (arr.setIfInBounds (base + n) p) (by rw [Array.size_setIfInBounds]; omega)
    refine ih.trans ?_
    have hl : base + n < arr.toList.length := by simp; omega
    have e : (arr.setIfInBounds (base + n) p).toList = arr.toList.set (base + n) p := by simp
    rw [e, List.set_eq_take_append_cons_drop, if_pos hl]
    have e1 : (arr.toList.take (base + n)).length = base + n := by rw [List.length_take]; omega
    have e2 : (arr.toList.take (base + n) ++ p :: arr.toList.drop (base + n + 1)).take (base + (n + 1)) = arr.toList.take (base + n) ++ [p] := by
      rw [List.take_append, e1, show base + (n + 1) - (base + n) = 1 by omega, List.take_of_length_le (by omega)]; rfl
    have e3 : (arr.toList.take (base + n) ++ p :: arr.toList.drop (base + n + 1)).drop (base + (n + 1) + l.length) = arr.toList.drop (base + n + (l.length + 1)) := by
      rw [List.drop_append, e1, show base + (n + 1) + l.length - (base + n) = l.length + 1 by omega, List.drop_of_length_le (by omega), List.nil_append, List.drop_succ_cons, List.drop_drop]
      congr 1; omega
    rw [e2, e3]
    show arr.toList.take (base + n) ++ [p] ++ l ++ _ = arr.toList.take (base + n) ++ (p :: l) ++ _
    simp
theorem lt_sz {xs : Array Keyed} {i : Nat} (h : i < xs.toList.length) : i < xs.size := by simpa using h
theorem mem_at {xs : Array Keyed} {i : Nat} (h : i < xs.size) : xs[i] ∈ xs.toList := by simp
theorem srt_of_sorted {xs : Array Keyed} (h : Srt κ xs.toList) : SortedToK κ xs xs.size := fun i j hij hj => by
  rw [KK_at (at_ (show i < xs.size by omega)), KK_at (at_ hj)]
  exact h.leA hij hj
section
variable {prog : Program} {w : World} {A : Around} {E : Value → Shared → Prop} {s : Shared} {a₀ : Array Keyed} {st : SortSt}
theorem wpS_set {σ : Type} {M : Model} {x : σ} {Q : PUnit → σ → Prop} {st : σ} (h : Q ⟨⟩ x) : wpS M A E s (set x : StateT σ Sem PUnit) Q st := by
  unfold wpS; rw [StateT.run_set]; exact wpAny_pure ⟨rfl, h⟩
theorem wpS_mergeAt {n1 n2 p1 p2 : Nat} {Q : Bool → SortSt → Prop} (hO : κ.OneLt) (h0 : KeysOf κ a₀) (hB : SB a₀ #[(0, n1, p1), (n1, n2, p2)] st) (h1 : 1 ≤ n1) (h2 : 1 ≤ n2) (h12 : n1 + n2 = a₀.size)
    (s1 : SOn κ (arrOf st) 0 n1) (s2 : SOn κ (arrOf st) n1 (n1 + n2)) (h : ∀ st', SB a₀ #[(0, n1 + n2, p1)] st' → SortedToK κ (arrOf st') a₀.size → Q true st') : wpS (model prog w) A E s (mergeAt' 0) Q st := by
  cases st
  rename_i kd arr pd mg fl
  have hp : pd = #[(0, n1, p1), (n1, n2, p2)] := hB.pend
  have hkd : kd = oneType' := hB.kind
  have hfl : fl = none := hB.failed
  have hperm : arr.Perm a₀ := hB.perm
  have hsz : arr.size = a₀.size := hB.size
  subst hp hkd hfl
  have s1 : SOn κ arr 0 n1 := s1
  have s2 : SOn κ arr n1 (n1 + n2) := s2
  have g : ∀ i (q : i < arr.size), Good κ arr[i] := fun i q => hB.good h0 (p := arr[i]) (by show arr[i] ∈ arr.toList; simp)
  have le1 : ∀ i j (_ : i ≤ j) (q : j < n1), κ.kle (kk κ (arr[i]'(by omega))) (kk κ (arr[j]'(by omega))) := fun i j hij q => by
    have := s1 i j (Nat.zero_le _) hij q
    rwa [KK_at (at_ (show i < arr.size by omega)), KK_at (at_ (show j < arr.size by omega))] at this
  have le2 : ∀ i j (_ : n1 ≤ i) (_ : i ≤ j) (q : j < n1 + n2), κ.kle (kk κ (arr[i]'(by omega))) (kk κ (arr[j]'(by omega))) := fun i j hi hij q => by
    have := s2 i j hi hij q
    rwa [KK_at (at_ (show i < arr.size by omega)), KK_at (at_ (show j < arr.size by omega))] at this
  refine wpS_bind (wpS_get ?_)
  dsimp only
  have f0 : (#[(0, n1, p1), (n1, n2, p2)] : Array (Nat × Nat × Nat))[0]? = some (0, n1, p1) := rfl
  have f1 : (#[(0, n1, p1), (n1, n2, p2)] : Array (Nat × Nat × Nat))[0 + 1]? = some (n1, n2, p2) := rfl
  have f2 : ((#[(0, n1, p1), (n1, n2, p2)] : Array (Nat × Nat × Nat)).setIfInBounds 0 (0, n1 + n2, p1)).eraseIdxIfInBounds (0 + 1) = #[(0, n1 + n2, p1)] := by apply Array.ext'; simp [Array.eraseIdxIfInBounds]
  rw [f0, f1]
  dsimp only
  rw [f2]
  refine wpS_bind (wpS_set ?_)
  have done : ∀ st', arrOf st' = arr → kindOf st' = oneType' → failedOf st' = none → pendingOf st' = #[(0, n1 + n2, p1)] → (∀ i j (_ : i < n1) (_ : n1 ≤ j) (q : j < n1 + n2), κ.kle (kk κ (arr[i]'(by omega))) (kk κ (arr[j]'(by omega)))) → Q true st' := fun st' e1 e2 e3 e4 hx => by
    refine h st' ⟨by rw [e1]; exact hperm, e2, e3, e4⟩ fun i j hij hj => ?_
    rw [e1, KK_at (at_ (show i < arr.size by omega)), KK_at (at_ (show j < arr.size by omega))]
    by_cases q1 : j < n1
    · exact le1 i j hij q1
    · by_cases q2 : i < n1
      · exact hx i j q2 (by omega) (by omega)
      · exact le2 i j (by omega) hij (by omega)
  refine wpS_bind (wpS_elem (at_ (show n1 < arr.size by omega)) (wpS_bind (wpS_gallopA hO rfl (g _ _) (by omega) g (fun i j _ hij hj => le1 i j hij (by omega)) (by omega) fun k hkn hyk hn => ?_)))
  simp only [Nat.zero_add] at hyk hn ⊢
  by_cases e1 : n1 - k = 0
  · rw [if_pos (by simpa using e1)]
    refine wpS_pure (done _ rfl rfl rfl rfl fun i j hi hj q => ?_)
    exact KeyOrd.kle_trans (by_ft (hyk i (by omega))) (le2 n1 j (Nat.le_refl _) hj q)
  rw [if_neg (by simpa using e1)]
  have ek : k + (n1 - k) = n1 := by omega
  rw [ek]
  refine wpS_bind (wpS_elem (at_ (show n1 - 1 < arr.size by omega)) (wpS_bind (wpS_gallopA hO rfl (g _ _) (by omega) g (fun i j hi hij hj => le2 i j hi hij hj) (by omega) fun nb hnb hy2 hn2 => ?_)))
  dsimp only
  by_cases e2 : nb = 0
  · rw [if_pos (by simpa using e2)]
    subst e2
    refine wpS_pure (done _ rfl rfl rfl rfl fun i j hi hj q => ?_)
    have := by_tf (hn2 (j - n1) (Nat.zero_le _) (by omega))
    have e : n1 + (j - n1) = j := by omega
    simp only [e] at this
    exact KeyOrd.kle_trans (le1 i (n1 - 1) (by omega) (by omega)) this
  rw [if_neg (by simpa using e2)]
  -- the stretches
  have lx : (arr.extract k n1).size = n1 - k := by rw [Array.size_extract]; omega
  have ly : (arr.extract n1 (n1 + nb)).size = nb := by rw [Array.size_extract]; omega
  have ax : ∀ i (q : i < (arr.extract k n1).size), (arr.extract k n1)[i] = arr[k + i]'(by omega) := fun i q => Array.getElem_extract ..
  have ay : ∀ i (q : i < (arr.extract n1 (n1 + nb)).size), (arr.extract n1 (n1 + nb))[i] = arr[n1 + i]'(by omega) := fun i q => Array.getElem_extract ..
  have gx : ∀ x ∈ (arr.extract k n1).toList, Good κ x := fun x hx => by
    obtain ⟨i, hi, rfl⟩ := List.getElem_of_mem hx
    have hi : i < (arr.extract k n1).size := lt_sz hi
    rw [Array.getElem_toList, ax i hi]; exact g _ _
  have gy : ∀ x ∈ (arr.extract n1 (n1 + nb)).toList, Good κ x := fun x hx => by
    obtain ⟨i, hi, rfl⟩ := List.getElem_of_mem hx
    have hi : i < (arr.extract n1 (n1 + nb)).size := lt_sz hi
    rw [Array.getElem_toList, ay i hi]; exact g _ _
  have sx : Srt κ (arr.extract k n1).toList := List.pairwise_iff_getElem.mpr fun i j hi hj hij => by
    have hi : i < (arr.extract k n1).size := lt_sz hi
    have hj : j < (arr.extract k n1).size := lt_sz hj
    rw [Array.getElem_toList, Array.getElem_toList, ax i hi, ax j hj]
    exact le1 _ _ (by omega) (by omega)
  have sy : Srt κ (arr.extract n1 (n1 + nb)).toList := List.pairwise_iff_getElem.mpr fun i j hi hj hij => by
    have hi : i < (arr.extract n1 (n1 + nb)).size := lt_sz hi
    have hj : j < (arr.extract n1 (n1 + nb)).size := lt_sz hj
    rw [Array.getElem_toList, Array.getElem_toList, ay i hi, ay j hj]
    exact le2 _ _ (by omega) (by omega) (by omega)
  have xb : ∀ x ∈ (arr.extract k n1).toList, κ.kle (kk κ (arr[n1]'(by omega))) (kk κ x) := fun x hx => by
    obtain ⟨i, hi, rfl⟩ := List.getElem_of_mem hx
    have hi : i < (arr.extract k n1).size := lt_sz hi
    rw [Array.getElem_toList, ax i hi]
    exact by_ff (hn (k + i) (by omega) (by omega))
  have yl : ∀ y ∈ (arr.extract n1 (n1 + nb)).toList, κ.kle (kk κ y) (kk κ (arr[n1 - 1]'(by omega))) := fun y hy => by
    obtain ⟨i, hi, rfl⟩ := List.getElem_of_mem hy
    have hi : i < (arr.extract n1 (n1 + nb)).size := lt_sz hi
    rw [Array.getElem_toList, ay i hi]
    exact by_tt (hy2 i (by omega))
  have y0 : (arr.extract n1 (n1 + nb))[0]'(by omega) = arr[n1]'(by omega) := ay 0 (by omega)
  have xlast : ∀ q : (arr.extract k n1).size - 1 < (arr.extract k n1).size, (arr.extract k n1)[(arr.extract k n1).size - 1] = arr[n1 - 1]'(by omega) := fun q => by
    rw [ax _ q]
    have e : k + ((arr.extract k n1).size - 1) = n1 - 1 := by omega
    simp only [e]
  have ylast : κ.kle (kk κ ((arr.extract n1 (n1 + nb))[(arr.extract n1 (n1 + nb)).size - 1]'(by omega))) (kk κ (arr[n1 - 1]'(by omega))) := yl _ (mem_at _)
  have fin : ∀ (merged : Array Keyed) (st1 : SortSt), Same (SortSt.mk' oneType' arr #[(0, n1 + n2, p1)] mg none) st1 → Mgd κ (arr.extract k n1) (arr.extract n1 (n1 + nb)) merged →
      Q true (SortSt.mk' (kindOf st1) (List.foldl (fun a (x : Keyed × Nat) => match x with | (p, j) => a.setIfInBounds (k + j) p) (arrOf st1) merged.toList.zipIdx) (pendingOf st1) (gallopOf st1) (failedOf st1)) := fun merged st1 hS hM => by
    have ea : arrOf st1 = arr := hS.arr
    have hlen : merged.toList.length = n1 - k + nb := by
      rw [hM.1.length_eq, List.length_append, Array.length_toList, Array.length_toList, lx, ly]
    have hput := put_list merged.toList 0 k (arrOf st1) (by rw [ea, hlen]; omega)
    rw [ea, hlen, show k + 0 + (n1 - k + nb) = n1 + nb by omega, Nat.add_zero] at hput
    have hsplit : arr.toList = arr.toList.take k ++ ((arr.extract k n1).toList ++ (arr.extract n1 (n1 + nb)).toList) ++ arr.toList.drop (n1 + nb) := by
      rw [Array.toList_extract, Array.toList_extract]
      show _ = arr.toList.take k ++ ((arr.toList.drop k).take (n1 - k) ++ (arr.toList.drop n1).take (n1 + nb - n1)) ++ arr.toList.drop (n1 + nb)
      conv => lhs; rw [← List.take_append_drop k arr.toList, ← List.take_append_drop (n1 - k) (arr.toList.drop k), List.drop_drop, ek, ← List.take_append_drop nb (arr.toList.drop n1), List.drop_drop]
      simp [Nat.add_sub_cancel_left]
    have hperm' : (arr.toList.take k ++ merged.toList ++ arr.toList.drop (n1 + nb)).Perm arr.toList := by
      conv => rhs; rw [hsplit]
      exact List.Perm.append_right _ (List.Perm.append_left _ hM.1)
    have mem1 : ∀ x ∈ arr.toList.take k, ∃ i, ∃ (q : i < k), x = arr[i]'(by omega) := fun x hx => by
      obtain ⟨i, hi, rfl⟩ := List.mem_take_iff_getElem.mp hx
      exact ⟨i, by omega, by simp⟩
    have mem2 : ∀ x ∈ arr.toList.drop (n1 + nb), ∃ i, ∃ (q : i < n1 + n2), n1 + nb ≤ i ∧ x = arr[i]'(by omega) := fun x hx => by
      obtain ⟨i, hi, rfl⟩ := List.mem_drop_iff_getElem.mp hx
      have hi : n1 + nb + i < arr.size := by simpa [Nat.add_comm] using hi
      exact ⟨n1 + nb + i, by omega, by omega, by simp [Nat.add_comm]⟩
    have memM : ∀ x ∈ merged.toList, (∃ i, ∃ (q : i < n1), k ≤ i ∧ x = arr[i]'(by omega)) ∨ ∃ i, ∃ (q : i < n1 + nb), n1 ≤ i ∧ x = arr[i]'(by omega) := fun x hx => by
      rcases List.mem_append.mp (hM.1.mem_iff.mp hx) with hx | hx
      · obtain ⟨i, hi, rfl⟩ := List.getElem_of_mem hx
        have hi : i < (arr.extract k n1).size := lt_sz hi
        exact .inl ⟨k + i, by omega, by omega, by rw [Array.getElem_toList, ax i hi]⟩
      · obtain ⟨i, hi, rfl⟩ := List.getElem_of_mem hx
        have hi : i < (arr.extract n1 (n1 + nb)).size := lt_sz hi
        exact .inr ⟨n1 + i, by omega, by omega, by rw [Array.getElem_toList, ay i hi]⟩
    have tail : ∀ j (q : j < n1 + n2), n1 + nb ≤ j → κ.kle (kk κ (arr[n1 - 1]'(by omega))) (kk κ (arr[j]'(by omega))) := fun j q hj => by
      have := by_tf (hn2 (j - n1) (by omega) (by omega))
      have e : n1 + (j - n1) = j := by omega
      simp only [e] at this
      exact this
    have hsrt : Srt κ (arr.toList.take k ++ merged.toList ++ arr.toList.drop (n1 + nb)) := by
      have all1 : Srt κ (arr.toList.take k) := List.pairwise_iff_getElem.mpr fun i j hi hj hij => by
        have hj : j < k := by simp at hj; omega
        simpa using le1 i j (by omega) (by omega)
      have all2 : Srt κ (arr.toList.drop (n1 + nb)) := List.pairwise_iff_getElem.mpr fun i j hi hj hij => by
        have hj : n1 + nb + j < arr.size := by simp at hj; omega
        simpa using le2 (n1 + nb + i) (n1 + nb + j) (by omega) (by omega) (by omega)
      refine List.pairwise_append.mpr ⟨List.pairwise_append.mpr ⟨all1, hM.2, fun x hx y hy => ?_⟩, all2, fun x hx y hy => ?_⟩
      · obtain ⟨i, hi, rfl⟩ := mem1 x hx
        rcases memM y hy with ⟨j, hj, hk, rfl⟩ | ⟨j, hj, hk, rfl⟩
        · exact le1 i j (by omega) hj
        · exact KeyOrd.kle_trans (by_ft (hyk i hi)) (le2 n1 j (Nat.le_refl _) hk (by omega))
      · obtain ⟨j, hj, hj2, rfl⟩ := mem2 y hy
        rcases List.mem_append.mp hx with hx | hx
        · obtain ⟨i, hi, rfl⟩ := mem1 x hx
          exact KeyOrd.kle_trans (by_ft (hyk i hi)) (le2 n1 j (Nat.le_refl _) (by omega) hj)
        · rcases memM x hx with ⟨i, hi, hk, rfl⟩ | ⟨i, hi, hk, rfl⟩
          · exact KeyOrd.kle_trans (le1 i (n1 - 1) (by omega) (by omega)) (tail j hj hj2)
          · exact le2 i j hk (by omega) hj
    refine h _ ⟨?_, hS.kind, hS.fail, hS.pend⟩ ?_
    · refine Array.Perm.trans (Array.perm_iff_toList_perm.mpr ?_) hperm
      show (List.foldl _ (arrOf st1) merged.toList.zipIdx).toList.Perm arr.toList
      rw [ea, hput]; exact hperm'
    · have e : ∀ xs : Array Keyed, xs.toList = arr.toList.take k ++ merged.toList ++ arr.toList.drop (n1 + nb) → SortedToK κ xs a₀.size := fun xs e => by
        have h1 : Srt κ xs.toList := by rw [e]; exact hsrt
        have h2 : xs.size = a₀.size := by
          rw [← hsz, ← Array.length_toList, e, hperm'.length_eq, Array.length_toList]
        rw [← h2]; exact srt_of_sorted h1
      refine e _ ?_
      show (List.foldl _ (arrOf st1) merged.toList.zipIdx).toList = _
      rw [ea, hput]
  have cont : ∀ (merged : Array Keyed) (st1 : SortSt), Same (SortSt.mk' oneType' arr #[(0, n1 + n2, p1)] mg none) st1 → failedOf st1 = none := fun m st1 hS => hS.fail
  by_cases e3 : n1 - k ≤ nb
  · rw [if_pos e3]
    refine wpS_bind (wpS_mergeLo hO rfl gx gy sx sy (by omega) (by omega) ?_ (fun y hy q => ?_) fun r st1 hS hM => ?_)
    · rw [y0]; exact xb _ (mem_at _)
    · rw [xlast q]; exact yl y hy
    · refine wpS_bind (wpS_modify (wpS_bind (wpS_get (wpS_pure ?_))))
      have := fin r st1 hS hM
      have e4 : (failedOf st1).isNone = true := by rw [cont r st1 hS]; rfl
      exact e4 ▸ this
  · rw [if_neg e3]
    refine wpS_bind (wpS_mergeHi hO rfl gx gy sx sy (by omega) (by omega) (fun x hx => ?_) ?_ fun r st1 hS hM => ?_)
    · rw [y0]; exact xb x hx
    · rw [xlast (by omega)]; exact ylast
    · refine wpS_bind (wpS_modify (wpS_bind (wpS_get (wpS_pure ?_))))
      have := fin r st1 hS hM
      have e4 : (failedOf st1).isNone = true := by rw [cont r st1 hS]; rfl
      exact e4 ▸ this
end
end DescLaw
end
section
open PySem PyProof.Rows
set_option Elab.async false
set_option maxRecDepth 100000
namespace DescLaw
/-! sorting: 64 to 127 items, two runs at most -/
variable {κ : PyProof.Rows.KeyKind}
section
variable {prog : Program} {w : World} {A : Around} {E : Value → Shared → Prop} {s : Shared} {a₀ : Array Keyed} {st : SortSt}
def One (κ : PyProof.Rows.KeyKind) (a₀ : Array Keyed) (st : SortSt) : Prop := ∃ p, SB a₀ #[(0, a₀.size, p)] st ∧ SortedToK κ (arrOf st) a₀.size
def Two (κ : PyProof.Rows.KeyKind) (a₀ : Array Keyed) (st : SortSt) : Prop := ∃ n1 n2 p, SB a₀ #[(0, n1, p), (n1, n2, 0)] st ∧ 1 ≤ n1 ∧ 1 ≤ n2 ∧ n1 + n2 = a₀.size ∧ SOn κ (arrOf st) 0 n1 ∧ SOn κ (arrOf st) n1 (n1 + n2)
theorem minRun_mid {n : Nat} (h1 : 64 ≤ n) (h2 : n < 128) : minRun' n n 0 = n / 2 + n % 2 := by
  obtain ⟨f, hf⟩ : ∃ f, n = f + 1 + 1 := ⟨n - 2, by omega⟩
  have e : minRun' (f + 1 + 1) n 0 = n / 2 + n % 2 := by
    rw [minRun'_succ, if_neg (by omega), minRun'_succ, if_pos (by omega)]
    omega
  rwa [← hf] at e
theorem SB.push {pd : Array (Nat × Nat × Nat)} {x : Nat × Nat × Nat} (h : SB a₀ pd st) : SB a₀ (pd.push x) (setPending st ((pendingOf st).push x)) := ⟨h.perm, h.kind, h.failed, by show (pendingOf st).push x = _; rw [h.pend]⟩
theorem wpS_sortRuns2 {Q : Unit → SortSt → Prop} (hO : κ.OneLt) (h0 : KeysOf κ a₀) (hB : SB a₀ #[] st) (h64 : 64 ≤ a₀.size) (h128 : a₀.size < 128)
    (h : ∀ st', (arrOf st').Perm a₀ → failedOf st' = none → SortedToK κ (arrOf st') a₀.size → Q () st') : wpS (model prog w) A E s sortRuns' Q st := by
  rw [sortRuns'_eq]
  refine wpS_bind (wpS_get ?_)
  dsimp only
  simp only [hB.size, minRun_mid h64 h128]
  obtain ⟨mr, hmr⟩ : ∃ mr, mr = a₀.size / 2 + a₀.size % 2 := ⟨_, rfl⟩
  rw [← hmr]
  obtain ⟨n, hn⟩ : ∃ n, n = a₀.size := ⟨_, rfl⟩
  rw [← hn]
  have hm1 : n ≤ 2 * mr := by omega
  have hm2 : mr < n := by omega
  have hm3 : 32 ≤ mr := by omega
  refine wpS_bind (wpS_mono (wpS_forRange
    (I := fun x c st' => (x = 0 ∧ c = (none, 0) ∧ SB a₀ #[] st') ∨ (x = 1 ∧ ∃ n1, c = (none, n1) ∧ mr ≤ n1 ∧ n1 ≤ n ∧ SB a₀ #[(0, n1, 0)] st' ∧ SOn κ (arrOf st') 0 n1) ∨ (2 ≤ x ∧ c = (none, n) ∧ Two κ a₀ st'))
    (Q := fun c st' => c = (none, n) ∧ (One κ a₀ st' ∨ Two κ a₀ st')) ?_ ?_ (.inl ⟨rfl, rfl, hB⟩)) ?_)
  · rintro x c st' _ hx (⟨rfl, rfl, hB'⟩ | ⟨rfl, n1, rfl, g1, g2, hB', hs'⟩ | ⟨g1, rfl, hT⟩)
    · dsimp only
      rw [if_neg (by omega)]
      refine wpS_bind (wpS_run (κ := κ) hO h0 (by omega) (by omega) hB' fun m st2 hB2 _ g1 g2 hs2 => ?_)
      dsimp only
      rw [Nat.zero_add] at hs2
      by_cases hlt : m < mr
      · rw [if_pos hlt]
        refine wpS_bind (wpS_lift (wpAny_rule ⟨rfl, ?_⟩))
        rw [show min (n - 0) mr = mr by omega]
        refine wpS_bind (wpS_bins (κ := κ) hO h0 (by omega) (by omega) g1 hB2 (by rw [Nat.zero_add]; exact hs2) fun st3 hB3 _ hs3 => ?_)
        rw [Nat.zero_add] at hs3
        simp only [Bool.not_true, Bool.false_eq_true, if_false]
        refine wpS_bind (wpS_get ?_)
        have hb : (pendingOf st3).back? = none := by rw [hB3.pend]; rfl
        rw [hb]
        dsimp only
        refine wpS_bind (wpS_modify (wpS_pure (.inr (.inl ⟨by trivial, mr, by rw [Nat.zero_add], Nat.le_refl _, by omega, hB3.push, hs3⟩))))
      · rw [if_neg hlt]
        refine wpS_bind (wpS_get ?_)
        have hb : (pendingOf st2).back? = none := by rw [hB2.pend]; rfl
        rw [hb]
        dsimp only
        refine wpS_bind (wpS_modify (wpS_pure (.inr (.inl ⟨rfl, m, by rw [Nat.zero_add], by omega, by omega, hB2.push, hs2⟩))))
    · dsimp only
      by_cases e : n1 ≥ n
      · rw [if_pos e]
        obtain rfl : n1 = n := by omega
        exact wpS_pure ⟨rfl, .inl ⟨0, by rw [← hn]; exact hB', by rw [← hn]; exact fun i j hij hj => hs' i j (Nat.zero_le _) hij hj⟩⟩
      rw [if_neg e]
      refine wpS_bind (wpS_run (κ := κ) hO h0 (by omega) (by omega) hB' fun m st2 hB2 hK2 g3 g4 hs2 => ?_)
      dsimp only
      have hs1 : SOn κ (arrOf st2) 0 n1 := fun i j q1 q2 q3 => by rw [hK2 i (by omega), hK2 j q3]; exact hs' i j q1 q2 q3
      by_cases hlt : m < mr
      · rw [if_pos hlt]
        refine wpS_bind (wpS_lift (wpAny_rule ⟨rfl, ?_⟩))
        rw [show min (n - n1) mr = n - n1 by omega]
        refine wpS_bind (wpS_bins (κ := κ) hO h0 (by omega) g4 g3 hB2 hs2 fun st3 hB3 hK3 hs2' => ?_)
        have hs1' : SOn κ (arrOf st3) 0 n1 := fun i j q1 q2 q3 => by rw [hK3 i (by omega), hK3 j q3]; exact hs1 i j q1 q2 q3
        simp only [Bool.not_true, Bool.false_eq_true, if_false]
        refine wpS_bind (wpS_get ?_)
        have hb : (pendingOf st3).back? = some (0, n1, 0) := by rw [hB3.pend]; rfl
        rw [hb]
        dsimp only
        generalize power' n (2 * 0 + n1) (2 * 0 + n1 + n1 + (n - n1)) n = pw
        refine wpS_bind (wpS_mono (wpS_forRange (I := fun _ c st'' => st'' = st3 ∧ c = (none, ())) (Q := fun c st'' => st'' = st3 ∧ c = (none, ())) ?_ (fun _ _ q => q) ⟨rfl, rfl⟩) ?_)
        · rintro x c st'' _ _ ⟨rfl, rfl⟩
          refine wpS_bind (wpS_get ?_)
          rw [hB3.pend]
          exact wpS_pure ⟨rfl, rfl⟩
        · rintro c st'' ⟨rfl, rfl⟩
          dsimp only
          have hB4 : SB a₀ #[(0, n1, pw), (n1, (n - n1), 0)] (setPending (setPending st'' ((pendingOf st'').modify ((pendingOf st'').size - 1) fun x => (x.1, x.2.1, pw))) ((pendingOf (setPending st'' ((pendingOf st'').modify ((pendingOf st'').size - 1) fun x => (x.1, x.2.1, pw)))).push (n1, (n - n1), 0))) := ⟨hB3.perm, hB3.kind, hB3.failed, by
            show ((pendingOf st'').modify ((pendingOf st'').size - 1) fun x => (x.1, x.2.1, pw)).push (n1, (n - n1), 0) = _
            rw [hB3.pend]
            apply Array.ext'
            simp⟩
          refine wpS_bind (wpS_modify (wpS_bind (wpS_modify (wpS_pure (.inr (.inr ⟨by omega, Prod.ext rfl (by show n1 + (n - n1) = n; omega), n1, (n - n1), pw, hB4, by omega, by omega, by omega, hs1', hs2'⟩))))))
      · rw [if_neg hlt]
        obtain rfl : m = n - n1 := by omega
        obtain ⟨st3, hst3⟩ : ∃ x, x = st2 := ⟨_, rfl⟩
        subst hst3
        have hB3 := hB2
        have hs1' := hs1
        have hs2' := hs2
        refine wpS_bind (wpS_get ?_)
        have hb : (pendingOf st3).back? = some (0, n1, 0) := by rw [hB3.pend]; rfl
        rw [hb]
        dsimp only
        generalize power' n (2 * 0 + n1) (2 * 0 + n1 + n1 + (n - n1)) n = pw
        refine wpS_bind (wpS_mono (wpS_forRange (I := fun _ c st'' => st'' = st3 ∧ c = (none, ())) (Q := fun c st'' => st'' = st3 ∧ c = (none, ())) ?_ (fun _ _ q => q) ⟨rfl, rfl⟩) ?_)
        · rintro x c st'' _ _ ⟨rfl, rfl⟩
          refine wpS_bind (wpS_get ?_)
          rw [hB3.pend]
          exact wpS_pure ⟨rfl, rfl⟩
        · rintro c st'' ⟨rfl, rfl⟩
          dsimp only
          have hB4 : SB a₀ #[(0, n1, pw), (n1, (n - n1), 0)] (setPending (setPending st'' ((pendingOf st'').modify ((pendingOf st'').size - 1) fun x => (x.1, x.2.1, pw))) ((pendingOf (setPending st'' ((pendingOf st'').modify ((pendingOf st'').size - 1) fun x => (x.1, x.2.1, pw)))).push (n1, (n - n1), 0))) := ⟨hB3.perm, hB3.kind, hB3.failed, by
            show ((pendingOf st'').modify ((pendingOf st'').size - 1) fun x => (x.1, x.2.1, pw)).push (n1, (n - n1), 0) = _
            rw [hB3.pend]
            apply Array.ext'
            simp⟩
          refine wpS_bind (wpS_modify (wpS_bind (wpS_modify (wpS_pure (.inr (.inr ⟨by omega, Prod.ext rfl (by show n1 + (n - n1) = n; omega), n1, (n - n1), pw, hB4, by omega, by omega, by omega, hs1', hs2'⟩))))))
    · dsimp only
      rw [if_pos (Nat.le_refl _)]
      exact wpS_pure ⟨rfl, .inr hT⟩
  · rintro c st' (⟨g1, _⟩ | ⟨g1, _⟩ | ⟨g1, rfl, hT⟩)
    · omega
    · omega
    · exact ⟨rfl, .inr hT⟩
  · rintro c st' ⟨rfl, hT⟩
    dsimp only
    refine wpS_bind (wpS_mono (wpS_forRange (I := fun x c st'' => c = (none, ()) ∧ (One κ a₀ st'' ∨ (x = 0 ∧ Two κ a₀ st''))) (Q := fun c st'' => c = (none, ()) ∧ One κ a₀ st'') ?_ ?_ ⟨rfl, hT.imp id fun q => ⟨rfl, q⟩⟩) ?_)
    · rintro x c st'' _ _ ⟨rfl, hO1 | ⟨rfl, n1, n2, p, hB', g1, g2, g3, s1, s2⟩⟩
      · refine wpS_bind (wpS_get ?_)
        obtain ⟨p, hB', hs⟩ := hO1
        rw [if_pos (by rw [hB'.pend]; exact Nat.le_refl 1)]
        exact wpS_pure ⟨rfl, p, hB', hs⟩
      · refine wpS_bind (wpS_get ?_)
        rw [hB'.pend]
        rw [if_neg (by show ¬ (2 ≤ 1); omega)]
        refine wpS_bind (wpS_mergeAt (κ := κ) hO h0 hB' g1 g2 g3 s1 s2 fun st3 hB3 hs3 => ?_)
        simp only [Bool.not_true, Bool.false_eq_true, if_false]
        exact wpS_pure ⟨rfl, .inl ⟨p, by rw [← g3]; exact hB3, hs3⟩⟩
    · rintro c st'' ⟨hc, hO1 | ⟨g1, _⟩⟩
      · exact ⟨hc, hO1⟩
      · omega
    · rintro c st'' ⟨rfl, p, hB', hs⟩
      exact wpS_pure (h _ hB'.perm hB'.failed hs)
end
end DescLaw
end
section
open PySem PyProof.Rows
set_option Elab.async false
set_option maxRecDepth 100000
namespace DescLaw
/-! sorted(l), a list of texts, fewer than 128 -/
section
variable {prog : Program} {w : World} {A : Around} {E : Value → Shared → Prop} {s : Shared} {κ : PyProof.Rows.KeyKind}
theorem sortTree {a : Addr} {vs : List Value} {n : Nat} {P : PySem.Fin → Shared → Prop} (hO : κ.OneLt) (ho : s.heap.get? a = some (seqObj "list" vs.toArray n)) (h0 : KeysOf κ (pairsOf vs)) (hkk : keyKind' vs.toArray = pure oneType') (h64 : 64 ≤ vs.length) (h128 : vs.length < 128)
    (h : ∀ st' : SortSt, (arrOf st').Perm (pairsOf vs) → SortedToK κ (arrOf st') (pairsOf vs).size → P (.done (.ret .none)) { s with heap := sortedHeap s.heap a vs ((arrOf st').map (·.2)) }) :
    wpAny (model prog w) A (Builtin.«list.sort» ⟨[.ref a], []⟩) P E s := by
  have ha : a < s.heap.objs.size := Heap.lt_size ho
  have hz : vs.toArray.size = vs.length := by simp
  obtain ⟨e1, ho1⟩ : ∃ e1, (s.heap.update a (Obj.mapSeq fun _ => #[])).get? a = some (seqObj "list" #[] e1) := ⟨_, get?_update_seq ho (fun _ => #[])⟩
  have ho2 : (((s.heap.update a (Obj.mapSeq fun _ => #[])).push (seqObj "tuple" vs.toArray 0)).push (seqObj "list" #[] 0)).get? a = some (seqObj "list" #[] e1) := by
    have l1 : a ≠ (s.heap.update a (Obj.mapSeq fun _ => #[])).objs.size := by rw [Heap.size_update]; exact Nat.ne_of_lt ha
    have l2 : a ≠ ((s.heap.update a (Obj.mapSeq fun _ => #[])).push (seqObj "tuple" vs.toArray 0)).objs.size := by rw [size_push', Heap.size_update]; exact Nat.ne_of_lt (Nat.lt_succ_of_lt ha)
    rw [Heap.get?_push_ne _ _ _ l2, Heap.get?_push_ne _ _ _ l1]
    exact ho1
  rw [list_sort_plain]
  refine wpAny_bind (listItems_at ho rfl (wpAny_bind (listUpdate_at ho rfl (wpAny_bind (seqEpoch_at ho1 rfl (wpAny_bind (wpAny_newTuple (wpAny_bind (wpAny_newList (wpAny_holding ?_)))))))))) 
  show wpAny (model prog w) A _ P E { s with heap := ((s.heap.update a (Obj.mapSeq fun _ => #[])).push (seqObj "tuple" vs.toArray 0)).push (seqObj "list" #[] 0) }
  dsimp only
  rw [if_neg (by omega), if_neg (by omega), hkk]
  have hsz : (pairsOf vs).size = vs.length := pairsOf_size vs
  refine wpAny_bind (wpAny_pure (wpAny_bind (wpAny_mono (wpS_sortRuns2 (κ := κ) hO (a₀ := pairsOf vs) (st := SortSt.mk' oneType' (vs.toArray.zip vs.toArray) #[] 7 none)
    (Q := fun _ st' => (arrOf st').Perm (pairsOf vs) ∧ failedOf st' = none ∧ SortedToK κ (arrOf st') (pairsOf vs).size) h0 ⟨Array.Perm.refl _, rfl, rfl, rfl⟩ (by omega) (by omega) fun st' a1 a2 a3 => ⟨a1, a2, a3⟩) ?_ fun _ _ e => e)))
  rintro ⟨⟨⟩, st'⟩ s' ⟨rfl, hp, hf, hs⟩
  dsimp only
  have hz2 : ((arrOf st').map (·.2)).size ≤ sizeLine := by
    rw [Array.size_map, hp.size_eq, hsz, sizeLine_eq]; omega
  refine wpAny_bind (seqEpoch_at ho2 rfl (wpAny_bind (listUpdate_at ho2 rfl ?_ (hsz2 := Nat.le_succ_of_le hz2))))
  rw [hf]
  simp only [bne_self_eq_false, Bool.false_eq_true, if_false]
  exact wpAny_pure (h st' hp hs)
theorem keyKind_all {vs : List Value} {ss : List Str} (hS : PyProof.Rows.StrsAre vs ss) (h : 2 ≤ vs.length) : keyKind' vs.toArray = pure oneType' := by
  match vs, h with
  | v₁ :: v₂ :: rest, _ => exact keyKind_strs hS
theorem sortedBig {l : Addr} {vs : List Value} {ss : List Str} {Q : Value → Shared → Prop} (hl : s.heap.IsList l vs.toArray) (hS : PyProof.Rows.StrsAre vs ss) (h64 : 64 ≤ vs.length) (h128 : vs.length < 128)
    (h : ∀ (out : Array Value) (ss' : List Str), PyProof.Rows.StrsAre out.toList ss' → ss'.Perm ss → sortedS ss' = true → Q (.ref (s.heap.objs.size + 1)) { s with heap := sortedAll s.heap vs out }) :
    wpAny (model prog w) A (call (.builtin "sorted") [.ref l]) Q E s := by
  refine Calls.call_function_entry kind_sorted plain_sorted entry_sorted (args_sorted1 _) ?_
  unfold Builtin.«sorted»
  refine wpAny_bind (m := checkCount "sorted" 1 1 _) (wpAny_pure (wpAny_bind (collect_list hl (wpAny_bind (wpAny_newList ?_)))))
  have hsz : ((s.heap.push (seqObj "list" #[] 0)).update s.heap.objs.size (Obj.mapSeq (· ++ vs.toArray))).objs.size = s.heap.objs.size + 1 := by rw [Heap.size_update, size_push']
  have hoL : (((s.heap.push (seqObj "list" #[] 0)).update s.heap.objs.size (Obj.mapSeq (· ++ vs.toArray))).push (seqObj "list" vs.toArray 0)).get? (s.heap.objs.size + 1) = some (seqObj "list" vs.toArray 0) := by
    have := Heap.get?_push_size ((s.heap.push (seqObj "list" #[] 0)).update s.heap.objs.size (Obj.mapSeq (· ++ vs.toArray))) (o := seqObj "list" vs.toArray 0) rfl
    rwa [hsz] at this
  show wpAny _ _ _ _ _ { s with heap := ((s.heap.push (seqObj "list" #[] 0)).update s.heap.objs.size (Obj.mapSeq (· ++ vs.toArray))).push (seqObj "list" vs.toArray 0) }
  rw [hsz]
  refine wpAny_bind (wpAny_holding (wpAny_call_entry slot_list_sort ⟨_, hoL, rfl⟩ entry_list_sort (sortTree strKind_oneLt hoL hS.keysOf (keyKind_all hS (by omega)) h64 h128 fun st' hp hs => ?_) (args_list_sort _)))
  obtain ⟨ss', g1, g2, g3⟩ := sorted_out_str hS hp hs
  exact ⟨_, rfl, wpAny_pure ⟨_, rfl, h _ ss' g1 g2 g3⟩⟩
/-- sorted(l): the texts, put in order -/
theorem sortedT {l : Addr} {vs : List Value} {ss : List Str} {Q : Value → Shared → Prop} (hl : s.heap.IsList l vs.toArray) (hS : PyProof.Rows.StrsAre vs ss) (h128 : vs.length < 128)
    (h : ∀ (out : Array Value) (ss' : List Str), PyProof.Rows.StrsAre out.toList ss' → ss'.Perm ss → sortedS ss' = true → Q (.ref (s.heap.objs.size + 1)) { s with heap := sortedAll s.heap vs out }) :
    wpAny (model prog w) A (call (.builtin "sorted") [.ref l]) Q E s := by
  by_cases h64 : vs.length < 64
  · exact sorted_strs hl hS h64 h
  · exact sortedBig hl hS (by omega) h128 h
end
end DescLaw
end
section
open PySem PySem.W PyProof.Rows PySem.Calls
set_option Elab.async false
set_option maxRecDepth 100000
namespace DescLaw
/-! rows: addresses and what stands there -/
inductive All2 {α : Type} (R : Value → α → Prop) : List Value → List α → Prop
  | nil : All2 R [] []
  | cons {v : Value} {x : α} {vs : List Value} {xs : List α} : R v x → All2 R vs xs → All2 R (v :: vs) (x :: xs)
theorem All2.mono {α : Type} {R R' : Value → α → Prop} {vs : List Value} {xs : List α} (h : All2 R vs xs) (k : ∀ v x, R v x → R' v x) : All2 R' vs xs := by
  induction h with
  | nil => exact .nil
  | cons h _ ih => exact .cons (k _ _ h) ih
theorem All2.append {α : Type} {R : Value → α → Prop} {vs vs' : List Value} {xs xs' : List α} (h : All2 R vs xs) (h' : All2 R vs' xs') : All2 R (vs ++ vs') (xs ++ xs') := by
  induction h with
  | nil => exact h'
  | cons h _ ih => exact .cons h ih
theorem All2.snoc {α : Type} {R : Value → α → Prop} {vs : List Value} {xs : List α} {v : Value} {x : α} (h : All2 R vs xs) (d : R v x) : All2 R (vs ++ [v]) (xs ++ [x]) := h.append (.cons d .nil)
theorem All2.length {α : Type} {R : Value → α → Prop} {vs : List Value} {xs : List α} (h : All2 R vs xs) : vs.length = xs.length := by
  induction h with
  | nil => rfl
  | cons _ _ ih => simp [ih]
theorem All2.get {α : Type} {R : Value → α → Prop} {vs : List Value} {xs : List α} (h : All2 R vs xs) {i : Nat} {v : Value} (e : vs[i]? = some v) : ∃ x, xs[i]? = some x ∧ R v x := by
  induction h generalizing i with
  | nil => cases e
  | @cons v' x vs xs h _ ih =>
    cases i with
    | zero => cases e; exact ⟨x, rfl, h⟩
    | succ i => exact ih e
theorem All2.rev {α : Type} {R : Value → α → Prop} {vs : List Value} {xs : List α} (h : All2 R vs xs) : All2 R vs.reverse xs.reverse := by
  induction h with
  | nil => exact .nil
  | cons h _ ih => rw [List.reverse_cons, List.reverse_cons]; exact ih.snoc h
/-- the value of a step -/
inductive StepIs : Value → Step → Prop
  | key {k : Str} {t : Tok} : StepIs (.str k t) (.key k)
  | idx {i : Nat} {t : Tok} : StepIs (.int i t) (.idx i)
def AddrAt (S : Sto) (v : Value) (a : List Step) : Prop := ∃ l vs n, v = .ref l ∧ S l (listOf vs.toArray n) ∧ All2 StepIs vs a
theorem AddrAt.mono {S S' : Sto} {v : Value} {a : List Step} (h : AddrAt S v a) (k : ∀ b o, S b o → S' b o) : AddrAt S' v a := let ⟨l, vs, n, e, x, y⟩ := h; ⟨l, vs, n, e, k _ _ x, y⟩
def RowAt (S : Sto) (v : Value) (f : Fnd) : Prop := ∃ tp av, v = .ref tp ∧ S tp (tupOf [av, f.doc.val]) ∧ AddrAt S av f.addr
theorem RowAt.mono {S S' : Sto} {v : Value} {f : Fnd} (h : RowAt S v f) (k : ∀ b o, S b o → S' b o) : RowAt S' v f := let ⟨tp, av, e, x, y⟩ := h; ⟨tp, av, e, k _ _ x, y.mono k⟩
abbrev Rows (S : Sto) : List Value → List Fnd → Prop := All2 (RowAt S)
abbrev Addrs (S : Sto) : List Value → List (List Step) → Prop := All2 (AddrAt S)
/-! they are equal -/
section
open PySem.SeqAt
variable {A : Around} {s : Shared}
theorem all_true {n : Nat} : (List.range n).all (fun _ => true) = true := by simp
theorem eq_step {u v : Value} {x : Step} (h : StepIs u x) (h' : StepIs v x) : EqAt A s u v true := by
  cases h with
  | key => cases h' with | key => have := EqAt.str_str (A := A) (s := s) ‹Str› ‹Tok› ‹Str› ‹Tok›; rename_i k t t'; simpa using EqAt.str_str (A := A) (s := s) k t k t'
  | idx => cases h' with | idx => rename_i k t t'; simpa using EqAt.int_int (A := A) (s := s) (k : Int) t k t'
theorem All2.same {α : Type} {R R' : Value → α → Prop} {us vs : List Value} {xs : List α} (h : All2 R us xs) (h' : All2 R' vs xs) (k : ∀ u v x, R u x → R' v x → EqAt A s u v true) : ∀ j (h1 : j < us.toArray.size) (h2 : j < vs.toArray.size), EqAt A s us.toArray[j] vs.toArray[j] true := by
  intro j h1 h2
  have h1 : j < us.length := by simpa using h1
  have h2 : j < vs.length := by simpa using h2
  obtain ⟨x, e1, r1⟩ := h.get (List.getElem?_eq_getElem h1)
  obtain ⟨y, e2, r2⟩ := h'.get (List.getElem?_eq_getElem h2)
  rw [e1] at e2; cases e2
  simpa using k _ _ x r1 r2
theorem rc_lists {l b : Addr} {us vs : List Value} {n n' : Nat} (hl : s.heap.get? l = some (listOf us.toArray n)) (hb : s.heap.get? b = some (listOf vs.toArray n')) (hz : us.length = vs.length) (hu : A.units < cLine) (k : ∀ j (h1 : j < us.toArray.size) (h2 : j < vs.toArray.size), EqAt A.in1 s us.toArray[j] vs.toArray[j] true) : RcAt A s (.ref l) (.ref b) true := by
  have := RcAt.lists (e := fun _ => true) (A := A) (s := s) ⟨_, hl, rfl, n, rfl⟩ ⟨_, hb, rfl, n', rfl⟩ (by simpa using hz) hu k
  rwa [all_true] at this
theorem rcn_lists {l b : Addr} {us vs : List Value} {n n' : Nat} (hl : s.heap.get? l = some (listOf us.toArray n)) (hb : s.heap.get? b = some (listOf vs.toArray n')) (hz : us.length = vs.length) (hu : A.units < cLine) (k : ∀ j (h1 : j < us.toArray.size) (h2 : j < vs.toArray.size), EqAt A.in1 s us.toArray[j] vs.toArray[j] true) : RcNeAt A s (.ref l) (.ref b) false := by
  have := RcNeAt.lists (e := fun _ => true) (A := A) (s := s) ⟨_, hl, rfl, n, rfl⟩ ⟨_, hb, rfl, n', rfl⟩ (by simpa using hz) hu k
  rwa [all_true] at this
theorem eq_addr {S : Sto} {fr : List Addr} {u v : Value} {a : List Step} (H : Has S fr s) (hu : A.units + 1 < cLine) (h : AddrAt S u a) (h' : AddrAt S v a) : EqAt A s u v true := by
  obtain ⟨l, us, n, rfl, x, y⟩ := h
  obtain ⟨l', vs, n', rfl, x', y'⟩ := h'
  by_cases e : l = l'
  · subst e; exact EqAt.same _
  · exact EqAt.of_refs e (rc_lists (H.get x) (H.get x') (y.length.trans y'.length.symm) (by omega) (y.same y' fun _ _ _ => eq_step))
theorem eq_row {S : Sto} {fr : List Addr} {u v : Value} {f : Fnd} (H : Has S fr s) (hu : A.units + 2 < cLine) (h : RowAt S u f) (h' : RowAt S v f) : EqAt A s u v true := by
  obtain ⟨l, av, rfl, x, y⟩ := h
  obtain ⟨l', av', rfl, x', y'⟩ := h'
  by_cases e : l = l'
  · subst e; exact EqAt.same _
  · refine EqAt.of_refs e ?_
    have := RcAt.tuples (e := fun _ => true) (A := A) (s := s) ⟨_, H.get x, rfl, _, rfl⟩ ⟨_, H.get x', rfl, _, rfl⟩ (by omega) fun j h1 h2 => ?_
    · rw [all_true] at this; exact this
    · have h1 : j < 2 := h1
      match j, h1 with
      | 0, _ => exact eq_addr H (by show A.units + 1 + 1 < _; omega) y y'
      | 1, _ => exact EqAt.same _
theorem ne_rows {S : Sto} {fr : List Addr} {l b : Addr} {us vs : List Value} {fs : List Fnd} {n n' : Nat} (H : Has S fr s) (hu : A.units + 3 < cLine) (hl : s.heap.get? l = some (listOf us.toArray n)) (hb : s.heap.get? b = some (listOf vs.toArray n')) (h : Rows S us fs) (h' : Rows S vs fs) : RcNeAt A s (.ref l) (.ref b) false :=
  rcn_lists hl hb (h.length.trans h'.length.symm) (by omega) (h.same h' fun _ _ _ => eq_row H (by show A.units + 1 + 2 < _; omega))
theorem eq_rows {S : Sto} {fr : List Addr} {l b : Addr} {us vs : List Value} {fs : List Fnd} {n n' : Nat} (H : Has S fr s) (hu : A.units + 3 < cLine) (hl : s.heap.get? l = some (listOf us.toArray n)) (hb : s.heap.get? b = some (listOf vs.toArray n')) (h : Rows S us fs) (h' : Rows S vs fs) : RcAt A s (.ref l) (.ref b) true :=
  rc_lists hl hb (h.length.trans h'.length.symm) (by omega) (h.same h' fun _ _ _ => eq_row H (by show A.units + 1 + 2 < _; omega))
inductive StrIs : Value → Str → Prop
  | mk {x : Str} {t : Tok} : StrIs (.str x t) x
theorem eq_strs {u v : Value} {x : Str} (h : StrIs u x) (h' : StrIs v x) : EqAt A s u v true := by
  cases h; cases h'
  rename_i t t'
  simpa using EqAt.str_str (A := A) (s := s) x t x t'
theorem ne_strs {l b : Addr} {us vs : List Value} {xs : List Str} {n n' : Nat} (hu : A.units < cLine) (hl : s.heap.get? l = some (listOf us.toArray n)) (hb : s.heap.get? b = some (listOf vs.toArray n')) (h : All2 StrIs us xs) (h' : All2 StrIs vs xs) : RcNeAt A s (.ref l) (.ref b) false :=
  rcn_lists hl hb (h.length.trans h'.length.symm) hu (h.same h' fun _ _ _ => eq_strs)
end
/-! texts in order -/
theorem strs_all2 {vs : List Value} {xs : List Str} (h : PyProof.Rows.StrsAre vs xs) : All2 StrIs vs xs := by
  induction h with
  | nil => exact .nil
  | cons _ _ _ ih => exact .cons .mk ih
theorem all2_strs {vs : List Value} {xs : List Str} (h : All2 StrIs vs xs) : PyProof.Rows.StrsAre vs xs := by
  induction h with
  | nil => exact .nil
  | cons h _ ih => cases h; exact .cons _ _ ih
theorem rising_pw : ∀ (p : Str) (l : List Str), risingS p l = true → (p :: l).Pairwise fun a b => Spec.ltCps b.cps.toList a.cps.toList = false
  | p, [], _ => List.pairwise_singleton _ _
  | p, x :: r, h => by
    have h : (!Spec.ltCps x.cps.toList p.cps.toList && risingS x r) = true := h
    rw [Bool.and_eq_true, Bool.not_eq_true'] at h
    have ih := rising_pw x r h.2
    refine List.pairwise_cons.mpr ⟨fun y hy => ?_, ih⟩
    rcases List.mem_cons.mp hy with rfl | hy
    · exact h.1
    · have h2 := (List.pairwise_cons.mp ih).1 y hy
      have h3 := h.1
      rw [ltCps_eq] at h2 h3 ⊢
      exact KeyOrd.kle_trans (O := PyProof.Rows.strKind.toKeyOrd) (show PyProof.Rows.strKind.toKeyOrd.kle p.cps.toList x.cps.toList from h3) (show PyProof.Rows.strKind.toKeyOrd.kle x.cps.toList y.cps.toList from h2)
theorem sorted_pw {l : List Str} (h : sortedS l = true) : l.Pairwise fun a b => Spec.ltCps b.cps.toList a.cps.toList = false := by
  cases l with
  | nil => exact .nil
  | cons p l => exact rising_pw p l h
/-- two orders of the same texts are one -/
theorem sorted_one {l l' m m' : List Str} (h : sortedS l = true) (h' : sortedS l' = true) (p : l.Perm m) (p' : l'.Perm m') (q : m.Perm m') : l = l' := by
  refine List.Perm.eq_of_pairwise (fun a b _ _ h1 h2 => ?_) (sorted_pw h) (sorted_pw h') (p.trans (q.trans p'.symm))
  rw [ltCps_eq] at h1 h2
  have := KeyOrd.kle_antisymm (O := PyProof.Rows.strKind.toKeyOrd) (a := a.cps.toList) (b := b.cps.toList) (show PyProof.Rows.strKind.toKeyOrd.kle _ _ from h1) (show PyProof.Rows.strKind.toKeyOrd.kle _ _ from h2)
  obtain ⟨a⟩ := a
  obtain ⟨b⟩ := b
  congr 1
  exact Array.ext' this
/-! the text of an address -/
def Step.data : Step → PyData
  | .key k => .str k
  | .idx i => .int i
def addrText (a : List Step) : Str := (PyData.list (a.map Step.data)).shown
def steps : List Step := [.key "a", .key "b", .key "c", .idx 0, .idx 1, .idx 2]
def wordsN : Nat → List (List Step)
  | 0 => [[]]
  | n + 1 => [] :: steps.flatMap fun s => (wordsN n).map (s :: ·)
def okA (a : List Step) : Prop := a.length ≤ 3 ∧ ∀ s ∈ a, s ∈ steps
theorem words_mem : ∀ (n : Nat) (a : List Step), a.length ≤ n → (∀ s ∈ a, s ∈ steps) → a ∈ wordsN n
  | 0, [], _, _ => .head _
  | n + 1, [], _, _ => .head _
  | n + 1, s :: a, h, k => List.mem_cons_of_mem _ (List.mem_flatMap.mpr ⟨s, k s (.head _), List.mem_map_of_mem (words_mem n a (Nat.le_of_succ_le_succ h) fun x hx => k x (.tail _ hx))⟩)
def chkA (a : List Step) : Bool := (PyData.list (a.map Step.data)).showable && decide ((addrText a).length ≤ 1000)
theorem words_chk : (wordsN 3).all chkA = true := by decide +kernel
theorem okA.chk {a : List Step} (h : okA a) : (PyData.list (a.map Step.data)).showable = true ∧ (addrText a).length ≤ 1000 := by
  have := List.all_eq_true.mp words_chk a (words_mem 3 a h.1 h.2)
  rw [chkA, Bool.and_eq_true, decide_eq_true_eq] at this
  exact this
theorem reads_steps {h : Heap} {vs : List Value} {a : List Step} (x : All2 StepIs vs a) : ∃ as, ReadsAll h vs (a.map Step.data) as := by
  induction x with
  | nil => exact ⟨_, .nil⟩
  | cons hx _ ih =>
    obtain ⟨as, ih⟩ := ih
    cases hx with
    | key => exact ⟨_, .cons (.str _ _) ih⟩
    | idx => exact ⟨_, .cons (.int _ _) ih⟩
theorem nodict_steps : ∀ a : List Step, PyData.hasDictAll (a.map Step.data) = false
  | [] => rfl
  | .key _ :: a => by rw [List.map_cons, PyData.hasDictAll, nodict_steps a]; rfl
  | .idx _ :: a => by rw [List.map_cons, PyData.hasDictAll, nodict_steps a]; rfl
theorem depth_steps : ∀ a : List Step, PyData.depthAll (a.map Step.data) ≤ 1
  | [] => by simp [PyData.depthAll]
  | .key _ :: a => by have := depth_steps a; simp only [List.map_cons, PyData.depthAll, Step.data, PyData.depth]; omega
  | .idx _ :: a => by have := depth_steps a; simp only [List.map_cons, PyData.depthAll, Step.data, PyData.depth]; omega
section
variable {w : World} {A : Around} {E : Value → Shared → Prop} {B : Heap} {fr mu : List Addr} {s₀ s : Shared} {L : Addr} {m : Str → Option Value} {T S : Sto} {own : List (Addr × Obj)} {n : Nat} {Q : Value → Shared → Prop}
/-- repr(address) -/
theorem reprA {fr' : List Addr} {v : Value} {a : List Step} (C : Cx A fr' n) (hu : A.units + 5 < cLine) (F : Fx B T s₀ fr mu L m S own s) (h : AddrAt S v a) (ok : okA a) (hq : ∀ u s', Fx B T s₀ fr mu L m S own s' → Q (.str (addrText a) u) s') : wpAny (model pw w) A (call (.builtin "repr") [v]) Q E s := by
  obtain ⟨l, vs, k, rfl, x, y⟩ := h
  obtain ⟨as, r⟩ := reads_steps (h := s.heap) y
  obtain ⟨c1, c2⟩ := ok.chk
  have hm := million
  have R : Reads s.heap (.ref l) (.list (a.map Step.data)) (l :: as) := .list (F.has.get x) rfl rfl (by simpa using r)
  refine repr_of_reads' R c1 (fun q => ?_) C.guards ?_ (fun _ _ e => e) (fun h' u tk kp => hq u _ (F.keeps kp)) (by have : ((PyData.list (a.map Step.data)).shown).length ≤ 1000 := c2; omega)
  · rw [show (PyData.list (a.map Step.data)).hasDict = PyData.hasDictAll (a.map Step.data) from by simp only [PyData.hasDict], nodict_steps] at q; cases q
  · have := depth_steps a
    rw [show (PyData.list (a.map Step.data)).depth = PyData.depthAll (a.map Step.data) + 1 from by simp only [PyData.depth]]
    omega
end
end DescLaw
end
section
open PySem PySem.W PyProof.Rows PySem.Calls
set_option Elab.async false
set_option maxRecDepth 100000
namespace DescLaw
/-! a dict comprehension of one clause, its keys strs, each new -/
theorem Pairs.ents {w : World} {es : List DictEntry} {as : List (Str × Value)} (h : Pairs (PySem.strKind pw w) es as) (hk : ∀ e ∈ es, ∃ k, (PySem.strKind pw w).is k e.key = true ∧ e.hash = (PySem.strKind pw w).hash k) : Ents w.params es as := by
  induction h with
  | nil => exact .nil
  | @cons e kv es as h1 h2 _ ih =>
    obtain ⟨k, h3, h4⟩ := hk e (.head _)
    obtain ⟨t, ht⟩ := Value.isStrOf_shape h1
    obtain rfl : k = kv.1 := (PySem.strKind pw w).inj _ _ _ h3 h1
    have ih := ih fun e he => hk e (.tail _ he)
    obtain ⟨eh, ek, ev⟩ := e
    obtain ⟨kk, v⟩ := kv
    simp only at ht h2 h4 h3
    subst ht h2 h4
    exact .cons ih
theorem dictAt_inv {w : World} {h : Heap} {a : Addr} {as : List (Str × Value)} (x : h.DictOf (PySem.strKind pw w) a as) : ∃ es n, h.get? a = some (dictOf es n) ∧ Ents w.params es as ∧ (as.map (·.1)).Nodup := by
  obtain ⟨o, es, ep, ho, ⟨h1, h2, h3⟩, hd, hk, hp, hn⟩ := x
  refine ⟨es.toList, ep, ?_, Pairs.ents hp fun e he => hk e (by simpa using he), hn⟩
  obtain ⟨oc, od, oa, os⟩ := o
  simp only at h1 h2 h3 hd
  subst h1 h2 h3 hd
  rw [ho]
section
variable {w : World} {A : Around} {E : Value → Shared → Prop} {B : Heap} {fr mu : List Addr} {s₀ s : Shared} {L : Addr} {m : Str → Option Value} {T S : Sto} {own : List (Addr × Obj)} {env : Env} {kx vx iter : Expr} {scope : Scope} {cl : List (Str × Addr)} {n : Nat} {pos px : Pos} {y : Str}
theorem dset {D : Addr} {es : List DictEntry} {k : Nat} {as : List (Str × Value)} {kk : Str} {t : Tok} {v : Value} {Q : Unit → Shared → Prop} (F : Fx B T s₀ fr mu L m S ((D, dictOf es k) :: own) s) (X : Ents w.params es as) (nd : (as.map (·.1)).Nodup) (hn : kk ∉ as.map (·.1)) (hz : as.length ≤ 1000000)
    (h : ∀ s' es' k', Fx B T s₀ fr mu L m S ((D, dictOf es' k') :: own) s' → Ents w.params es' (as ++ [(kk, v)]) → ((as ++ [(kk, v)]).map (·.1)).Nodup → Q () s') : wpAny (model pw w) A (dictSet D (.str kk t) v) Q E s := by
  have hm : (1000000 : Nat) ≤ sizeLine := by decide
  refine wpAny_dictSet_pairs (knd := PySem.strKind pw w) (k := kk) (kvs := as) (strKind_is pw w _ _) (X.dictAt (F.mine _ (.head _)).1 nd).dictOf (fun h' hd hs => ?_) (by omega)
  have e : stored as kk v = as ++ [(kk, v)] := by
    unfold stored
    rw [if_neg]
    simp only [List.any_eq_true, decide_eq_true_eq, not_exists, not_and]
    intro p hp q
    exact hn (List.mem_map.mpr ⟨p, hp, q⟩)
  rw [e] at hd
  obtain ⟨es', k', e', X', nd'⟩ := dictAt_inv hd
  exact h _ es' k' (F.upd hs e') X' nd'
theorem dcomp {Q : Value → Shared → Prop} (hB : Hp w B) (_F : Fx B T s₀ fr mu L m S own s) (hclos : closureFor scope env = pure cl)
    (h : wpAny (model pw w) A (eval iter env) (fun x s₁ => wpAny (model pw w) A (pyIter x) (fun it s₂ => ∃ S₂ ows rest n, ∃ P : Nat → Sto → List (Addr × Obj) → Prop, ∃ V : Nat → Value → Prop, ∃ J : Nat → List (Str × Value) → Sto → List (Addr × Obj) → Prop, n ≤ 1000 ∧ Fx B T s₀ fr mu L m S₂ (ows ++ rest) s₂ ∧ P 0 S₂ ows ∧ Itn w A n it P V ∧ J 0 [] S₂ rest ∧
      (∀ i out S ows rest s C oc D od mc v E, i < n → V i v → J i out S rest → Fx B T s₀ fr mu L m S ((C, oc) :: (D, od) :: (ows ++ rest)) s → NsO oc mc → mc y = some v →
        wpAny (model pw w) A (eval kx (compEnvC scope cl C env)) (fun kv s₃ => ∃ kk t, kv = .str kk t ∧ kk ∉ out.map (·.1) ∧ wpAny (model pw w) A (eval vx (compEnvC scope cl C env)) (fun x s₅ => ∃ S' rest' oc' mc', Fx B T s₀ fr mu L m S' ((C, oc') :: (D, od) :: (ows ++ rest')) s₅ ∧ NsO oc' mc' ∧ (∀ a o, S a o → S' a o) ∧ J (i + 1) (out ++ [(kk, x)]) S' rest') E s₃) E s) ∧
      (∀ D es k out S rest s, J n out S rest → Ents w.params es out → (out.map (·.1)).Nodup → (D == sysModules) = false → Fx B T s₀ fr mu L m S ((D, dictOf es k) :: rest) s → Q (.ref D) s)) E s₁) E s)
    (hx : scope.names.lookup y = some .local := by rfl)
    (hkind : scope.kind = .function := by rfl) (hcell : ∀ y ∈ scope.names, y.2 ≠ .cell := by decide) (hnames : ∀ x ∈ scope.names, x.2 = .local → scope.names.lookup x.1 = some .local := by decide)
    (hs : ∀ x, foldedSetIterable iter env x = pure x := by intro _; rfl) :
    wpAny (model pw w) A (eval (.DictComp kx vx [⟨.Name y px, iter, [], 0⟩] scope pos) env) Q E s := by
  have hm : (1000000 : Nat) ≤ sizeLine := by decide
  rw [arm_eval_DictComp]
  refine wpAny_comprehension_free (use := none) rfl hs hclos hkind hnames (wpAny_mono h (fun x s₁ h₁ => wpAny_mono h₁ (fun it s₂ h₂ => ?_) fun _ _ e => e) fun _ _ e => e)
  obtain ⟨S₂, ows, rest, n, P, V, J, hn, F, p0, X, j0, step, fin⟩ := h₂
  have hD : (s₂.heap.objs.size == sysModules) = false := F.toFr.notModules (modules_low hB.nolimit)
  refine wpAny_newObj_type ?_
  have F := F.push { cls := .type "dict", data := .dict #[] }
  refine wpAny_newFunctionEnv hcell (by intro y hy; simp at hy) (fun h₁ hns₁ hsb₁ => ?_) hkind
  obtain ⟨oc, e, N⟩ := NsO.of hns₁
  have F := (F.push { cls := .type "dict", data := .dict #[] }).upd (tk := s₂.toks + ([] : List (Str × Value)).length) hsb₁ e
  have go : ∀ s₄, Fx B T s₀ fr mu L m S₂ (((s₂.heap.push { cls := .type "dict", data := .dict #[] }).objs.size, oc) :: (s₂.heap.objs.size, dictOf [] 0) :: (ows ++ rest)) s₄ → codeAny (model pw w) A (.compLoop (.DictComp kx vx [⟨.Name y px, iter, [], 0⟩] scope pos) 0 it (.ref s₂.heap.objs.size) (compEnvC scope cl ((s₂.heap.push { cls := .type "dict", data := .dict #[] }).objs.size) env)) (compPost (model pw w) A E none Q (.ref s₂.heap.objs.size) ((s₂.heap.push { cls := .type "dict", data := .dict #[] }).objs.size)) s₄ := fun s₄ F => by
    refine codeAny_compLoop_testsD (fun j s' => ∃ i out S ows rest oc mc es k, Fx B T s₀ fr mu L m S (((s₂.heap.push { cls := .type "dict", data := .dict #[] }).objs.size, oc) :: (s₂.heap.objs.size, dictOf es k) :: (ows ++ rest)) s' ∧ NsO oc mc ∧ P i S ows ∧ J i out S rest ∧ Ents w.params es out ∧ (out.map (·.1)).Nodup ∧ out.length = i ∧ i ≤ n ∧ j = n - i) ?_ n ⟨0, [], S₂, ows, rest, oc, _, [], 0, F, N, p0, j0, .nil, .nil, rfl, Nat.zero_le _, rfl⟩
    rintro j s' ⟨i, out, S, ows, rest, oc, mc, es, k, F, N, p, jj, Ex, nd, ho, hi, rfl⟩
    have F := F.perm (own' := ows ++ (((s₂.heap.push { cls := .type "dict", data := .dict #[] }).objs.size, oc) :: (s₂.heap.objs.size, dictOf es k) :: rest)) (List.perm_append_comm_assoc [_, _] ows rest)
    by_cases hlt : i < n
    · refine X.item hlt p F fun v s₁ ows' F p' hv => ?_
      have F := F.perm (own' := ((s₂.heap.push { cls := .type "dict", data := .dict #[] }).objs.size, oc) :: (s₂.heap.objs.size, dictOf es k) :: (ows' ++ rest)) (List.perm_append_comm_assoc ows' [_, _] rest)
      refine wpAny_assign_Name (stoO F N (fun s₂ oc' F N => ?_) rfl (lookup_relabel_local hx) (by simp [compEnvC, relabel, hkind]))
      refine wpAny_tests_nil ?_
      rw [if_pos rfl]
      refine wpAny_mono (step i out S ows' rest _ _ _ _ _ _ v _ hlt hv jj F N (by simp)) (fun kv s₃ h₃ => ?_) fun _ _ e => e
      obtain ⟨kk, t, rfl, hkk, h₃⟩ := h₃
      refine wpAny_mono h₃ (fun x s₅ h₅ => ?_) fun _ _ e => e
      obtain ⟨S', rest', oc2, mc2, F, N, M, j2⟩ := h₅
      refine dset F.swap Ex nd hkk (by omega) fun s₆ es' k' F Ex' nd' => ?_
      exact ⟨n - (i + 1), by omega, i + 1, out ++ [(kk, x)], S', ows', rest', oc2, mc2, es', k', F.swap, N, X.mono p' M, j2, Ex', nd', by simp [ho], hlt, rfl⟩
    · have : i = n := by omega
      subst this
      refine X.done p F fun s₁ F => ?_
      exact ⟨mc, N.at (F.mine _ (.head _)).1, fun h' hs' => fin _ es k out S rest _ jj Ex nd hD (F.letGo hs')⟩
  have F' : Fx B T s₀ fr mu L m S₂ (((s₂.heap.push { cls := .type "dict", data := .dict #[] }).objs.size, oc) :: (s₂.heap.objs.size, dictOf [] 0) :: (ows ++ rest)) _ := F
  refine codeAny_compStart_dict (go _ F') ?_
  exact X.self (own := ((s₂.heap.push { cls := .type "dict", data := .dict #[] }).objs.size, oc) :: (s₂.heap.objs.size, dictOf [] 0) :: rest) p0 (F'.perm (List.perm_append_comm_assoc [_, _] ows rest)) (go _ F')
end
end DescLaw
end
section
open PySem PySem.W PyProof.Rows PySem.Calls
set_option Elab.async false
set_option maxRecDepth 100000
namespace DescLaw
/-! tools for the law's own defs -/
def Scr (S : Sto) (sc : Addr) (ns : List Int) : Prop := ∃ vs n, S sc (listOf vs.toArray n) ∧ IntsAre vs ns ∧ ns.length ≤ 20
theorem Scr.mono {S S' : Sto} {sc : Addr} {ns : List Int} (h : Scr S sc ns) (k : ∀ b o, S b o → S' b o) : Scr S' sc ns := let ⟨vs, n, x, y⟩ := h; ⟨vs, n, k _ _ x, y⟩
theorem draw_range (ns : List Int) (k : Nat) {lim : Int} (h : 0 < lim) : 0 ≤ draw ns k lim ∧ draw ns k lim < lim := by
  unfold draw
  split
  · rename_i x _
    exact ⟨Int.fmod_nonneg_of_pos x h, Int.fmod_lt_of_pos x h⟩
  · exact ⟨Int.le_refl _, h⟩
theorem seqI {k : Int} {n : Nat} (h0 : 0 ≤ k) (h1 : k < n) : seqIndex? k n = some k.toNat := by
  unfold seqIndex?
  simp only [show ¬ k < 0 by omega, if_false]
  rw [if_pos (by simp; omega)]
theorem kn_next (P : Params) : nsIn (K P) mainGlobals (Str.ofString "_law_next") = some (some (.ref f__law_next)) := by kernel_rfl
theorem kp_next (P : Params) : keepIn (K P) (.ref f__law_next) = true := by kernel_rfl
section
variable {w : World} {A : Around} {E : Value → Shared → Prop} {B : Heap} {fr mu : List Addr} {s₀ s : Shared} {L : Addr} {m : Str → Option Value} {T S : Sto} {own : List (Addr × Obj)} {n : Nat} {Q : Value → Shared → Prop}
theorem nextF {sp sc : Addr} {o : Obj} {ns : List Int} {k : Nat} {lim : Int} {tl : Tok} (hB : Hp w B) (C : Cx A (L :: fr) 1) (F : Fx B T s₀ fr mu L m S ((sp, o) :: own) s) (hst : isSt o sc k) (Z : Scr S sc ns) (hk : k ≤ 1000) (hl : lim ≠ 0)
    (h : ∀ t s' o', Fx B T s₀ fr mu L m S ((sp, o') :: own) s' → isSt o' sc (k + 1 : Nat) → Q (.int (draw ns k lim) t) s') : wpAny (model pw w) A (call (.ref f__law_next) [.ref sp, .int lim tl]) Q E s := by
  obtain ⟨vs, n, z1, z2, z3⟩ := Z
  obtain ⟨h1, h2, h3, h4⟩ := F.mine _ (.head _)
  exact law_next hB C F.st F.has h1 hst h2 (F.bnone (.head _)) h4 z1 rfl rfl z2 z3 hk hl fun t s' o' O e hs => h t s' o' (F.callM O e) hs
theorem itemT {value slice : Expr} {t : Addr} {vs : List Value} {k : Int} {u : Tok} {v : Value} (ht : s.heap.get? t = some (tupOf vs)) (h0 : 0 ≤ k) (hz : vs.length ≤ 1000000) (hx : vs[k.toNat]? = some v) (h : Q v s)
    (hs : subscripted slice false (.ref t) (.int k u) = operate [.ref t, .int k u] (getItem (.ref t) (.int k u)) := by with_unfolding_all rfl) : wpAny (model pw w) A (subscriptTail value slice (.ref t) (.int k u)) Q E s := by
  have hlt : k.toNat < vs.length := (List.getElem?_eq_some_iff.mp hx).1
  have ht : IsTup s.heap t vs.toArray := ⟨_, ht, rfl, _, rfl⟩
  exact tail_any ht.typeIs slot_tuple_getitem.lookup (PyProof.Rows.getItem_tuple ht (by omega) (by omega) (j := k.toNat) (by rw [List.size_toArray]; exact seqI h0 (by omega)) (by simpa using hx) h) hs
theorem itemS {value slice : Expr} {x : Str} {tx : Tok} {k : Int} {u : Tok} {c : Nat} (F : Fx B T s₀ fr mu L m S own s) (h0 : 0 ≤ k) (hz : k < x.length) (hb : x.length ≤ 1000) (hx : x.cps[k.toNat]? = some c) (h : ∀ t s', Fx B T s₀ fr mu L m S own s' → Q (.str ⟨#[c]⟩ t) s')
    (hs : subscripted slice false (.str x tx) (.int k u) = operate [.str x tx, .int k u] (getItem (.str x tx) (.int k u)) := by with_unfolding_all rfl) : wpAny (model pw w) A (subscriptTail value slice (.str x tx) (.int k u)) Q E s :=
  tail_any (typeIs_str s x tx) PyProof.Rows.slot_str_getitem.lookup (PyProof.Rows.getItem_str (by simp only [Bool.or_eq_false_iff, decide_eq_false_iff_not]; omega) (by rw [seqI h0 (by omega)]; simpa using hx) (h _ _ F.toks)) hs
abbrev rangeO (n : Int) (t u v : Tok) : Obj := { cls := .type "range", data := .fields #[.int 0 t, .int n u, .int 1 v] }
theorem callRange {n : Int} {u : Tok} (F : Fx B T s₀ fr mu L m S own s) (h : ∀ r t v s', Fx B T s₀ fr mu L m S ((r, rangeO n t u v) :: own) s' → Q (.ref r) s') : wpAny (model pw w) A (call (.type "range") [.int n u]) Q E s :=
  call_range_1 (h _ _ _ _ ((F.toks (tk := s.toks + 1 + 1)).push _))
theorem range_size (n : Nat) : Builtin.Range.rangeSize 0 n 1 = n := by
  unfold Builtin.Range.rangeSize
  simp
  try omega
theorem range_small {n : Nat} (hn : n ≤ 1000) : Builtin.Range.small 0 n 1 = true := by
  have f : ∀ k : Nat, k ≤ 1000 → Builtin.Range.rangeFitsLong (k : Int) = true := fun k hk => by
    unfold Builtin.Range.rangeFitsLong
    simp
    omega
  have f0 := f 0 (by omega)
  have f1 := f 1 (by omega)
  unfold Builtin.Range.small
  rw [range_size]
  simp only [Bool.and_eq_true, Bool.or_eq_true]
  exact ⟨⟨⟨⟨f0, f n hn⟩, f1⟩, f n hn⟩, .inr (by simpa using f n hn)⟩
theorem iterRange {r : Addr} {n : Nat} {t u v : Tok} (F : Fx B T s₀ fr mu L m S ((r, rangeO n t u v) :: own) s) (hn : n ≤ 1000) (h : ∀ I s' ows, Fx B T s₀ fr mu L m S (ows ++ own) s' → RI I 0 1 n 0 S ows → Q (.ref I) s') : wpAny (model pw w) A (pyIter (.ref r)) Q E s := by
  refine wpAny_pyIter_range (F.mine _ (.head _)).1 (range_small hn) ?_
  rw [range_size]
  have F := (F.push { cls := .type "range_iterator", data := .fields #[rawInt 0, rawInt n, rawInt 1] }).swap.drop
  exact h _ _ [(_, _)] F ⟨_, rfl, by simp⟩
end
end DescLaw
end
section
open PySem PySem.W PyProof.Rows PySem.Calls
set_option Elab.async false
set_option maxRecDepth 100000
namespace DescLaw
/-! _law_document -/
def KOk : Nat → Doc → Prop
  | 0, _ => True
  | n + 1, d => ∀ p ∈ d.kids, p.1 ∈ steps ∧ KOk n p.2
def cost : Nat → Nat
  | 0 => 2
  | n + 1 => 2 + 3 * cost n
def DocSpec (w : World) (B : Heap) (deep : Nat) : Prop :=
  ∀ {A : Around} {fr : List Addr} {s : Shared} {S : Sto} {sp sc : Addr} {ns : List Int} {k : Nat} {o : Obj} {t : Tok} {E : Value → Shared → Prop} {Q : Value → Shared → Prop}, Cx A fr (3 * deep + 4) → St B fr s → Has S fr s → s.heap.get? sp = some o → isSt o sc k → sp ∉ fr → B.get? sp = none → (∀ o, ¬ S sp o) → Scr S sc ns → k + cost deep ≤ 900 →
    (∀ (d : Doc) (s' : Shared) (S' : Sto) (o' : Obj) (k' : Nat), Out fr [sp] S s S' s' → s'.heap.get? sp = some o' → isSt o' sc k' → k' ≤ k + cost deep → DocAt w.params S' d → Fit deep d → KOk deep d → Q d.val s') → wpAny (model pw w) A (call (.ref f__law_document) [.ref sp, .int deep t]) Q E s
theorem kn_doc (P : Params) : nsIn (K P) mainGlobals (Str.ofString "_law_document") = some (some (.ref f__law_document)) := by kernel_rfl
theorem kp_doc (P : Params) : keepIn (K P) (.ref f__law_document) = true := by kernel_rfl
theorem fit_leaf (n : Nat) (v : Value) : Fit n (.leaf v) := by
  cases n with
  | zero => rfl
  | succ n => exact ⟨by simp [Doc.kids], fun p hp => by simp [Doc.kids] at hp⟩
theorem kok_leaf (n : Nat) (v : Value) : KOk n (.leaf v) := by
  cases n with
  | zero => trivial
  | succ n => exact fun p hp => by simp [Doc.kids] at hp
theorem cost_ge (n : Nat) : 2 ≤ cost n := by cases n <;> simp only [cost] <;> omega
def abc : List Str := ["a", "b", "c"]
theorem abc_at : ∀ i : Nat, i < 3 → ∃ c, (Str.ofString "abc").cps[i]? = some c ∧ abc[i]? = some ⟨#[c]⟩
  | 0, _ => ⟨97, by decide +kernel, by decide +kernel⟩
  | 1, _ => ⟨98, by decide +kernel, by decide +kernel⟩
  | 2, _ => ⟨99, by decide +kernel, by decide +kernel⟩
theorem abc_steps : ∀ k ∈ abc, Step.key k ∈ steps := by decide +kernel
theorem abc_nodup : abc.Nodup := by decide +kernel
theorem abc_new : ∀ (i : Nat) (kk : Str), abc[i]? = some kk → kk ∉ abc.take i
  | 0, kk, _ => by simp
  | 1, kk, h => by
    obtain rfl : Str.ofString "b" = kk := Option.some.inj h
    decide +kernel
  | 2, kk, h => by
    obtain rfl : Str.ofString "c" = kk := Option.some.inj h
    decide +kernel
  | n + 3, kk, h => by
    have h : ([] : List Str)[n]? = some kk := h
    simp at h
theorem take_snoc {α : Type} {l : List α} {i : Nat} {x : α} (h : l[i]? = some x) : l.take (i + 1) = l.take i ++ [x] := by rw [List.take_add_one, h]; rfl
theorem idx_steps : ∀ i : Nat, i < 3 → Step.idx i ∈ steps
  | 0, _ => by decide +kernel
  | 1, _ => by decide +kernel
  | 2, _ => by decide +kernel
theorem doc_spec (w : World) (B : Heap) (hB : Hp w B) (deep : Nat) (hd : deep ≤ 2) (hrec : ∀ n, deep = n + 1 → DocSpec w B n) : DocSpec w B deep := by
  intro A fr s S sp sc ns k o t E Q C st H ho hst hfr hb hS Z hk h
  have C : Cx A fr (3 * deep + 3 + 1) := C
  have hcg := cost_ge deep
  have hcl : cost deep ≤ 26 := by
    match deep, hd with
    | 0, _ => decide
    | 1, _ => decide
    | 2, _ => decide
  refine wpAny_call ?_
  refine enterC (n := 3 * deep + 3) (own := [(sp, o)]) (mu := [sp]) (S := S) (binds := [(Str.ofString "state", .ref sp), (Str.ofString "deep", .int deep t)]) (.one ho hfr hb hS) hB C st H (by rfl) (by kernel_rfl) (BindsTo.of_eq rfl) (by rfl) (by decide) (fun L h₁ tk cells Ce F C' => ?_) rfl rfl rfl
  obtain ⟨o2, o1, rfl, h2, h1⟩ := Ce.two
  have F := F.perm (own' := [(sp, o), (L + 1, o1), (L + 1 + 1, o2)]) (List.reverse_perm _).symm
  obtain ⟨m0, F⟩ : ∃ m0, Fx B S s fr [sp] L m0 S [(sp, o), (L + 1, o1), (L + 1 + 1, o2)] { s with heap := h₁, toks := tk } := ⟨_, F⟩
  obtain ⟨lim, hlim, hl0⟩ : ∃ lim : Int, ((deep = 0 ∧ lim = 4) ∨ (∃ n, deep = n + 1 ∧ lim = 6)) ∧ 0 < lim := by
    cases deep with
    | zero => exact ⟨4, .inl ⟨rfl, rfl⟩, by decide⟩
    | succ n => exact ⟨6, .inr ⟨n, rfl, rfl⟩, by decide⟩
  -- pick
  refine wpAny_execs_cons (asg (cf (hB.at F.st) (kn_next _) (kp_next _) (spliced_more (nmC F (.tail _ (.head _)) h1 (spliced_more (wpAny_mono (Q := fun v s' => ∃ t, v = .int lim t ∧ Fx B S s fr [sp] L m0 S [(sp, o), (L + 1, o1), (L + 1 + 1, o2)] s') (wpAny_IfExp (wpAny_isTrue_Compare1 (nmC F (.tail _ (.tail _ (.head _))) h2 (cint F fun _ s₁ F => gt_int (wpAny_truthy_bool ?_))))) ?_ fun _ _ x => x))))))
  · rcases hlim with ⟨e1, e2⟩ | ⟨n, e1, e2⟩
    · rw [if_neg (by rw [decide_eq_true_eq]; omega), e2]
      exact cint F fun t s₂ F => ⟨t, rfl, F⟩
    · rw [if_pos (by rw [decide_eq_true_eq]; omega), e2]
      exact cint F fun t s₂ F => ⟨t, rfl, F⟩
  rintro v s₂ ⟨tl, rfl, F⟩
  refine spliced_none ⟨(hB.at F.st).k, nextF hB (C'.le (by omega)) F hst Z (by omega) (by omega) fun tp s₃ o F hst => sto F fun s₄ F => ?_⟩
  obtain ⟨p0, p1⟩ := draw_range ns k hl0
  generalize draw ns k lim = p at F p0 p1
  -- if pick == 0
  refine wpAny_execs_cons (wpAny_If (wpAny_isTrue_Compare1 (nm F rfl (cint F fun _ s₅ F => eq_int (wpAny_truthy_bool ?_)))))
  by_cases hp0 : p = 0
  · rw [if_pos (by simpa using hp0)]
    refine wpAny_execs_cons (wpAny_Return_some (cf (hB.at F.st) (kn_next _) (kp_next _) (spliced_more (nmC F (.tail _ (.head _)) h1 (spliced_more (cint F fun _ s₆ F => spliced_none ⟨(hB.at F.st).k, nextF hB (C'.le (by omega)) F hst Z (by omega) (by decide) fun tq s₇ o F hst => ?_⟩))))))
    exact h (.leaf (.int (draw ns (k + 1) 5) tq)) _ _ o _ (F.out (by simp)) (F.mine _ (.head _)).1 hst (by omega) (.leaf rfl) (fit_leaf _ _) (kok_leaf _ _)
  rw [if_neg (by simpa using hp0)]
  -- if pick < 4
  refine wpAny_execs_nil (wpAny_execs_cons (wpAny_If (wpAny_isTrue_Compare1 (nm F rfl (cint F fun _ s₅ F => lt_int (wpAny_truthy_bool ?_))))))
  by_cases hp4 : p < 4
  · rw [if_pos (by simpa using hp4)]
    refine wpAny_execs_cons (wpAny_Return_some (Subscript_ (Tuple_ (spliced_more (cstr F fun tx s₆ F => spliced_more (wpAny_Constant_bool (spliced_more (wpAny_Constant_none (spliced_none (newT F fun tup s₇ F => ?_))))))))))
    refine wpAny_BinOp (nm F rfl (cint F fun _ s₈ F => subI F fun tq s₉ F => ?_))
    have hx : ∃ v, isLeaf v = true ∧ [Value.str (Str.ofString "x") tx, .bool true, .none][(p - 1).toNat]? = some v := by
      have : p = 1 ∨ p = 2 ∨ p = 3 := by omega
      rcases this with rfl | rfl | rfl
      · exact ⟨_, rfl, rfl⟩
      · exact ⟨_, rfl, rfl⟩
      · exact ⟨_, rfl, rfl⟩
    obtain ⟨v, hv, hx⟩ := hx
    exact itemT (F.mine _ (.head _)).1 (by omega) (by simp) hx (h (.leaf v) _ _ o _ (F.drop.out (by simp)) (F.mine _ (.tail _ (.head _))).1 hst (by omega) (.leaf hv) (fit_leaf _ _) (kok_leaf _ _))
  rw [if_neg (by simpa using hp4)]
  obtain ⟨n, hdn⟩ : ∃ n, deep = n + 1 := by
    rcases hlim with ⟨_, e2⟩ | ⟨n, e1, _⟩
    · omega
    · exact ⟨n, e1⟩
  have hcn : cost deep = 2 + 3 * cost n := by rw [hdn]; rfl
  -- many
  refine wpAny_execs_nil (wpAny_execs_cons (asg (cf (hB.at F.st) (kn_next _) (kp_next _) (spliced_more (nmC F (.tail _ (.head _)) h1 (spliced_more (cint F fun _ s₆ F => spliced_none ⟨(hB.at F.st).k, nextF hB (C'.le (by omega)) F hst Z (by omega) (by decide) fun tq s₇ o F hst => sto F fun s₈ F => ?_⟩)))))))
  obtain ⟨q0, q1⟩ := draw_range ns (k + 1) (lim := 4) (by decide)
  obtain ⟨q, hq⟩ : ∃ q : Nat, draw ns (k + 1) 4 = q := ⟨(draw ns (k + 1) 4).toNat, by omega⟩
  rw [hq] at F q0 q1
  have hq3 : q ≤ 3 := by omega
  have hsub : ((deep : Nat) : Int) - 1 = (n : Int) := by omega
  have keep : ∀ {S' : Sto} {m' own' s'} , Fx B S s fr [sp] L m' S' own' s' → Scr S' sc ns := fun F => Z.mono F.sub
  -- if pick == 4
  refine wpAny_execs_cons (wpAny_If (wpAny_isTrue_Compare1 (nm F rfl (cint F fun _ s₉ F => eq_int (wpAny_truthy_bool ?_)))))
  by_cases hp5 : p = 4
  · rw [if_pos (by simpa using hp5)]
    refine wpAny_execs_cons (wpAny_Return_some (dcomp hB F (cl := [(Str.ofString "state", L + 1), (Str.ofString "deep", L + 1 + 1)]) rfl ?_))
    refine cbt (hB.at F.st) (kn_range _) bn_range (spliced_more (nm F rfl (spliced_none (callRange F fun r _ _ s₁₀ F => iterRange F (by omega) fun I s₁₁ ows F p0 => ?_))))
    refine ⟨S, ows, [(sp, o), (L + 1, o1), (L + 1 + 1, o2)], q, _, _, fun i out S' rest => ∃ (o' : Obj) (k' : Nat), rest = [(sp, o'), (L + 1, o1), (L + 1 + 1, o2)] ∧ isSt o' sc k' ∧ k' ≤ k + 2 + i * cost n ∧ (∀ a o, S a o → S' a o) ∧ ∃ cs : List (Str × Doc), out = cs.map (fun p => (p.1, p.2.val)) ∧ cs.map (·.1) = abc.take i ∧ ∀ p ∈ cs, DocAt w.params S' p.2 ∧ Fit n p.2 ∧ KOk n p.2, by omega, F, p0, Itn.range C'.handled, ⟨o, _, rfl, hst, by omega, fun _ _ q => q, [], rfl, rfl, fun p hp => by cases hp⟩,
      fun i out S₁ ows₁ rest s₁₂ C₁ oc D od mc v E' hi hv J F N hk1 => ?_, fun D es kd out S₁ rest s₁₂ J Ex nd hsm F => ?_⟩
    · obtain ⟨o', k', rfl, hst', hk', M, cs, rfl, hcs, hall⟩ := J
      obtain ⟨tv, rfl⟩ := hv
      obtain ⟨c, hc, habc⟩ := abc_at i (by omega)
      refine Subscript_ (cstr F fun tx s₁₃ F => nmO F (.head _) N hk1 (itemS F (by omega) ?_ (by decide +kernel) (c := c) (by rw [show (0 + (i : Int) * 1).toNat = i by omega]; exact hc) fun tk s₁₄ F => ⟨_, tk, rfl, ?_, ?_⟩))
      · have : (Str.ofString "abc").length = 3 := by decide +kernel
        rw [this]; omega
      · rw [List.map_map, show ((fun x : Str × Value => x.1) ∘ fun p : Str × Doc => (p.1, p.2.val)) = (·.1) from rfl, hcs]
        exact abc_new i _ habc
      · refine cf (hB.at F.st) (kn_doc _) (kp_doc _) (spliced_more (nmC (c := L + 1) (o := o1) F (by simp) h1 (spliced_more (wpAny_BinOp (nmC (c := L + 1 + 1) (o := o2) F (by simp) h2 (cint F fun _ s₁₅ F => subI F fun td s₁₆ F => spliced_none ⟨(hB.at F.st).k, ?_⟩))))))
        rw [hsub]
        have F := F.perm (own' := (sp, o') :: (C₁, oc) :: (D, od) :: (ows₁ ++ [(L + 1, o1), (L + 1 + 1, o2)])) (List.perm_middle (l₁ := (C₁, oc) :: (D, od) :: ows₁))
        obtain ⟨g1, g2, g3, g4⟩ := F.mine _ (.head _)
        refine hrec n hdn (C'.le (by omega)) F.st F.has g1 hst' g2 (F.bnone (.head _)) g4 (keep F) ?_ fun d s₁₇ S₂ o3 k3 O e hst3 hk3 dd df dk => ?_
        · have : i * cost n + cost n ≤ 3 * cost n := by rw [← Nat.succ_mul]; exact Nat.mul_le_mul_right _ (by omega)
          omega
        · have F := (F.callM O e).perm (own' := (C₁, oc) :: (D, od) :: (ows₁ ++ [(sp, o3), (L + 1, o1), (L + 1 + 1, o2)])) (List.perm_middle (l₁ := (C₁, oc) :: (D, od) :: ows₁)).symm
          refine ⟨S₂, _, oc, mc, F, N, O.sub, o3, k3, rfl, hst3, ?_, fun a o q => O.sub _ _ (M _ _ q), cs ++ [(⟨#[c]⟩, d)], by simp, ?_, fun p hp => ?_⟩
          · rw [Nat.succ_mul]; omega
          · rw [List.map_append, hcs, take_snoc habc]; rfl
          · rcases List.mem_append.mp hp with hp | hp
            · obtain ⟨x1, x2, x3⟩ := hall p hp
              exact ⟨x1.mono O.sub, x2, x3⟩
            · rw [List.mem_singleton.mp hp]; exact ⟨dd, df, dk⟩
    · obtain ⟨o', k', rfl, hst', hk', M, cs, rfl, hcs, hall⟩ := J
      have hlen : cs.length = q := by
        have := congrArg List.length hcs
        rw [List.length_map, List.length_take, show abc.length = 3 from rfl] at this; omega
      refine h (.dict D cs) _ _ o' k' (F.freeze.out (by simp)) (F.mine _ (.tail _ (.head _))).1 hst' ?_ (.dict hsm (.inr ⟨rfl, rfl⟩) Ex ?_ fun p hp => (hall p hp).1.mono fun _ _ q => .inl q) ?_ ?_
      · have : q * cost n ≤ 3 * cost n := Nat.mul_le_mul_right _ hq3
        omega
      · rwa [List.map_map] at nd
      · rw [hdn]
        refine ⟨by simp [Doc.kids]; omega, fun p hp => ?_⟩
        obtain ⟨x, hx, rfl⟩ := List.mem_map.mp hp
        exact (hall x hx).2.1
      · rw [hdn]
        intro p hp
        obtain ⟨x, hx, rfl⟩ := List.mem_map.mp hp
        refine ⟨abc_steps x.1 (List.mem_of_mem_take (i := q) ?_), (hall x hx).2.2⟩
        rw [← hcs]; exact List.mem_map_of_mem hx
  rw [if_neg (by simpa using hp5)]
  refine wpAny_execs_nil (wpAny_execs_cons (wpAny_Return_some (lcomp F (cl := [(Str.ofString "state", L + 1), (Str.ofString "deep", L + 1 + 1)]) rfl ?_)))
  refine cbt (hB.at F.st) (kn_range _) bn_range (spliced_more (nm F rfl (spliced_none (callRange F fun r _ _ s₁₀ F => iterRange F (by omega) fun I s₁₁ ows F p0 => ?_))))
  refine ⟨S, ows ++ [(sp, o), (L + 1, o1), (L + 1 + 1, o2)], q, _, fun out S' rest => ∃ (o' : Obj) (k' : Nat), rest = [(sp, o'), (L + 1, o1), (L + 1 + 1, o2)] ∧ isSt o' sc k' ∧ k' ≤ k + 2 + q * cost n ∧ (∀ a o, S a o → S' a o) ∧ ∃ ds : List Doc, out = ds.map Doc.val ∧ ds.length = q ∧ ∀ d ∈ ds, DocAt w.params S' d ∧ Fit n d ∧ KOk n d, Nat.le_trans hq3 three_ok, F, ⟨ows, _, rfl, p0, o, _, rfl, hst, by omega, fun _ _ q => q, [], rfl, rfl, fun p hp => by cases hp⟩,
    LTurns.of (Itn.range C'.handled) (fun i out S' rest => ∃ (o' : Obj) (k' : Nat), rest = [(sp, o'), (L + 1, o1), (L + 1 + 1, o2)] ∧ isSt o' sc k' ∧ k' ≤ k + 2 + i * cost n ∧ (∀ a o, S a o → S' a o) ∧ ∃ ds : List Doc, out = ds.map Doc.val ∧ ds.length = i ∧ ∀ d ∈ ds, DocAt w.params S' d ∧ Fit n d ∧ KOk n d) rfl rfl (fun i out S₁ ows₁ rest s₁₂ C₁ oc D od mc v E' hi hv J F N hk1 => ?_) (fun out S₁ rest J => J), fun D out S₁ rest kd s₁₂ J F => ?_⟩
  · obtain ⟨o', k', rfl, hst', hk', M, ds, rfl, hcs, hall⟩ := J
    refine wpAny_tests_nil ?_
    rw [if_pos rfl]
    refine cf (hB.at F.st) (kn_doc _) (kp_doc _) (spliced_more (nmC (c := L + 1) (o := o1) F (by simp) h1 (spliced_more (wpAny_BinOp (nmC (c := L + 1 + 1) (o := o2) F (by simp) h2 (cint F fun _ s₁₅ F => subI F fun td s₁₆ F => spliced_none ⟨(hB.at F.st).k, ?_⟩))))))
    rw [hsub]
    have F := F.perm (own' := (sp, o') :: (C₁, oc) :: (D, od) :: (ows₁ ++ [(L + 1, o1), (L + 1 + 1, o2)])) (List.perm_middle (l₁ := (C₁, oc) :: (D, od) :: ows₁))
    obtain ⟨g1, g2, g3, g4⟩ := F.mine _ (.head _)
    refine hrec n hdn (C'.le (by omega)) F.st F.has g1 hst' g2 (F.bnone (.head _)) g4 (keep F) ?_ fun d s₁₇ S₂ o3 k3 O e hst3 hk3 dd df dk => ?_
    · have : i * cost n + cost n ≤ 3 * cost n := by rw [← Nat.succ_mul]; exact Nat.mul_le_mul_right _ (by omega)
      omega
    · have F := (F.callM O e).perm (own' := (C₁, oc) :: (D, od) :: (ows₁ ++ [(sp, o3), (L + 1, o1), (L + 1 + 1, o2)])) (List.perm_middle (l₁ := (C₁, oc) :: (D, od) :: ows₁)).symm
      refine ⟨S₂, _, oc, mc, F, N, O.sub, o3, k3, rfl, hst3, ?_, fun a o q => O.sub _ _ (M _ _ q), ds ++ [d], by simp, by simp [hcs], fun p hp => ?_⟩
      · rw [Nat.succ_mul]; omega
      · rcases List.mem_append.mp hp with hp | hp
        · obtain ⟨x1, x2, x3⟩ := hall p hp
          exact ⟨x1.mono O.sub, x2, x3⟩
        · rw [List.mem_singleton.mp hp]; exact ⟨dd, df, dk⟩
  · obtain ⟨o', k', rfl, hst', hk', M, ds, rfl, hlen, hall⟩ := J
    refine h (.list D ds) _ _ o' k' (F.freeze.out (by simp)) (F.mine _ (.tail _ (.head _))).1 hst' ?_ (.list (.inr ⟨rfl, rfl⟩) fun d hd => (hall d hd).1.mono fun _ _ q => .inl q) ?_ ?_
    · have : q * cost n ≤ 3 * cost n := Nat.mul_le_mul_right _ hq3
      omega
    · rw [hdn]
      refine ⟨by simp [Doc.kids]; omega, fun p hp => ?_⟩
      obtain ⟨x, hx, rfl⟩ := List.mem_map.mp hp
      exact (hall x.1 (List.fst_mem_of_mem_zipIdx hx)).2.1
    · rw [hdn]
      intro p hp
      obtain ⟨x, hx, rfl⟩ := List.mem_map.mp hp
      refine ⟨idx_steps x.2 ?_, (hall x.1 (List.fst_mem_of_mem_zipIdx hx)).2.2⟩
      have := List.snd_lt_of_mem_zipIdx hx
      omega
theorem doc_all (w : World) (B : Heap) (hB : Hp w B) : ∀ n, n ≤ 2 → DocSpec w B n
  | 0, h => doc_spec w B hB 0 h fun n e => by cases e
  | n + 1, h => doc_spec w B hB (n + 1) h fun m e => by
    obtain rfl : n = m := by omega
    exact doc_all w B hB n (by omega)
end DescLaw
end
section
open PySem PySem.W PyProof.Rows PySem.Calls
set_option Elab.async false
set_option maxRecDepth 100000
namespace DescLaw
/-! _law_step -/
section
variable {w : World} {B : Heap} {A : Around} {fr : List Addr} {s : Shared} {S : Sto}
theorem slice_init {R : Result → Shared → Prop} {x dx : Addr} {a b : Int} {ta tb : Tok} (hB : Hp w B) (C : Cx A fr 2) (st : St B fr s) (H : Has S fr s) (hx : S x (instObj C_Slice dx)) (ho : s.heap.get? dx = some (dictOf [] 0)) (hf : dx ∉ fr) (hb : B.get? dx = none) (hn : ∀ o, ¬ S dx o)
    (h : ∀ s' es n as, Out fr [dx] S s S s' → s'.heap.get? dx = some (dictOf es n) → Ents w.params es as → (∀ k, as.lookup k = [(Str.ofString "_deprecated_wildcard_use", .bool false), (Str.ofString "start", .int a ta), (Str.ofString "end", .none), (Str.ofString "step", .int b tb)].lookup k) → R (.ok (.ret .none)) s') :
    codeAny (model pw w) A (.call (.ref f_Slice__init_) ⟨[.ref x, .int a ta, .none, .int b tb], []⟩) R s := by
  refine enter (n := 1) (own := [(dx, dictOf [] 0)]) (mu := [dx]) (S := S) (binds := [(Str.ofString "self", .ref x), (Str.ofString "start", .int a ta), (Str.ofString "end", .none), (Str.ofString "step", .int b tb)]) (.one ho hf hb hn) hB C st H (by rfl) (by kernel_rfl) (binds_K (hB.at st).k rfl rfl rfl rfl rfl) (by decide) (locs rfl) (fun L h₁ tk F C' => ?_) rfl rfl rfl
  refine wpAny_execs_cons (plainObj_wpAny_Assign_Attribute (BoolOp_and (wpAny_Compare1 (nm F rfl (wpAny_Constant_none (is_int_none (wpAny_truthy_bool ?_)))))))
  rw [if_neg (by decide)]
  refine nm F rfl (setA hB F hx .nil (by kernel_rfl) (by kernel_rfl) (by kernel_rfl) (by kernel_rfl) (by decide) fun s₁ es1 n1 as1 F X1 l1 z1 => ?_)
  have z1 : as1.length ≤ 1 := z1
  refine wpAny_execs_cons (plainObj_wpAny_Assign_Attribute (nm F rfl (nm F rfl (setA hB F hx X1 (by kernel_rfl) (by kernel_rfl) (by kernel_rfl) (by kernel_rfl) (by omega) fun s₂ es2 n2 as2 F X2 l2 z2 => ?_))))
  refine wpAny_execs_cons (plainObj_wpAny_Assign_Attribute (nm F rfl (nm F rfl (setA hB F hx X2 (by kernel_rfl) (by kernel_rfl) (by kernel_rfl) (by kernel_rfl) (by omega) fun s₃ es3 n3 as3 F X3 l3 z3 => ?_))))
  refine wpAny_execs_cons (plainObj_wpAny_Assign_Attribute (nm F rfl (nm F rfl (setA hB F hx X3 (by kernel_rfl) (by kernel_rfl) (by kernel_rfl) (by kernel_rfl) (by omega) fun s₄ es4 n4 as4 F X4 l4 z4 => ?_))))
  refine wpAny_execs_nil (h _ _ _ _ (F.out (by simp)) (F.mine _ (.head _)).1 X4 fun k => ?_)
  rw [l4, l3, l2, l1]
  simp only [List.lookup_cons, List.lookup_nil]
  by_cases k1 : k = Str.ofString "step"
  · subst k1; rfl
  · by_cases k2 : k = Str.ofString "end"
    · subst k2; rfl
    · by_cases k3 : k = Str.ofString "start"
      · subst k3; rfl
      · by_cases k4 : k = Str.ofString "_deprecated_wildcard_use"
        · subst k4; rfl
        · simp [k1, k2, k3, k4, beq_eq_false_iff_ne.mpr]
end
section
variable {w : World} {A : Around} {E : Value → Shared → Prop} {B : Heap} {fr mu : List Addr} {s₀ s : Shared} {L : Addr} {m : Str → Option Value} {T S : Sto} {own : List (Addr × Obj)} {n : Nat} {Q : Value → Shared → Prop}
theorem slice_ {a b : Int} {ta tb : Tok} (hz : sliceOk a b) (hB : Hp w B) (C : Cx A (L :: fr) (n + 3)) (F : Fx B T s₀ fr mu L m S own s) (h : ∀ x s' S', Fx B T s₀ fr mu L m S' own s' → (∀ a o, S a o → S' a o) → PathAt w.params S' (.ref x) (.slice a b) → Q (.ref x) s') :
    wpAny (model pw w) A (call (.ref C_Slice) [.int a ta, .none, .int b tb]) Q E s := by
  refine mk hB F (by kernel_rfl) (fI := f_Slice__init_) (by kernel_rfl) (by kernel_rfl) fun x dx s₁ F hx hdx => ?_
  obtain ⟨h1, h2, h3, h4⟩ := F.mine _ (.head _)
  refine slice_init hB (C.le (k := 3) (by omega)).make F.st F.has (S.add_here _ _) h1 h2 (F.bnone (.head _)) h4 fun s' es k as O e X hl => ⟨rfl, ?_⟩
  exact h x s' _ (F.callM O e).freeze (fun a o q => .inl (.inl q)) (.slice hz ⟨dx, es, k, as, .inl (.inr ⟨rfl, rfl⟩), .inr ⟨rfl, rfl⟩, X, hl⟩)
theorem plain_ {D : Addr} {p : Path} (hB : Hp w B) (F : Fx B T s₀ fr mu L m S own s) (hm : makesIn (K w.params) D = true) (hi : findIn (K w.params) (.ref D) "__init__" = some (some (.builtin "object.__init__")))
    (hp : ∀ x S', Inst w.params S' x D [] → PathAt w.params S' (.ref x) p) (h : ∀ x s' S', Fx B T s₀ fr mu L m S' own s' → (∀ a o, S a o → S' a o) → PathAt w.params S' (.ref x) p → Q (.ref x) s') :
    wpAny (model pw w) A (call (.ref D) [] []) Q E s :=
  mk0 hB F hm hi fun x dx s' F _ _ => h x s' _ F (fun a o q => .inl (.inl q)) (hp x _ ⟨dx, [], 0, [], .inl (.inr ⟨rfl, rfl⟩), .inr ⟨rfl, rfl⟩, .nil, fun _ => rfl⟩)
theorem this_ (hB : Hp w B) (F : Fx B T s₀ fr mu L m S own s) (h : ∀ x s' S', Fx B T s₀ fr mu L m S' own s' → (∀ a o, S a o → S' a o) → PathAt w.params S' (.ref x) .this → Q (.ref x) s') : wpAny (model pw w) A (call (.ref C_This) [] []) Q E s :=
  plain_ hB F (by kernel_rfl) (by kernel_rfl) (fun _ _ i => .this i) h
theorem wild_ (hB : Hp w B) (F : Fx B T s₀ fr mu L m S own s) (h : ∀ x s' S', Fx B T s₀ fr mu L m S' own s' → (∀ a o, S a o → S' a o) → PathAt w.params S' (.ref x) .wild → Q (.ref x) s') : wpAny (model pw w) A (call (.ref C_Wildcard) [] []) Q E s :=
  plain_ hB F (by kernel_rfl) (by kernel_rfl) (fun _ _ i => .wild i) h
theorem root_ (hB : Hp w B) (F : Fx B T s₀ fr mu L m S own s) (h : ∀ x s' S', Fx B T s₀ fr mu L m S' own s' → (∀ a o, S a o → S' a o) → PathAt w.params S' (.ref x) .root → Q (.ref x) s') : wpAny (model pw w) A (call (.ref C_Root) [] []) Q E s :=
  plain_ hB F (by kernel_rfl) (by kernel_rfl) (fun _ _ i => .root i) h
end
/-- a step that the law makes -/
def isStep : Path → Prop
  | .this => True
  | .wild => True
  | .fields ks => ∃ x, x ∈ abc ∧ ks = [x, "b"]
  | .index _ => True
  | .slice a b => sliceOk a b
  | _ => False
theorem kn_Slice (P : Params) : nsIn (K P) mainGlobals (Str.ofString "Slice") = some (some (.ref C_Slice)) := by kernel_rfl
theorem kp_Slice (P : Params) : keepIn (K P) (.ref C_Slice) = true := by kernel_rfl
theorem kn_Wild (P : Params) : nsIn (K P) mainGlobals (Str.ofString "Wildcard") = some (some (.ref C_Wildcard)) := by kernel_rfl
theorem kp_Wild (P : Params) : keepIn (K P) (.ref C_Wildcard) = true := by kernel_rfl
theorem abc_star : ∀ x ∈ abc, [x, Str.ofString "b"].any (· == Str.ofString "*") = false := by decide +kernel
theorem law_step {w : World} {B : Heap} {A : Around} {fr : List Addr} {s : Shared} {S : Sto} {sp sc : Addr} {ns : List Int} {k : Nat} {o : Obj} {E : Value → Shared → Prop} {Q : Value → Shared → Prop} (hB : Hp w B) (C : Cx A fr 6) (st : St B fr s) (H : Has S fr s) (ho : s.heap.get? sp = some o) (hst : isSt o sc k) (hfr : sp ∉ fr) (hb : B.get? sp = none) (hS : ∀ o, ¬ S sp o) (Z : Scr S sc ns) (hk : k ≤ 900)
    (h : ∀ (x : Addr) (p : Path) (s' : Shared) (S' : Sto) (o' : Obj) (k' : Nat), Out fr [sp] S s S' s' → s'.heap.get? sp = some o' → isSt o' sc k' → k' ≤ k + 3 → PathAt w.params S' (.ref x) p → isStep p → Q (.ref x) s') : wpAny (model pw w) A (call (.ref f__law_step) [.ref sp]) Q E s := by
  refine wpAny_call ?_
  refine enter (n := 5) (own := [(sp, o)]) (mu := [sp]) (S := S) (binds := [(Str.ofString "state", .ref sp)]) (.one ho hfr hb hS) hB C st H (by rfl) (by kernel_rfl) (BindsTo.of_eq rfl) (by decide) (locs rfl) (fun L h₁ tk F C' => ?_) rfl rfl rfl
  refine wpAny_execs_cons (asg (cf (hB.at F.st) (kn_next _) (kp_next _) (spliced_more (nm F rfl (spliced_more (cint F fun _ s₁ F => spliced_none ⟨(hB.at F.st).k, nextF hB (C'.le (by omega)) F hst Z (by omega) (by decide) fun tp s₂ o F hst => sto F fun s₃ F => ?_⟩))))))
  obtain ⟨p0, p1⟩ := draw_range ns k (lim := 5) (by decide)
  generalize draw ns k 5 = p at F p0 p1
  refine wpAny_execs_cons (wpAny_If (wpAny_isTrue_Compare1 (nm F rfl (cint F fun _ s₅ F => eq_int (wpAny_truthy_bool ?_)))))
  by_cases hp0 : p = 0
  · rw [if_pos (by simpa using hp0)]
    refine wpAny_execs_cons (wpAny_Return_some (cf (hB.at F.st) (kn_Fields _) (kp_Fields _) (spliced_more (Subscript_ (cstr F fun tx s₆ F => ?_)))))
    refine cf (hB.at F.st) (kn_next _) (kp_next _) (spliced_more (nm F rfl (spliced_more (cint F fun _ s₇ F => spliced_none ⟨(hB.at F.st).k, nextF hB (C'.le (by omega)) F hst Z (by omega) (by decide) fun tq s₈ o F hst => ?_⟩))))
    obtain ⟨q0, q1⟩ := draw_range ns (k + 1) (lim := 3) (by decide)
    generalize draw ns (k + 1) 3 = q at F q0 q1
    obtain ⟨c, hc, habc⟩ := abc_at q.toNat (by omega)
    have hmem : (⟨#[c]⟩ : Str) ∈ abc := List.mem_of_getElem? habc
    refine itemS F q0 ?_ (by decide +kernel) (c := c) hc fun tk s₉ F => spliced_more (cstr F fun tb s₁₀ F => spliced_none ⟨(hB.at F.st).k, ?_⟩)
    · have : (Str.ofString "abc").length = 3 := by decide +kernel
      rw [this]; omega
    refine fields_ (n := 2) (ks := [⟨#[c]⟩, Str.ofString "b"]) (.inr ⟨_, _, rfl⟩) (.cons (.cons .nil)) (abc_star _ hmem) hB C' F fun x s₁₁ S₁ F M pa => ?_
    exact h x _ _ _ o _ (F.out (by simp)) (F.mine _ (.head _)).1 hst (by omega) pa ⟨_, hmem, rfl⟩
  rw [if_neg (by simpa using hp0)]
  refine wpAny_execs_nil (wpAny_execs_cons (wpAny_If (wpAny_isTrue_Compare1 (nm F rfl (cint F fun _ s₅ F => eq_int (wpAny_truthy_bool ?_))))))
  by_cases hp1 : p = 1
  · rw [if_pos (by simpa using hp1)]
    refine wpAny_execs_cons (wpAny_Return_some (cf (hB.at F.st) (kn_Index _) (kp_Index _) (spliced_more (wpAny_BinOp ?_))))
    refine cf (hB.at F.st) (kn_next _) (kp_next _) (spliced_more (nm F rfl (spliced_more (cint F fun _ s₇ F => spliced_none ⟨(hB.at F.st).k, nextF hB (C'.le (by omega)) F hst Z (by omega) (by decide) fun tq s₈ o F hst => ?_⟩))))
    refine cint F fun _ s₉ F => subI F fun _ s₁₀ F => spliced_none ⟨(hB.at F.st).k, index_ (n := 2) hB C' F fun x s₁₁ S₁ F M pa => ?_⟩
    exact h x _ _ _ o _ (F.out (by simp)) (F.mine _ (.head _)).1 hst (by omega) pa trivial
  rw [if_neg (by simpa using hp1)]
  refine wpAny_execs_nil (wpAny_execs_cons (wpAny_If (wpAny_isTrue_Compare1 (nm F rfl (cint F fun _ s₅ F => eq_int (wpAny_truthy_bool ?_))))))
  by_cases hp2 : p = 2
  · rw [if_pos (by simpa using hp2)]
    refine wpAny_execs_cons (wpAny_Return_some (cf (hB.at F.st) (kn_Slice _) (kp_Slice _) (spliced_more (wpAny_BinOp ?_))))
    refine cf (hB.at F.st) (kn_next _) (kp_next _) (spliced_more (nm F rfl (spliced_more (cint F fun _ s₇ F => spliced_none ⟨(hB.at F.st).k, nextF hB (C'.le (by omega)) F hst Z (by omega) (by decide) fun tq s₈ o F hst => ?_⟩))))
    obtain ⟨q0, q1⟩ := draw_range ns (k + 1) (lim := 3) (by decide)
    generalize draw ns (k + 1) 3 = q at F q0 q1
    refine cint F fun _ s₉ F => subI F fun ta s₁₀ F => spliced_more (wpAny_Constant_none (spliced_more (Subscript_ (Tuple_ (spliced_more (cint F fun t1 s₁₁ F => spliced_more (UnaryOp_ (cint F fun _ s₁₂ F => PyProof.Rows.neg_int ?_))))))))
    have F := F.toks (tk := s₁₂.toks + 1)
    refine spliced_more (cint F fun t3 s₁₃ F => spliced_none (newT F fun tup s₁₄ F => ?_))
    have F := F.swap
    refine cf (hB.at F.st) (kn_next _) (kp_next _) (spliced_more (nm F rfl (spliced_more (cint F fun _ s₁₅ F => spliced_none ⟨(hB.at F.st).k, nextF hB (C'.le (by omega)) F hst Z (by omega) (by decide) fun tr s₁₆ o F hst => ?_⟩))))
    obtain ⟨r0, r1⟩ := draw_range ns (k + 1 + 1) (lim := 3) (by decide)
    generalize draw ns (k + 1 + 1) 3 = r at F r0 r1
    have hx : ∃ v t, sliceOk (q - 1) v ∧ [Value.int 1 t1, .int (-1) s₁₂.toks, .int 2 t3][r.toNat]? = some (.int v t) := by
      have hq : q - 1 = -1 ∨ q - 1 = 0 ∨ q - 1 = 1 := by omega
      have : r = 0 ∨ r = 1 ∨ r = 2 := by omega
      rcases this with rfl | rfl | rfl
      · exact ⟨1, _, ⟨hq, .inl rfl⟩, rfl⟩
      · exact ⟨-1, _, ⟨hq, .inr (.inl rfl)⟩, rfl⟩
      · exact ⟨2, _, ⟨hq, .inr (.inr rfl)⟩, rfl⟩
    obtain ⟨v, tv, hz, hx⟩ := hx
    refine itemT (F.mine _ (.tail _ (.head _))).1 r0 (by simp) hx (spliced_none ⟨(hB.at F.st).k, slice_ (n := 2) hz hB C' F.swap.drop fun x s₁₇ S₁ F M pa => ?_⟩)
    exact h x _ _ _ o _ (F.out (by simp)) (F.mine _ (.head _)).1 hst (by omega) pa hz
  rw [if_neg (by simpa using hp2)]
  refine wpAny_execs_nil (wpAny_execs_cons (wpAny_Return_some (wpAny_IfExp (wpAny_isTrue_Compare1 (nm F rfl (cint F fun _ s₅ F => eq_int (wpAny_truthy_bool ?_)))))))
  by_cases hp3 : p = 3
  · rw [if_pos (by simpa using hp3)]
    refine cf0 (hB.at F.st) (kn_Wild _) (kp_Wild _) (wild_ hB F fun x s₆ S₁ F M pa => ?_)
    exact h x _ _ _ o _ (F.out (by simp)) (F.mine _ (.head _)).1 hst (by omega) pa trivial
  · rw [if_neg (by simpa using hp3)]
    refine cf0 (hB.at F.st) (kn_This _) (kp_This _) (this_ hB F fun x s₆ S₁ F M pa => ?_)
    exact h x _ _ _ o _ (F.out (by simp)) (F.mine _ (.head _)).1 hst (by omega) pa trivial
end DescLaw
end
section
open PySem PySem.W PyProof.Rows PySem.Calls
set_option Elab.async false
set_option maxRecDepth 100000
namespace DescLaw
/-! _law_address -/
theorem datum_len {P : Params} {S : Sto} {v : Value} {f : Fnd} (h : DatumAt P S v f) : f.addr.length ≤ 3 ∧ Fit (3 - f.addr.length) f.doc := by
  induction h with
  | top _ _ i => exact ⟨by simp, i⟩
  | @sub x pv cv f p _ _ _ m ih =>
    obtain ⟨h1, h2⟩ := ih
    have e : (f.sub p).addr.length = f.addr.length + 1 := by simp [Fnd.sub]
    rw [e]
    obtain ⟨j, hj⟩ : ∃ j, 3 - f.addr.length = j + 1 := by
      cases q : 3 - f.addr.length with
      | zero =>
        rw [q] at h2
        have h2 : f.doc.kids = [] := h2
        rw [h2] at m; cases m
      | succ j => exact ⟨j, rfl⟩
    rw [hj] at h2
    refine ⟨by omega, ?_⟩
    rw [show 3 - (f.addr.length + 1) = j by omega]
    exact h2.2 p m
theorem slot_app : PySem.Slot "list" "append" "list.append" := by first | exact PySem.F.slot_list_append | exact PySem.slot_list_append
theorem ty_app : typeOf (.builtin "list.append") = pure (.type "method_descriptor") := by show builtinType _ = _; rw [builtinType_eq_fast]; kernel_rfl
theorem idx_ownOk (P : Params) : ownOk P C_Index = true := by kernel_rfl
theorem fld_ownOk (P : Params) : ownOk P C_Fields = true := by kernel_rfl
theorem itemT0 {w : World} {A : Around} {E : Value → Shared → Prop} {s : Shared} {Q : Value → Shared → Prop} {value slice : Expr} {t : Addr} {vs : List Value} {u : Tok} {v : Value} (ht : s.heap.get? t = some (tupOf vs)) (hx : vs[0]? = some v) (h : Q v s)
    (hs : subscripted slice false (.ref t) (.int 0 u) = operate [.ref t, .int 0 u] (getItem (.ref t) (.int 0 u)) := by with_unfolding_all rfl) : wpAny (model pw w) A (subscriptTail value slice (.ref t) (.int 0 u)) Q E s := by
  have hlt : 0 < vs.length := (List.getElem?_eq_some_iff.mp hx).1
  have ht : IsTup s.heap t vs.toArray := ⟨_, ht, rfl, _, rfl⟩
  exact tail_any ht.typeIs slot_tuple_getitem.lookup (PyProof.Rows.getItem_tuple ht (by decide) (by decide) (j := 0) (by rw [List.size_toArray]; exact seqI (by decide) (by omega)) (by simpa using hx) h) hs
/-- the state between the turns -/
def ASt (w : World) (B : Heap) (S : Sto) (s₀ : Shared) (fr : List Addr) (L : Addr) (sa : Addr) (f : Fnd) (j : Nat) (s : Shared) : Prop :=
  ∃ m v' g acc vs k, Fx B S s₀ fr [] L m S [(sa, listOf vs.toArray k)] s ∧ m (Str.ofString "found") = some v' ∧ m (Str.ofString "steps") = some (.ref sa) ∧ DatumAt w.params S v' g ∧ All2 StepIs vs acc ∧ f.addr = g.addr ++ acc.reverse ∧ j = g.addr.length
theorem law_address {w : World} {B : Heap} {A : Around} {fr : List Addr} {s : Shared} {S : Sto} {v : Value} {f : Fnd} {E : Value → Shared → Prop} {Q : Value → Shared → Prop} (hB : Hp w B) (C : Cx A fr 4) (st : St B fr s) (H : Has S fr s) (hd : DatumAt w.params S v f)
    (h : ∀ r s' S', Out fr [] S s S' s' → AddrAt S' r f.addr → Q r s') : wpAny (model pw w) A (call (.ref f__law_address) [v]) Q E s := by
  have hm := million
  have hlen := (datum_len hd).1
  refine wpAny_call ?_
  refine enter (n := 3) (own := []) (mu := []) (S := S) (binds := [(Str.ofString "found", v)]) .nil hB C st H (by rfl) (by kernel_rfl) (BindsTo.of_eq rfl) (by decide) (locs rfl) (fun L h₁ tk F C' => ?_) rfl rfl rfl
  refine wpAny_execs_cons (asg (List_ (spliced_none (newL F fun sa s₁ F => sto F fun s₂ F => ?_))))
  refine wpAny_execs_cons (wpAny_While ?_)
  refine codeAny_whileLoop (ASt w B S s fr L sa f) ?turn _ ⟨_, v, f, [], [], 0, F, rfl, rfl, hd, .nil, by simp, rfl⟩
  rintro j s' ⟨m, v', g, acc, vs, k, F, m1, m2, dg, hv, e0, rfl⟩
  have hvl : vs.length ≤ 3 := by
    have := congrArg List.length e0
    simp only [List.length_append, List.length_reverse] at this
    rw [hv.length]; omega
  cases dg with
  | @top x pv d hi hdoc hfit =>
    refine wpAny_isTrue_Compare1 (Attribute_name (nm F m1 (getA hB F hi rfl (by kernel_rfl) (by kernel_rfl) (attr := none) (by kernel_rfl) (by kernel_rfl) rfl fun s₃ F => wpAny_Constant_none (isnot_none_none (wpAny_truthy_bool ?_)))))
    rw [if_neg (by decide)]
    refine wpAny_execs_nil (wpAny_execs_cons (wpAny_Return_some (backL (nm F m2 ⟨sa, vs, k, S, _, rfl, (F.mine _ (.head _)).1, by omega, F, fun r s₄ F => ?_⟩))))
    refine h _ _ _ F.freeze.out0 ⟨r, _, _, rfl, .inr ⟨rfl, rfl⟩, ?_⟩
    have e0 : f.addr = [] ++ acc.reverse := e0
    rw [e0, List.nil_append]; exact hv.rev
  | @sub x pv cv g p hi dg hs hk =>
    obtain ⟨stp, pd⟩ := p
    have hs : StepAt w.params S g.doc pv stp := hs
    obtain ⟨y, pv2, cv2, rfl, I2⟩ := dg.inst
    have hdoc := dg.doc
    refine wpAny_isTrue_Compare1 (Attribute_name (nm F m1 (getA hB F hi rfl (by kernel_rfl) (by kernel_rfl) (attr := none) (by kernel_rfl) (by kernel_rfl) rfl fun s₃ F => wpAny_Constant_none (isnot_ref_none (wpAny_truthy_bool ?_)))))
    rw [if_pos rfl]
    refine wpAny_execs_cons (asg (Attribute_name (nm F m1 (getA hB F hi rfl (by kernel_rfl) (by kernel_rfl) (attr := none) (by kernel_rfl) (by kernel_rfl) rfl fun s₄ F => sto F fun s₅ F => ?_))))
    obtain ⟨m', hm'⟩ : ∃ m', m' = fun z => if z = Str.ofString "around" then some (Value.ref y) else m z := ⟨_, rfl⟩
    rw [← hm'] at F
    have n1 : m' (Str.ofString "found") = some (.ref x) := by rw [hm']; exact (if_neg (by decide)).trans m1
    have n2 : m' (Str.ofString "steps") = some (.ref sa) := by rw [hm']; exact (if_neg (by decide)).trans m2
    have n3 : m' (Str.ofString "around") = some (.ref y) := by rw [hm']; exact if_pos rfl
    refine wpAny_execs_cons (wpAny_Expr_any (MethodCall_ (nm F n2 (mtL (F.mine _ (.head _)).1 slot_app ty_app (callWith_method1 (spliced_more (wpAny_mono (Q := fun v s' => StepIs v stp ∧ Fx B S s fr [] L m' S [(sa, listOf vs.toArray k)] s') (IfExp_ ?_) ?_ fun _ _ x => x)))))))
    · cases hs with
      | @key q kk ks pq =>
        cases pq with
        | @fields _ tq us _ hq htq hks =>
        refine isTrue_plain (cb (hB.at F.st) (kn_isi _) bn_isi (spliced_more (Attribute_name (nm F n1 (getA hB F hi rfl (by kernel_rfl) (by kernel_rfl) (attr := none) (by kernel_rfl) (by kernel_rfl) rfl fun s₆ F => spliced_more (gl (hB.at F.st) (kn_Fields _) (spliced_none (isi1 hB F (Kd.own hq (fld_ownOk _)) (b := true) (by kernel_rfl) fun s₇ F => wpAny_truthy_bool ?_))))))))
        rw [if_pos rfl]
        cases hks with
        | @cons _ tk us _ hks =>
        refine Subscript_ (Attribute_any_ (Attribute_name (nm F n1 (getA hB F hi rfl (by kernel_rfl) (by kernel_rfl) (attr := none) (by kernel_rfl) (by kernel_rfl) rfl fun s₈ F => getA hB F hq rfl (by kernel_rfl) (by kernel_rfl) (attr := none) (by kernel_rfl) (by kernel_rfl) rfl fun s₉ F => cint F fun _ s₁₀ F => ?_))))
        exact itemT0 (F.has.get htq) rfl ⟨.key, F⟩
      | @idx q i pq hpos hL =>
        cases pq with
        | @index _ tq _ ti hq htq =>
        obtain ⟨la, cs, e⟩ := hL
        refine isTrue_plain (cb (hB.at F.st) (kn_isi _) bn_isi (spliced_more (Attribute_name (nm F n1 (getA hB F hi rfl (by kernel_rfl) (by kernel_rfl) (attr := none) (by kernel_rfl) (by kernel_rfl) rfl fun s₆ F => spliced_more (gl (hB.at F.st) (kn_Fields _) (spliced_none (isi1 hB F (Kd.own hq (idx_ownOk _)) (b := false) (by kernel_rfl) fun s₇ F => wpAny_truthy_bool ?_))))))))
        rw [if_neg (by decide)]
        refine wpAny_BinOp (Subscript_ (Attribute_any_ (Attribute_name (nm F n1 (getA hB F hi rfl (by kernel_rfl) (by kernel_rfl) (attr := none) (by kernel_rfl) (by kernel_rfl) rfl fun s₈ F => getA hB F hq rfl (by kernel_rfl) (by kernel_rfl) (attr := none) (by kernel_rfl) (by kernel_rfl) rfl fun s₉ F => cint F fun _ s₁₀ F => itemT (F.has.get htq) (by decide) (by simp) rfl ?_)))))
        have h3 : cs.length ≤ 3 := by have := hdoc.2.three; rw [e] at this; simpa [Doc.kids] using this
        have hkl : g.doc.kids.length = cs.length := by rw [e]; simp [Doc.kids]
        obtain ⟨kl, hlst⟩ : ∃ k, S la (listOf (cs.map Doc.val).toArray k) := by
          have := hdoc.1
          rw [e] at this
          cases this with
          | list ho _ => exact ⟨_, ho⟩
        refine cb (hB.at F.st) (kn_len _) bn_len (spliced_more (Attribute_name (nm F n3 (valueA hB (n := 1) (C'.le (by omega)) F I2 hdoc.1.handed fun s₁₁ F => spliced_none ?_))))
        rw [show g.doc.val = .ref la by rw [e]; rfl]
        refine lenL F ⟨_, F.has.get hlst, rfl, kl, rfl⟩ (by simp; omega) fun t s₁₂ F => ?_
        have hsz : ((cs.map Doc.val).toArray.size : Int) = cs.length := by simp
        rw [hsz]
        refine modI F (by omega) fun t2 s₁₃ F => ?_
        refine ⟨?_, F⟩
        rw [hkl] at hpos ⊢
        rw [Int.fmod_eq_emod_of_nonneg _ (by omega)]
        have hnn := Int.emod_nonneg i (show (cs.length : Int) ≠ 0 by omega)
        have : i % (cs.length : Int) = ((i % (cs.length : Int)).toNat : Int) := by omega
        rw [this]; exact .idx
    · rintro stv s₆ ⟨hst, F⟩
      refine spliced_none (app F (by omega) fun s₇ k' F => ?_)
      refine wpAny_execs_cons (asg (nm F n3 (sto F fun s₈ F => wpAny_execs_nil ⟨g.addr.length, by simp [Fnd.sub], _, .ref y, g, acc ++ [stp], vs ++ [stv], k', F, if_pos rfl, (if_neg (by decide)).trans n2, dg, hv.snoc hst, ?_, rfl⟩)))
      rw [e0]; simp [Fnd.sub]
end DescLaw
end
section
open PySem PySem.W PyProof.Rows PySem.Calls
set_option Elab.async false
set_option maxRecDepth 100000
namespace DescLaw
/-! _law_told, _law_often -/
theorem kn_addr (P : Params) : nsIn (K P) mainGlobals (Str.ofString "_law_address") = some (some (.ref f__law_address)) := by kernel_rfl
theorem kp_addr (P : Params) : keepIn (K P) (.ref f__law_address) = true := by kernel_rfl
theorem kn_repr (P : Params) : nsIn (K P) mainGlobals (Str.ofString "repr") = some none := by kernel_rfl
theorem bn_repr : bootBuiltins (Str.ofString "repr") = some (.builtin "repr") := by decide +kernel
theorem kn_sorted (P : Params) : nsIn (K P) mainGlobals (Str.ofString "sorted") = some none := by kernel_rfl
theorem bn_sorted : bootBuiltins (Str.ofString "sorted") = some (.builtin "sorted") := by decide +kernel
theorem Cx.unit {A : Around} {fr : List Addr} {n : Nat} (x : Cx A fr (n + 1)) : A.units + 7 < cLine := by have := x.units; omega
theorem law_told {w : World} {B : Heap} {A : Around} {fr : List Addr} {s : Shared} {S : Sto} {pv dv : Value} {p : Path} {f : Fnd} {b : Bool} {E : Value → Shared → Prop} {Q : Value → Shared → Prop} (hB : Hp w B) (C : Cx A fr (room p + 6)) (st : St B fr s) (H : Has S fr s) (hp : PathAt w.params S pv p) (I : InAt w.params S b dv f) (hok : ok b p = true) (hcap : cap p ≤ 1000000)
    (h : ∀ r s' S' vs n, Out fr [] S s S' s' → S' r (listOf vs.toArray n) → Rows S' vs (find p f) → Q (.ref r) s') : wpAny (model pw w) A (call (.ref f__law_told) [pv, dv]) Q E s := by
  have hm := million
  have hlen := find_len hp.good I.fit
  have C : Cx A fr (room p + 5 + 1) := C
  refine wpAny_call ?_
  refine enter (n := room p + 5) (own := []) (mu := []) (S := S) (binds := [(Str.ofString "path", pv), (Str.ofString "document", dv)]) .nil hB C st H (by rfl) (by kernel_rfl) (BindsTo.of_eq rfl) (by decide) (locs rfl) (fun L h₁ tk F C' => ?_) rfl rfl rfl
  refine wpAny_execs_cons (wpAny_Return_some (lcomp F (cl := []) rfl ?_))
  refine MethodCall_ (nm F rfl (getFind hB F hp (callWith_K (hB.at F.st).k (kp_find _ _) (spliced_more (nm F rfl (spliced_none ⟨(hB.at F.st).k, ?_⟩))))))
  refine all_find w B hB p (C'.le (by omega)) F.st F.has hp I hok hcap fun a s₂ S₂ vs n O ha hd => ?_
  have F := F.call O
  have hvl : vs.length ≤ 1000000 := by rw [hd.length]; omega
  refine iterL F ha fun I₂ s₃ ows F p0 => ?_
  refine ⟨S₂, ows ++ [], vs.length, _, fun out S' rest => rest = [] ∧ (∀ a o, S₂ a o → S' a o) ∧ Rows S' out (find p f), by omega, F, ⟨ows, [], rfl, p0, rfl, fun _ _ q => q, .nil⟩, LTurns.of (Itn.list (items := vs) C'.handled) (fun i out S' rest => rest = [] ∧ (∀ a o, S₂ a o → S' a o) ∧ Rows S' out ((find p f).take i)) rfl rfl (fun i out S₃ ows₁ rest s₄ C₁ oc D od mc v E' hi hv J F N hk => ?_) (fun out S₃ rest J => ?_), fun D out S₃ rest k s₄ J F => ?_⟩
  · obtain ⟨rfl, M, J⟩ := J
    obtain ⟨g, hg, dg⟩ := hd.get hv
    refine wpAny_tests_nil ?_
    rw [if_pos rfl]
    refine Tuple_ (spliced_more (cf (hB.at F.st) (kn_addr _) (kp_addr _) (spliced_more (nmO F (.head _) N hk (spliced_none ⟨(hB.at F.st).k, ?_⟩)))))
    refine law_address hB (C'.le (by omega)) F.st F.has (dg.mono M) fun av s₅ S₄ O4 ha4 => ?_
    have F := F.call O4
    obtain ⟨x, pv2, cv2, rfl, I2⟩ := (dg.mono fun a o q => O4.sub _ _ (M _ _ q)).inst
    refine spliced_more (Attribute_name (nmO F (.head _) N hk (valueA hB (n := 3) (C'.le (by omega)) F I2 dg.doc.1.handed fun s₆ F => spliced_none (newT F fun tp s₇ F => ?_))))
    have F := F.freeze
    refine ⟨_, [], oc, mc, F, N, fun a o q => .inl (O4.sub _ _ q), rfl, fun a o q => .inl (O4.sub _ _ (M _ _ q)), ?_⟩
    rw [List.take_add_one, hg]
    exact (J.mono fun v x r => r.mono fun a o q => .inl (O4.sub _ _ q)).snoc ⟨tp, av, rfl, .inr ⟨rfl, rfl⟩, ha4.mono fun _ _ q => .inl q⟩
  · obtain ⟨rfl, M, J⟩ := J
    refine ⟨rfl, M, ?_⟩
    rwa [List.take_of_length_le (l := find p f) (by rw [hd.length]; exact Nat.le_refl _)] at J
  · obtain ⟨rfl, M, J⟩ := J
    exact h D _ _ out k F.freeze.out0 (.inr ⟨rfl, rfl⟩) (J.mono fun v x r => r.mono fun _ _ q => .inl q)

/-- an iterator over a list of pairs -/
theorem Itp.lpairs {w : World} {A : Around} {I l : Addr} {items : List Value} {V : Nat → Value → Value → Prop} (hh : A.handled = none) :
    Itp w A items.length (.ref I) (fun i S ows => LI I l items i S ows ∧ ∀ j t, items[j]? = some t → ∃ q v1 v2, t = .ref q ∧ S q (tupOf [v1, v2]) ∧ V j v1 v2) V where
  mono := fun ⟨p, k⟩ M => ⟨p.mono M, fun j t e => let ⟨q, v1, v2, a, b, c⟩ := k j t e; ⟨q, v1, v2, a, M _ _ b, c⟩⟩
  self := fun ⟨p, _⟩ F hq => (Itn.list hh).self p F hq
  item := fun {B T s₀ fr mu L m i S ows own s E Q} hi ⟨p, k⟩ F hq => (Itn.list hh).item hi p F fun v s' ows' F p' hv => by
    obtain ⟨q, v1, v2, rfl, hS, hV⟩ := k i v hv
    refine hq q v1 v2 s' hV fun {elts x1 pos Q'} hq' => ?_
    obtain ⟨oi, rfl, hoi, _⟩ := id p'
    exact wpAny_letOwnedTupleGo_listiter ⟨oi, (F.mine _ (.head _)).1, hoi.1, hoi.2⟩ (hq' _ _ F (F.has.get hS) ⟨p', k⟩)
  done := fun ⟨p, _⟩ F hq => (Itn.list hh).done p F hq
section
variable {w : World} {A : Around} {E : Value → Shared → Prop} {B : Heap} {fr mu : List Addr} {s₀ s : Shared} {L : Addr} {m : Str → Option Value} {T S : Sto} {own : List (Addr × Obj)} {Q : Value → Shared → Prop}
theorem sortedF {D : Addr} {vs : List Value} {xs : List Str} {k : Nat} (F : Fx B T s₀ fr mu L m S ((D, listOf vs.toArray k) :: own) s) (hv : All2 StrIs vs xs) (h128 : vs.length < 128)
    (h : ∀ r s' out ys k', Fx B T s₀ fr mu L m S ((r, listOf (List.toArray out) k') :: own) s' → All2 StrIs out ys → ys.Perm xs → sortedS ys = true → Q (.ref r) s') : wpAny (model pw w) A (call (.builtin "sorted") [.ref D]) Q E s := by
  refine sortedT ⟨_, (F.mine _ (.head _)).1, rfl, k, rfl⟩ (all2_strs hv) h128 fun out ys h1 h2 h3 => ?_
  obtain ⟨e, he⟩ := sortedAll_at s.heap vs out
  have F := F.drop.enter (s' := { s with heap := sortedAll s.heap vs out }) (Grow.of_keeps _ _ fun b o q => sortedAll_old q) (Heap.get?_none_of_le (Nat.le_succ _)) he
  exact h _ _ out.toList ys e F (strs_all2 h1) h2 h3
end
theorem law_often {w : World} {B : Heap} {A : Around} {fr : List Addr} {s : Shared} {S : Sto} {l : Addr} {vs : List Value} {n : Nat} {fs : List Fnd} {E : Value → Shared → Prop} {Q : Value → Shared → Prop} (hB : Hp w B) (C : Cx A fr 3) (st : St B fr s) (H : Has S fr s) (hl : S l (listOf vs.toArray n)) (hr : Rows S vs fs) (hok : ∀ f ∈ fs, okA f.addr) (h128 : fs.length < 128)
    (h : ∀ r s' S' out ys k, Out fr [] S s S' s' → S' r (listOf (List.toArray out) k) → All2 StrIs out ys → ys.Perm (fs.map fun f => addrText f.addr) → sortedS ys = true → Q (.ref r) s') : wpAny (model pw w) A (call (.ref f__law_often) [.ref l]) Q E s := by
  have hm := million
  refine wpAny_call ?_
  refine enter (n := 2) (own := []) (mu := []) (S := S) (binds := [(Str.ofString "rows", .ref l)]) .nil hB C st H (by rfl) (by kernel_rfl) (BindsTo.of_eq rfl) (by decide) (locs rfl) (fun L h₁ tk F C' => ?_) rfl rfl rfl
  refine wpAny_execs_cons (wpAny_Return_some (cb (hB.at F.st) (kn_sorted _) bn_sorted (spliced_more (lcomp F (cl := []) rfl (nm F rfl (iterL F hl fun I s₁ ows F p0 => ?_))))))
  have pr : ∀ (j : Nat) (t : Value), vs[j]? = some t → ∃ q v1 v2, t = .ref q ∧ S q (tupOf [v1, v2]) ∧ (fun (j : Nat) (v1 _v2 : Value) => ∃ f, fs[j]? = some f ∧ AddrAt S v1 f.addr) j v1 v2 := fun j t e => by
    obtain ⟨f, hf, tp, av, rfl, x, y⟩ := hr.get e
    exact ⟨tp, av, _, rfl, x, f, hf, y⟩
  refine ⟨S, ows ++ [], vs.length, _, fun out S' rest => rest = [] ∧ (∀ a o, S a o → S' a o) ∧ All2 StrIs out (fs.map fun f => addrText f.addr), by rw [hr.length]; omega, F, ⟨ows, [], rfl, ⟨p0, pr⟩, rfl, fun _ _ q => q, .nil⟩, LTurns.ofp (Itp.lpairs (items := vs) (V := fun j v1 v2 => ∃ f, fs[j]? = some f ∧ AddrAt S v1 f.addr) C'.handled) C'.handled (fun i out S' rest => rest = [] ∧ (∀ a o, S a o → S' a o) ∧ All2 StrIs out ((fs.take i).map fun f => addrText f.addr)) rfl rfl (by decide) rfl (fun i out S₁ ows₁ rest s₂ C₁ oc D od mc v1 v2 E' hi hv J F N hk1 hk2 => ?_) (fun out S₁ rest J => ?_), fun D out S₁ rest k s₂ J F => spliced_none ?_⟩
  · obtain ⟨rfl, M, J⟩ := J
    obtain ⟨f, hf, ha⟩ := hv
    refine cb (hB.at F.st) (kn_repr _) bn_repr (spliced_more (nmO F (.head _) N hk1 (spliced_none (reprA C' (by have := C'.unit; omega) F (ha.mono M) (hok f (List.mem_of_getElem? hf)) fun u s₃ F => ?_))))
    refine ⟨S₁, [], oc, mc, F, N, fun _ _ q => q, rfl, M, ?_⟩
    rw [List.take_add_one, hf, List.map_append]
    exact J.snoc .mk
  · obtain ⟨rfl, M, J⟩ := J
    refine ⟨rfl, M, ?_⟩
    rwa [List.take_of_length_le (l := fs) (by rw [hr.length]; exact Nat.le_refl _)] at J
  · obtain ⟨rfl, M, J⟩ := J
    refine sortedF F J (by rw [J.length, List.length_map]; exact h128) fun r s₃ out ys k' F g1 g2 g3 => ?_
    exact h r _ _ out ys k' (F.freeze.out0 |> fun o => ⟨o.grow, o.has, o.sub, o.new⟩) (.inr ⟨rfl, rfl⟩) g1 g2 g3
end DescLaw
end
section
open PySem PySem.W PyProof.Rows PySem.Calls
set_option Elab.async false
set_option maxRecDepth 100000
namespace DescLaw
/-! list(d), d[k], isinstance(v, (dict, list)), l + l -/
theorem valueAt_mem {as : List (Str × Value)} (nd : (as.map (·.1)).Nodup) {k : Str} {v : Value} (h : (k, v) ∈ as) : valueAt as k = some v := by
  unfold valueAt
  induction as with
  | nil => cases h
  | cons p as ih =>
    obtain ⟨h1, h2⟩ := List.nodup_cons.mp nd
    rw [List.find?_cons]
    rcases List.mem_cons.mp h with rfl | h
    · simp
    · have : p.1 ≠ k := fun q => h1 (List.mem_map.mpr ⟨_, h, q.symm⟩)
      simp only [this, decide_false]
      exact ih h2 h
theorem kit_dl {P : Params} {S : Sto} {d : Doc} (h : DocAt P S d) : kitAny (K P) (.type d.ty) [.type "dict", .type "list"] = some (d.isD || d.isL) := by
  cases h with
  | @leaf v h => cases v <;> first | kernel_rfl | (simp [isLeaf] at h)
  | dict => kernel_rfl
  | list => kernel_rfl
section
variable {w : World} {A : Around} {E : Value → Shared → Prop} {B : Heap} {fr mu : List Addr} {s₀ s : Shared} {L : Addr} {m : Str → Option Value} {T S : Sto} {own : List (Addr × Obj)} {Q : Value → Shared → Prop}
theorem listD {d : Addr} {es : List DictEntry} {ep : Nat} {as : List (Str × Value)} (hh : A.handled = none) (F : Fx B T s₀ fr mu L m S own s) (x : S d (dictOf es ep)) (X : Ents w.params es as) (nd : (as.map (·.1)).Nodup) (lo : (d == sysModules) = false) (hz : as.length ≤ 1000000)
    (h : ∀ (r : Addr) (vs : List Value) (k : Nat) (s' : Shared), Fx B T s₀ fr mu L m S ((r, listOf vs.toArray k) :: own) s' → vs.length = as.length → (∀ (j : Nat) (v : Value), vs[j]? = some v → ∃ k t x, as[j]? = some (k, x) ∧ v = .str k t) → Q (.ref r) s') :
    wpAny (model pw w) A (call (.type "list") [.ref d]) Q E s := by
  have hm := million
  refine kdl_call (kdl_dict (knd := PySem.strKind pw w) (kvs := as) lo) hh (X.dictAt (F.has.get x) nd) (by omega) fun h' tk acc c kp hl hi => ?_
  have hl : h'.get? s.heap.objs.size = some (listOf acc.toList.toArray c) := hl
  have F := F.enter (s' := { s with heap := h', toks := tk }) (Grow.of_keeps _ _ kp) (Heap.get?_none_of_le (Nat.le_refl _)) hl
  refine h _ acc.toList c _ F (by rw [Array.length_toList]; exact hi.1) fun j v hj => ?_
  obtain ⟨k, y, e, hk⟩ := hi.2 j v (by rw [← Array.getElem?_toList]; exact hj)
  obtain ⟨t, rfl⟩ := Value.isStrOf_shape hk
  exact ⟨k, t, y, e, rfl⟩
theorem itemD {value slice : Expr} {d : Addr} {es : List DictEntry} {ep : Nat} {as : List (Str × Value)} {k : Str} {t : Tok} {v : Value} (F : Fx B T s₀ fr mu L m S own s) (x : S d (dictOf es ep)) (X : Ents w.params es as) (nd : (as.map (·.1)).Nodup) (hv : (k, v) ∈ as) (h : ∀ s', Fx B T s₀ fr mu L m S own s' → Q v s')
    (hs : subscripted slice false (.ref d) (.str k t) = operate [.ref d, .str k t] (getItem (.ref d) (.str k t)) := by with_unfolding_all rfl) : wpAny (model pw w) A (subscriptTail value slice (.ref d) (.str k t)) Q E s :=
  have hD := (X.dictAt (F.has.get x) nd).dictOf
  tail_any hD.typeIs slot_dict_getitem.lookup (wpAny_getItem_of (knd := PySem.strKind pw w) (k := k) (strKind_is pw w _ _) hD.mapOf (valueAt_mem nd hv) (h _ F.toks)) hs
theorem addL {a b : Addr} {us vs : List Value} {k k' : Nat} (F : Fx B T s₀ fr mu L m S own s) (ha : s.heap.get? a = some (listOf us.toArray k)) (hb : s.heap.get? b = some (listOf vs.toArray k')) (hz : us.length + vs.length ≤ 1000000)
    (h : ∀ r s', Fx B T s₀ fr mu L m S ((r, listOf (us ++ vs).toArray 0) :: own) s' → Q (.ref r) s') : wpAny (model pw w) A (binaryOp .Add (.ref a) (.ref b)) Q E s := by
  have hm := million
  refine P.add_list ha hb ?_ (by simp only [List.size_toArray]; omega)
  have e : us.toArray ++ vs.toArray = (us ++ vs).toArray := by simp
  rw [e]
  exact h _ _ (F.push { cls := .type "list", data := .seq (us ++ vs).toArray })
end
end DescLaw
end
section
open PySem PySem.W PyProof.Rows PySem.Calls
set_option Elab.async false
set_option maxRecDepth 100000
namespace DescLaw
/-! _law_all -/
theorem kn_all (P : Params) : nsIn (K P) mainGlobals (Str.ofString "_law_all") = some (some (.ref f__law_all)) := by kernel_rfl
theorem kp_all (P : Params) : keepIn (K P) (.ref f__law_all) = true := by kernel_rfl
def AllSpec (w : World) (B : Heap) (n : Nat) : Prop :=
  ∀ {A : Around} {fr : List Addr} {s : Shared} {S : Sto} {av : Value} {d : Doc} {a : List Step} {E : Value → Shared → Prop} {Q : Value → Shared → Prop}, Cx A fr (3 * n + 4) → St B fr s → Has S fr s → DocAt w.params S d → Fit n d → a.length + n ≤ 100 → AddrAt S av a →
    (∀ r s' S' vs k, Out fr [] S s S' s' → S' r (listOf vs.toArray k) → Addrs S' vs ((pre n ⟨a, d⟩).map Fnd.addr) → Q (.ref r) s') → wpAny (model pw w) A (call (.ref f__law_all) [d.val, av]) Q E s
theorem pre_le {n : Nat} (hn : n ≤ 3) {f : Fnd} (h : Fit n f.doc) : (pre n f).length ≤ 40 := by
  have := pre_len 3 f (h.le hn)
  rw [pre_more h hn] at this
  exact this
theorem pre_kids {n : Nat} {f : Fnd} (h : Fit n f.doc) : (f :: f.kids.flatMap (pre (n - 1))) = pre n f := by
  cases n with
  | zero => rw [kids_nil h]; rfl
  | succ n => rfl
theorem law_all (w : World) (B : Heap) (hB : Hp w B) (n : Nat) (hn3 : n ≤ 3) (hrec : ∀ j, n = j + 1 → AllSpec w B j) : AllSpec w B n := by
  intro A fr s S av d a E Q C st H hdoc hfit ha3 hav h
  have hm := million
  have C : Cx A fr (3 * n + 3 + 1) := C
  have hpl := pre_le hn3 (f := ⟨a, d⟩) hfit
  refine wpAny_call ?_
  refine enter (n := 3 * n + 3) (own := []) (mu := []) (S := S) (binds := [(Str.ofString "value", d.val), (Str.ofString "address", av)]) .nil hB C st H (by rfl) (by kernel_rfl) (BindsTo.of_eq rfl) (by decide) (locs rfl) (fun L h₁ tk F C' => ?_) rfl rfl rfl
  refine wpAny_execs_cons (asg (List_ (spliced_more (nm F rfl (spliced_none (newL F fun ra s₁ F => sto F fun s₂ F => ?_))))))
  have F := F.freeze
  obtain ⟨S₁, hS₁⟩ : ∃ S₁, S₁ = S.add ra (listOf [av].toArray 0) := ⟨_, rfl⟩
  rw [← hS₁] at F
  have M1 : ∀ b o, S b o → S₁ b o := by rw [hS₁]; exact fun _ _ q => .inl q
  have hra : S₁ ra (listOf [av].toArray 0) := by rw [hS₁]; exact .inr ⟨rfl, rfl⟩
  have hdoc := hdoc.mono M1
  have hav := hav.mono M1
  obtain ⟨la, us, ka, eav, hla, hus⟩ := id hav
  have hul : us.length + n ≤ 100 := by rw [hus.length]; exact ha3
  refine wpAny_execs_cons (wpAny_If (isTrue_plain (cb (hB.at F.st) (kn_isi _) bn_isi (spliced_more (nm F rfl (spliced_more (Tuple_ (spliced_more (bl (hB.at F.st) (kn_dict _) bn_dict (spliced_more (bl (hB.at F.st) (kn_list _) bn_list (spliced_none (newT F fun tp s₃ F => spliced_none (isiT hB F (Kd.doc hdoc) (F.mine _ (.head _)).1 (kit_dl hdoc) fun s₄ F => wpAny_truthy_bool ?_))))))))))))))
  have F := F.drop
  by_cases hDL : (d.isD || d.isL) = true
  rotate_left
  · rw [if_neg hDL]
    refine wpAny_execs_nil (wpAny_execs_cons (wpAny_Return_some (nm F rfl (h ra _ S₁ [av] 0 F.out0 hra ?_))))
    have hk : d.kids = [] := by
      cases d with
      | leaf v => rfl
      | dict => simp [Doc.isD] at hDL
      | list => simp [Doc.isL] at hDL
    have e : pre n ⟨a, d⟩ = [⟨a, d⟩] := by
      rw [← pre_kids (f := ⟨a, d⟩) hfit]
      simp [Fnd.kids, hk]
    rw [e]
    exact .cons hav .nil
  rw [if_pos hDL]
  -- the loop
  have J0 : ∀ m, m = (fun y => if y = Str.ofString "rows" then some (Value.ref ra) else [(Str.ofString "value", d.val), (Str.ofString "address", av)].reverse.lookup y) →
      m (Str.ofString "value") = some d.val ∧ m (Str.ofString "address") = some av ∧ ∃ r vs k, m (Str.ofString "rows") = some (.ref r) ∧ S₁ r (listOf vs.toArray k) ∧ Addrs S₁ vs (((⟨a, d⟩ : Fnd) :: ((⟨a, d⟩ : Fnd).kids.take 0).flatMap (pre (n - 1))).map Fnd.addr) := fun m hm => by
    subst hm
    exact ⟨rfl, rfl, ra, [av], 0, rfl, hra, .cons hav .nil⟩
  refine wpAny_execs_cons (wpAny_For (IfExp_ (isTrue_plain (cb (hB.at F.st) (kn_isi _) bn_isi (spliced_more (nm F rfl (spliced_more (bl (hB.at F.st) (kn_dict _) bn_dict (spliced_none (isi1 hB F (Kd.doc hdoc) (kit_d hdoc) fun s₅ F => wpAny_truthy_bool ?_))))))))))
  by_cases hD : d.isD = true
  · rw [if_pos hD]
    obtain ⟨da, cs, e⟩ := isD_inv hD
    have hdd := hdoc
    rw [e] at hdd
    obtain ⟨es, ep, hsm, ho, he, nd⟩ : ∃ es ep, (da == sysModules) = false ∧ S₁ da (dictOf es ep) ∧ Ents w.params es (cs.map fun p => (p.1, p.2.val)) ∧ ((cs.map fun p => (p.1, p.2.val)).map (·.1)).Nodup := by
      cases hdd with
      | dict hm ho he nd _ => exact ⟨_, _, hm, ho, he, by rw [List.map_map]; exact nd⟩
    have h3 : cs.length ≤ 3 := by have := hfit.three; rw [e] at this; simpa [Doc.kids] using this
    have ev : d.val = .ref da := by rw [e]; rfl
    have hkk : (⟨a, d⟩ : Fnd).kids.length = cs.length := by rw [kids_len, e]; simp [Doc.kids]
    refine cbt (hB.at F.st) (kn_list _) bn_list (spliced_more (nm F (show _ = some (Value.ref da) from (show _ = some d.val from rfl).trans (congrArg some ev)) (spliced_none (listD C'.handled F ho he nd hsm (by simp only [List.length_map]; omega) fun kl ks kk s₆ F hkl hks => ?_))))
    have F := F.freeze
    refine iterL F (.inr ⟨rfl, rfl⟩) fun I s₇ ows F p0 => ?_
    rw [List.length_map] at hkl
    have M2 : ∀ b o, S₁ b o → S₁.add kl (listOf ks.toArray kk) b o := fun _ _ q => .inl q
    refine floop (Itn.list (items := ks) C'.handled) (fun i m S' own => own = [] ∧ (∀ b o, S₁ b o → S' b o) ∧ m (Str.ofString "value") = some d.val ∧ m (Str.ofString "address") = some av ∧ ∃ r vs k, m (Str.ofString "rows") = some (.ref r) ∧ S' r (listOf vs.toArray k) ∧ Addrs S' vs (((⟨a, d⟩ : Fnd) :: ((⟨a, d⟩ : Fnd).kids.take i).flatMap (pre (n - 1))).map Fnd.addr)) F p0 ?_ (fun i m S₂ ows own s₈ v E' hi hv J F => ?_) (fun m S₂ own s₉ J F => ?_)
    · obtain ⟨j1, j2, r, vs, k, j3, j4, j5⟩ := J0 _ rfl
      exact ⟨rfl, M2, j1, j2, r, vs, k, j3, M2 _ _ j4, j5.mono fun v x q => q.mono M2⟩
    · obtain ⟨rfl, M, j1, j2, r, vs, k, j3, j4, j5⟩ := J
      obtain ⟨key, tk, x, hkx, rfl⟩ := hks i v hv
      rw [List.getElem?_map] at hkx
      obtain ⟨⟨k', dk⟩, hck, hke⟩ := Option.map_eq_some_iff.mp hkx
      obtain ⟨rfl, rfl⟩ := Prod.mk.inj hke
      have hki : (⟨a, d⟩ : Fnd).kids[i]? = some ((⟨a, d⟩ : Fnd).sub (.key k', dk)) := kids_dict e hck
      have hmem : (Step.key k', dk) ∈ d.kids := by rw [e]; exact List.mem_map_of_mem (f := fun p : Str × Doc => (Step.key p.1, p.2)) (List.mem_of_getElem? hck)
      obtain ⟨n', hn'⟩ : ∃ n', n = n' + 1 := by
        cases n with
        | zero =>
          have hf0 : d.kids = [] := hfit
          rw [hf0] at hmem; cases hmem
        | succ n' => exact ⟨n', rfl⟩
      have hfk : Fit n' dk := by
        have := hfit
        rw [hn'] at this
        exact this.2 _ hmem
      have hfsub : (⟨a, d⟩ : Fnd).sub ((Step.key k'), dk) = ⟨a ++ [(Step.key k')], dk⟩ := rfl
      have hpk : (pre n' ⟨a ++ [(Step.key k')], dk⟩).length ≤ 40 := pre_le (by omega) (f := ⟨a ++ [(Step.key k')], dk⟩) hfk
      have hdk := (hdoc.mono M).kid hmem
      have m1 : (fun y => if y = Str.ofString "key" then some (Value.str k' tk) else m y) (Str.ofString "value") = some d.val := (if_neg (by decide)).trans j1
      have m2 : (fun y => if y = Str.ofString "key" then some (Value.str k' tk) else m y) (Str.ofString "address") = some av := (if_neg (by decide)).trans j2
      have m3 : (fun y => if y = Str.ofString "key" then some (Value.str k' tk) else m y) (Str.ofString "rows") = some (.ref r) := (if_neg (by decide)).trans j3
      have m4 : (fun y => if y = Str.ofString "key" then some (Value.str k' tk) else m y) (Str.ofString "key") = some (Value.str k' tk) := if_pos rfl
      have hvl : vs.length ≤ 1000 := by
        rw [j5.length, List.length_map]
        have h1 : ((⟨a, d⟩ : Fnd).kids.take i).flatMap (pre (n - 1)) = ((⟨a, d⟩ : Fnd).kids.take i).flatMap (pre (n - 1)) := rfl
        have h2 := take_flat_len (⟨a, d⟩ : Fnd).kids (pre (n - 1)) i
        have h3 := congrArg List.length (pre_kids (f := ⟨a, d⟩) hfit)
        simp only [List.length_cons] at h3 ⊢
        omega
      refine wpAny_execs_cons (asg (wpAny_BinOp (nm F m3 (cf (hB.at F.st) (kn_all _) (kp_all _) (spliced_more (Subscript_ (nm F (m1.trans (congrArg some ev)) (nm F m4 (itemD F (M _ _ ho) he nd (List.mem_map.mpr ⟨_, List.mem_of_getElem? hck, rfl⟩) fun s₁₀ F => ?_)))))))))
      refine spliced_more (wpAny_BinOp (nm F (m2.trans (congrArg some eav)) (List_ (spliced_more (nm F m4 (spliced_none (newL F fun l1 s₁₁ F => ?_)))))))
      refine addL F (F.has.get (M _ _ hla)) (F.mine _ (.head _)).1 (by simp only [List.length_cons, List.length_nil]; omega) fun l2 s₁₂ F => spliced_none ⟨(hB.at F.st).k, ?_⟩
      have F := F.freeze.drop
      refine hrec n' hn' (a := a ++ [(Step.key k')]) (d := dk) (C'.le (by omega)) F.st F.has (hdk.mono fun _ _ q => .inl q) hfk (by simp only [List.length_append, List.length_cons, List.length_nil]; omega) ⟨l2, us ++ [(Value.str k' tk)], 0, rfl, .inr ⟨rfl, rfl⟩, hus.snoc .key⟩ fun r2 s₁₃ S₃ vs2 k2 O hr2 ha2 => ?_
      have F := F.call O
      have M3 : ∀ b o, S₂ b o → S₃ b o := fun b o q => O.sub _ _ (.inl q)
      refine addL F (F.has.get (M3 _ _ j4)) (F.has.get hr2) (by rw [ha2.length, List.length_map]; omega) fun r3 s₁₄ F => sto F fun s₁₅ F => ?_
      have F := F.freeze
      refine wpAny_execs_nil ⟨_, _, [], F.perm (own' := ows ++ []) (by simp), fun b o q => .inl (M3 _ _ q), rfl, fun b o q => .inl (M3 _ _ (M _ _ q)), (if_neg (by decide)).trans m1, (if_neg (by decide)).trans m2, r3, vs ++ vs2, 0, if_pos rfl, .inr ⟨rfl, rfl⟩, ?_⟩
      have e9 : ((⟨a, d⟩ : Fnd).kids.take (i + 1)).flatMap (pre (n - 1)) = ((⟨a, d⟩ : Fnd).kids.take i).flatMap (pre (n - 1)) ++ pre n' ⟨a ++ [(Step.key k')], dk⟩ := by
        rw [take_flat _ _ hki, hfsub, show n - 1 = n' by omega]
      rw [e9, ← List.cons_append, List.map_append]
      exact (j5.mono fun v x q => q.mono fun b o q => .inl (M3 _ _ q)).append (ha2.mono fun v x q => q.mono fun _ _ q => .inl q)
    · obtain ⟨rfl, M, j1, j2, r, vs, k, j3, j4, j5⟩ := J
      refine wpAny_execs_nil (wpAny_execs_cons (wpAny_Return_some (nm F j3 (h r _ S₂ vs k F.out0 j4 ?_))))
      have j5 : Addrs S₂ vs (((⟨a, d⟩ : Fnd) :: ((⟨a, d⟩ : Fnd).kids.take ks.length).flatMap (pre (n - 1))).map Fnd.addr) := j5
      rw [List.take_of_length_le (by omega), pre_kids (f := ⟨a, d⟩) hfit] at j5
      exact j5
  · rw [if_neg hD]
    have hL : d.isL = true := by
      rcases Bool.or_eq_true_iff.mp hDL with q | q
      · exact absurd q hD
      · exact q
    obtain ⟨da, cs, e⟩ := isL_inv hL
    obtain ⟨kl, ho⟩ : ∃ k, S₁ da (listOf (cs.map Doc.val).toArray k) := by
      have := hdoc
      rw [e] at this
      cases this with
      | list ho _ => exact ⟨_, ho⟩
    have h3 : cs.length ≤ 3 := by have := hfit.three; rw [e] at this; simpa [Doc.kids] using this
    have ev : d.val = .ref da := by rw [e]; rfl
    have hkk : (⟨a, d⟩ : Fnd).kids.length = cs.length := by rw [kids_len, e]; simp [Doc.kids]
    refine cbt (hB.at F.st) (kn_range _) bn_range (spliced_more (cb (hB.at F.st) (kn_len _) bn_len (spliced_more (nm F (show _ = some (Value.ref da) from (show _ = some d.val from rfl).trans (congrArg some ev)) (spliced_none (lenL F ⟨_, F.has.get ho, rfl, kl, rfl⟩ (by simp; omega) fun tn s₆ F => spliced_none ?_))))))
    rw [show (((cs.map Doc.val).toArray.size : Nat) : Int) = (cs.length : Nat) by simp]
    refine callRange F fun rr _ _ s₇ F => iterRange F (by omega) fun I s₈ ows F p0 => ?_
    refine floop (Itn.range C'.handled) (fun i m S' own => own = [] ∧ (∀ b o, S₁ b o → S' b o) ∧ m (Str.ofString "value") = some d.val ∧ m (Str.ofString "address") = some av ∧ ∃ r vs k, m (Str.ofString "rows") = some (.ref r) ∧ S' r (listOf vs.toArray k) ∧ Addrs S' vs (((⟨a, d⟩ : Fnd) :: ((⟨a, d⟩ : Fnd).kids.take i).flatMap (pre (n - 1))).map Fnd.addr)) F p0 ?_ (fun i m S₂ ows own s₈ v E' hi hv J F => ?_) (fun m S₂ own s₉ J F => ?_)
    · obtain ⟨j1, j2, r, vs, k, j3, j4, j5⟩ := J0 _ rfl
      exact ⟨rfl, fun _ _ q => q, j1, j2, r, vs, k, j3, j4, j5⟩
    · obtain ⟨rfl, M, j1, j2, r, vs, k, j3, j4, j5⟩ := J
      obtain ⟨tk, rfl⟩ := hv
      rw [show (0 : Int) + (i : Int) * 1 = i by omega] at F
      obtain ⟨dk, hck⟩ : ∃ dk, cs[i]? = some dk := ⟨cs[i], by simp [hi]⟩
      have hki : (⟨a, d⟩ : Fnd).kids[i]? = some ((⟨a, d⟩ : Fnd).sub (.idx i, dk)) := kids_list e hck
      have hmem : (Step.idx i, dk) ∈ d.kids := by rw [e]; exact List.mem_map.mpr ⟨(dk, i), List.mk_mem_zipIdx_iff_getElem?.mpr hck, rfl⟩
      obtain ⟨n', hn'⟩ : ∃ n', n = n' + 1 := by
        cases n with
        | zero =>
          have hf0 : d.kids = [] := hfit
          rw [hf0] at hmem; cases hmem
        | succ n' => exact ⟨n', rfl⟩
      have hfk : Fit n' dk := by
        have := hfit
        rw [hn'] at this
        exact this.2 _ hmem
      have hfsub : (⟨a, d⟩ : Fnd).sub ((Step.idx i), dk) = ⟨a ++ [(Step.idx i)], dk⟩ := rfl
      have hpk : (pre n' ⟨a ++ [(Step.idx i)], dk⟩).length ≤ 40 := pre_le (by omega) (f := ⟨a ++ [(Step.idx i)], dk⟩) hfk
      have hdk := (hdoc.mono M).kid hmem
      have m1 : (fun y => if y = Str.ofString "key" then some (Value.int (i : Int) tk) else m y) (Str.ofString "value") = some d.val := (if_neg (by decide)).trans j1
      have m2 : (fun y => if y = Str.ofString "key" then some (Value.int (i : Int) tk) else m y) (Str.ofString "address") = some av := (if_neg (by decide)).trans j2
      have m3 : (fun y => if y = Str.ofString "key" then some (Value.int (i : Int) tk) else m y) (Str.ofString "rows") = some (.ref r) := (if_neg (by decide)).trans j3
      have m4 : (fun y => if y = Str.ofString "key" then some (Value.int (i : Int) tk) else m y) (Str.ofString "key") = some (Value.int (i : Int) tk) := if_pos rfl
      have hvl : vs.length ≤ 1000 := by
        rw [j5.length, List.length_map]
        have h1 : ((⟨a, d⟩ : Fnd).kids.take i).flatMap (pre (n - 1)) = ((⟨a, d⟩ : Fnd).kids.take i).flatMap (pre (n - 1)) := rfl
        have h2 := take_flat_len (⟨a, d⟩ : Fnd).kids (pre (n - 1)) i
        have h3 := congrArg List.length (pre_kids (f := ⟨a, d⟩) hfit)
        simp only [List.length_cons] at h3 ⊢
        omega
      refine wpAny_execs_cons (asg (wpAny_BinOp (nm F m3 (cf (hB.at F.st) (kn_all _) (kp_all _) (spliced_more (Subscript_ (nm F (m1.trans (congrArg some ev)) (nm F m4 (itemL (v := dk.val) ⟨_, F.has.get (M _ _ ho), rfl, kl, rfl⟩ (by omega) (by omega) (by simp [hck]) ?_)))))))))
      refine spliced_more (wpAny_BinOp (nm F (m2.trans (congrArg some eav)) (List_ (spliced_more (nm F m4 (spliced_none (newL F fun l1 s₁₁ F => ?_)))))))
      refine addL F (F.has.get (M _ _ hla)) (F.mine _ (.head _)).1 (by simp only [List.length_cons, List.length_nil]; omega) fun l2 s₁₂ F => spliced_none ⟨(hB.at F.st).k, ?_⟩
      have F := F.freeze.drop
      refine hrec n' hn' (a := a ++ [(Step.idx i)]) (d := dk) (C'.le (by omega)) F.st F.has (hdk.mono fun _ _ q => .inl q) hfk (by simp only [List.length_append, List.length_cons, List.length_nil]; omega) ⟨l2, us ++ [(Value.int (i : Int) tk)], 0, rfl, .inr ⟨rfl, rfl⟩, hus.snoc .idx⟩ fun r2 s₁₃ S₃ vs2 k2 O hr2 ha2 => ?_
      have F := F.call O
      have M3 : ∀ b o, S₂ b o → S₃ b o := fun b o q => O.sub _ _ (.inl q)
      refine addL F (F.has.get (M3 _ _ j4)) (F.has.get hr2) (by rw [ha2.length, List.length_map]; omega) fun r3 s₁₄ F => sto F fun s₁₅ F => ?_
      have F := F.freeze
      refine wpAny_execs_nil ⟨_, _, [], F.perm (own' := ows ++ []) (by simp), fun b o q => .inl (M3 _ _ q), rfl, fun b o q => .inl (M3 _ _ (M _ _ q)), (if_neg (by decide)).trans m1, (if_neg (by decide)).trans m2, r3, vs ++ vs2, 0, if_pos rfl, .inr ⟨rfl, rfl⟩, ?_⟩
      have e9 : ((⟨a, d⟩ : Fnd).kids.take (i + 1)).flatMap (pre (n - 1)) = ((⟨a, d⟩ : Fnd).kids.take i).flatMap (pre (n - 1)) ++ pre n' ⟨a ++ [(Step.idx i)], dk⟩ := by
        rw [take_flat _ _ hki, hfsub, show n - 1 = n' by omega]
      rw [e9, ← List.cons_append, List.map_append]
      exact (j5.mono fun v x q => q.mono fun b o q => .inl (M3 _ _ q)).append (ha2.mono fun v x q => q.mono fun _ _ q => .inl q)
    · obtain ⟨rfl, M, j1, j2, r, vs, k, j3, j4, j5⟩ := J
      refine wpAny_execs_nil (wpAny_execs_cons (wpAny_Return_some (nm F j3 (h r _ S₂ vs k F.out0 j4 ?_))))
      rw [List.take_of_length_le (by omega), pre_kids (f := ⟨a, d⟩) hfit] at j5
      exact j5
theorem all_all (w : World) (B : Heap) (hB : Hp w B) : ∀ n, n ≤ 3 → AllSpec w B n
  | 0, h => law_all w B hB 0 h fun n e => by cases e
  | n + 1, h => law_all w B hB (n + 1) h fun m e => by
    obtain rfl : n = m := by omega
    exact all_all w B hB n (by omega)
end DescLaw
end
section
open PySem PySem.W PyProof.Rows PySem.Calls
set_option Elab.async false
set_option maxRecDepth 100000
namespace DescLaw
/-! _law_path -/
theorem kn_path (P : Params) : nsIn (K P) mainGlobals (Str.ofString "_law_path") = some (some (.ref f__law_path)) := by kernel_rfl
theorem kp_path (P : Params) : keepIn (K P) (.ref f__law_path) = true := by kernel_rfl
theorem kn_Child (P : Params) : nsIn (K P) mainGlobals (Str.ofString "Child") = some (some (.ref C_Child)) := by kernel_rfl
theorem kp_Child (P : Params) : keepIn (K P) (.ref C_Child) = true := by kernel_rfl
def noStar : Step → Bool
  | .key k => !([k].any (· == Str.ofString "*"))
  | .idx _ => true
theorem steps_star : ∀ s ∈ steps, noStar s = true := by decide +kernel
theorem addrPath_take {a : List Step} {i : Nat} {s : Step} (h : a[i]? = some s) : addrPath (a.take (i + 1)) = .child (addrPath (a.take i)) (stepPath s) := by
  rw [take_snoc h, addrPath_snoc]
theorem law_path {w : World} {B : Heap} {A : Around} {fr : List Addr} {s : Shared} {S : Sto} {av : Value} {a : List Step} {E : Value → Shared → Prop} {Q : Value → Shared → Prop} (hB : Hp w B) (C : Cx A fr 6) (st : St B fr s) (H : Has S fr s) (hav : AddrAt S av a) (hs : ∀ x ∈ a, x ∈ steps)
    (h : ∀ x s' S', Out fr [] S s S' s' → PathAt w.params S' (.ref x) (addrPath a) → Q (.ref x) s') : wpAny (model pw w) A (call (.ref f__law_path) [av]) Q E s := by
  obtain ⟨la, us, ka, rfl, hla, hus⟩ := hav
  refine wpAny_call ?_
  refine enter (n := 5) (own := []) (mu := []) (S := S) (binds := [(Str.ofString "address", .ref la)]) .nil hB C st H (by rfl) (by kernel_rfl) (BindsTo.of_eq rfl) (by decide) (locs rfl) (fun L h₁ tk F C' => ?_) rfl rfl rfl
  refine wpAny_execs_cons (asg (cf0 (hB.at F.st) (kn_Root _) (kp_Root _) (root_ hB F fun x s₁ S₁ F M px => sto F fun s₂ F => ?_)))
  refine wpAny_execs_cons (wpAny_For (nm F rfl (iterL F (M _ _ hla) fun I s₃ ows F p0 => ?_)))
  refine floop (Itn.list (items := us) C'.handled) (fun i m S' own => own = [] ∧ (∀ b o, S₁ b o → S' b o) ∧ ∃ x, m (Str.ofString "path") = some (.ref x) ∧ PathAt w.params S' (.ref x) (addrPath (a.take i))) F p0 ⟨rfl, fun _ _ q => q, x, rfl, px⟩ (fun i m S₂ ows own s₄ v E' hi hv J F => ?_) (fun m S₂ own s₅ J F => ?_)
  · obtain ⟨rfl, M2, x, m1, px⟩ := J
    obtain ⟨sp, hsp, hst⟩ := hus.get hv
    have hin := steps_star sp (hs sp (List.mem_of_getElem? hsp))
    have n1 : (fun y => if y = Str.ofString "step" then some v else m y) (Str.ofString "path") = some (.ref x) := (if_neg (by decide)).trans m1
    have n2 : (fun y => if y = Str.ofString "step" then some v else m y) (Str.ofString "step") = some v := if_pos rfl
    generalize (fun y => if y = Str.ofString "step" then some v else m y) = m' at F n1 n2
    refine wpAny_execs_cons (asg (cf (hB.at F.st) (kn_Child _) (kp_Child _) (spliced_more (nm F n1 (spliced_more (wpAny_mono (Q := fun pv s' => ∃ S', Fx B S s fr [] L m' S' (ows ++ []) s' ∧ (∀ b o, S₂ b o → S' b o) ∧ PathAt w.params S' pv (stepPath sp)) (wpAny_IfExp ?_) ?_ fun _ _ x => x))))))
    · cases hst with
      | @key k t =>
        refine isTrue_plain (cb (hB.at F.st) (kn_isi _) bn_isi (spliced_more (nm F n2 (spliced_more (bl (hB.at F.st) (kn_int _) bn_int (spliced_none (isi1 hB F Kd.str (b := false) (by kernel_rfl) fun s₆ F => wpAny_truthy_bool ?_)))))))
        rw [if_neg (by decide)]
        refine cf (hB.at F.st) (kn_Fields _) (kp_Fields _) (spliced_more (nm F n2 (spliced_none ⟨(hB.at F.st).k, fields_ (n := 2) (ks := [k]) (.inl ⟨_, rfl⟩) (.cons .nil) (by have hin : (!([k].any (· == Str.ofString "*"))) = true := hin; simpa using hin) hB C' F fun y s₇ S₃ F M3 py => ⟨S₃, F, M3, py⟩⟩)))
      | @idx j t =>
        refine isTrue_plain (cb (hB.at F.st) (kn_isi _) bn_isi (spliced_more (nm F n2 (spliced_more (bl (hB.at F.st) (kn_int _) bn_int (spliced_none (isi1 hB F Kd.int (b := true) (by kernel_rfl) fun s₆ F => wpAny_truthy_bool ?_)))))))
        rw [if_pos rfl]
        exact cf (hB.at F.st) (kn_Index _) (kp_Index _) (spliced_more (nm F n2 (spliced_none ⟨(hB.at F.st).k, index_ (n := 2) hB C' F fun y s₇ S₃ F M3 py => ⟨S₃, F, M3, py⟩⟩)))
    · rintro pv s₆ ⟨S₃, F, M3, py⟩
      refine spliced_none ⟨(hB.at F.st).k, child_ (n := 2) hB C' F fun z s₇ S₄ F M4 I4 => sto F fun s₈ F => ?_⟩
      refine wpAny_execs_nil ⟨_, S₄, [], F, fun b o q => M4 _ _ (M3 _ _ q), rfl, fun b o q => M4 _ _ (M3 _ _ (M2 _ _ q)), z, if_pos rfl, ?_⟩
      rw [addrPath_take hsp]
      exact .child I4 (px.mono fun b o q => M4 _ _ (M3 _ _ q)) (py.mono M4)
  · obtain ⟨rfl, M2, x, m1, px⟩ := J
    refine wpAny_execs_cons (wpAny_Return_some (nm F m1 (h x _ S₂ F.out0 ?_)))
    have px : PathAt w.params S₂ (.ref x) (addrPath (a.take us.length)) := px
    rwa [List.take_of_length_le (by rw [hus.length]; exact Nat.le_refl _)] at px
end DescLaw
end
section
open PySem PySem.W PyProof.Rows PySem.Calls
set_option Elab.async false
set_option maxRecDepth 100000
namespace DescLaw
/-! bounds: how much is found -/
def capP : Nat → Nat
  | 0 => 1
  | n + 1 => 3 * capP n + 1
def notThis : Path → Bool
  | .this => false
  | _ => true
theorem step_kid {p : Path} (h : isStep p) (ht : notThis p = true) {f g : Fnd} (hg : g ∈ find p f) : g ∈ f.kids := by
  cases p with
  | this => cases ht
  | wild => exact hg
  | fields ks =>
    obtain ⟨k, _, hk⟩ := List.mem_filterMap.mp hg
    exact atKey_kid hk
  | index i => exact atIdx_kid (Option.mem_toList.mp hg)
  | slice a b => exact atSlice_kid hg
  | _ => exact h.elim
theorem step_cap {p : Path} (h : isStep p) : cap p ≤ 3 ∧ good p := by
  cases p with
  | this => exact ⟨by decide, trivial⟩
  | wild => exact ⟨by decide, trivial⟩
  | fields ks =>
    obtain ⟨x, _, rfl⟩ := h
    exact ⟨Nat.le_refl _, trivial⟩
  | index i => exact ⟨by simp [cap], trivial⟩
  | slice a b => exact ⟨by simp [cap], h⟩
  | _ => exact h.elim
theorem step_len {p : Path} (h : isStep p) {f : Fnd} (hf : Fit 3 f.doc) : (find p f).length ≤ 3 := Nat.le_trans (find_len (step_cap h).2 hf) (step_cap h).1
theorem step_none {p : Path} (h : isStep p) (ht : notThis p = true) {f : Fnd} (hf : Fit 0 f.doc) : find p f = [] := by
  rw [List.eq_nil_iff_forall_not_mem]
  intro g hg
  have := step_kid h ht hg
  rw [kids_nil hf] at this; cases this
theorem kid_fit1 {n : Nat} {f g : Fnd} (h : Fit (n + 1) f.doc) (hg : g ∈ f.kids) : Fit n g.doc := by
  obtain ⟨p, hp, rfl⟩ := List.mem_map.mp hg
  exact h.2 p hp
theorem kids3 {n : Nat} {f : Fnd} (h : Fit n f.doc) : f.kids.length ≤ 3 := by rw [kids_len]; exact h.three
theorem pre_capP : ∀ {n : Nat} {f : Fnd}, Fit n f.doc → (pre n f).length ≤ capP n
  | 0, f, _ => by simp [pre, capP]
  | n + 1, f, h => by
    have h1 := flat_len f.kids (pre n) (capP n) fun g hg => pre_capP (kid_fit1 h hg)
    have h2 : f.kids.length * capP n ≤ 3 * capP n := Nat.mul_le_mul_right _ (kids3 h)
    show (f :: f.kids.flatMap (pre n)).length ≤ 3 * capP n + 1
    rw [List.length_cons]; omega
theorem pre_find {p : Path} (hp : isStep p) (ht : notThis p = true) : ∀ {n : Nat} {f : Fnd}, n ≤ 3 → Fit n f.doc → ((pre n f).flatMap (find p)).length + 1 ≤ capP n
  | 0, f, _, h => by simp [pre, capP, step_none hp ht h]
  | n + 1, f, hn, h => by
    have h0 : 1 ≤ capP n := by cases n <;> simp only [capP] <;> omega
    have h1 := flat_len f.kids (fun g => (pre n g).flatMap (find p)) (capP n - 1) fun g hg => by
      have := pre_find hp ht (by omega) (kid_fit1 h hg)
      omega
    have h2 : f.kids.length * (capP n - 1) ≤ 3 * (capP n - 1) := Nat.mul_le_mul_right _ (kids3 h)
    have h3 := step_len hp (h.le hn)
    show ((f :: f.kids.flatMap (pre n)).flatMap (find p)).length + 1 ≤ 3 * capP n + 1
    rw [List.flatMap_cons, List.length_append, List.flatMap_assoc]
    omega
theorem pre_find' {p : Path} (hp : isStep p) {n : Nat} {f : Fnd} (hn : n ≤ 3) (h : Fit n f.doc) : ((pre 3 f).flatMap (find p)).length ≤ capP n := by
  rw [pre_more h hn]
  cases ht : notThis p with
  | true => have := pre_find hp ht hn h; omega
  | false =>
    have : p = .this := by cases p <;> first | rfl | cases ht
    subst this
    have e : (pre n f).flatMap (find .this) = pre n f := by
      show (pre n f).flatMap (fun g => [g]) = _
      simp
    rw [e]; exact pre_capP h
theorem find_find {p q : Path} (hp : isStep p) (hq : isStep q) {n : Nat} {f : Fnd} (hn : n ≤ 3) (h : Fit n f.doc) : ((find p f).flatMap fun g => (pre 3 g).flatMap (find q)).length ≤ capP n := by
  cases ht : notThis p with
  | false =>
    have : p = .this := by cases p <;> first | rfl | cases ht
    subst this
    show ([f].flatMap _).length ≤ _
    simpa using pre_find' hq hn h
  | true =>
    cases n with
    | zero => rw [step_none hp ht h]; simp [capP]
    | succ n =>
      have h1 := flat_len (find p f) (fun g => (pre 3 g).flatMap (find q)) (capP n) fun g hg => pre_find' hq (by omega) (kid_fit1 h (step_kid hp ht hg))
      have h2 : (find p f).length * capP n ≤ 3 * capP n := Nat.mul_le_mul_right _ (step_len hp (h.le hn))
      simp only [capP]; omega
/-- the law's first path: one step or two -/
def isOne (p : Path) : Prop := isStep p ∨ ∃ a b, p = .child a b ∧ isStep a ∧ isStep b
theorem one_find {p q : Path} (hp : isOne p) (hq : isStep q) {f : Fnd} (h : Fit 3 f.doc) : (find (.desc p q) f).length ≤ 40 := by
  show ((find p f).flatMap fun g => (pre 3 g).flatMap (find q)).length ≤ 40
  rcases hp with hp | ⟨a, b, rfl, ha, hb⟩
  · exact find_find hp hq (Nat.le_refl 3) h
  · show (((find a f).flatMap (find b)).flatMap _).length ≤ 40
    rw [List.flatMap_assoc]
    cases ht : notThis a with
    | false =>
      have : a = .this := by cases a <;> first | rfl | cases ht
      subst this
      have := find_find hb hq (Nat.le_refl 3) h
      show ([f].flatMap _).length ≤ _
      rw [List.flatMap_cons, List.flatMap_nil, List.append_nil]
      exact this
    | true =>
      have h1 := flat_len (find a f) (fun g => (find b g).flatMap fun g => (pre 3 g).flatMap (find q)) (capP 2) fun g hg => find_find hb hq (by omega) (kid_fit1 h (step_kid ha ht hg))
      have h2 : (find a f).length * capP 2 ≤ 3 * capP 2 := Nat.mul_le_mul_right _ (step_len ha h)
      have : capP 2 = 13 := rfl
      omega
theorem one_union {p a b : Path} (hp : isOne p) (ha : isStep a) (hb : isStep b) {f : Fnd} (h : Fit 3 f.doc) : (find (.desc p (.union a b)) f).length ≤ 80 := by
  rw [(law_union_right (p := p) (r := a) (q := b) (f := f)).length_eq, List.length_append]
  have := one_find hp ha h
  have := one_find hp hb h
  omega
/-- each thing, once more for each thing around it -/
def twiceOf (f : Fnd) : List Fnd := (pre 3 f).flatMap fun g => List.replicate (g.addr.length + 1) g
theorem rep_len : ∀ {n : Nat} {f : Fnd}, Fit n f.doc → ((pre n f).flatMap fun g => List.replicate (g.addr.length + 1) g).length ≤ (match n with | 0 => f.addr.length + 1 | 1 => 4 * f.addr.length + 7 | 2 => 13 * f.addr.length + 34 | _ => ((pre n f).flatMap fun g => List.replicate (g.addr.length + 1) g).length)
  | 0, f, _ => by simp [pre]
  | 1, f, h => by
    have h1 := flat_len f.kids (fun k => (pre 0 k).flatMap fun g => List.replicate (g.addr.length + 1) g) (f.addr.length + 2) fun k hk => by
      obtain ⟨p, _, rfl⟩ := List.mem_map.mp hk
      simp [pre, Fnd.sub]
    have h2 : f.kids.length * (f.addr.length + 2) ≤ 3 * (f.addr.length + 2) := Nat.mul_le_mul_right _ (kids3 h)
    show ((f :: f.kids.flatMap (pre 0)).flatMap _).length ≤ _
    rw [List.flatMap_cons, List.length_append, List.flatMap_assoc, List.length_replicate]
    simp only []; omega
  | 2, f, h => by
    have h1 := flat_len f.kids (fun k => (pre 1 k).flatMap fun g => List.replicate (g.addr.length + 1) g) (4 * (f.addr.length + 1) + 7) fun k hk => by
      have := rep_len (kid_fit1 h hk)
      obtain ⟨p, _, rfl⟩ := List.mem_map.mp hk
      simpa [Fnd.sub] using this
    have h2 : f.kids.length * (4 * (f.addr.length + 1) + 7) ≤ 3 * (4 * (f.addr.length + 1) + 7) := Nat.mul_le_mul_right _ (kids3 h)
    show ((f :: f.kids.flatMap (pre 1)).flatMap _).length ≤ _
    rw [List.flatMap_cons, List.length_append, List.flatMap_assoc, List.length_replicate]
    simp only []; omega
  | _ + 3, f, _ => Nat.le_refl _
theorem twice_len {f : Fnd} (h : Fit 3 f.doc) (h0 : f.addr = []) (hk : f.doc.kids.length = 2) : (twiceOf f).length ≤ 95 := by
  have h1 := flat_len f.kids (fun k => (pre 2 k).flatMap fun g => List.replicate (g.addr.length + 1) g) 47 fun k hk => by
    have := rep_len (kid_fit1 h hk)
    obtain ⟨p, _, rfl⟩ := List.mem_map.mp hk
    simpa [Fnd.sub, h0] using this
  rw [kids_len, hk] at h1
  unfold twiceOf
  show ((f :: f.kids.flatMap (pre 2)).flatMap _).length ≤ 95
  rw [List.flatMap_cons, List.length_append, List.flatMap_assoc, List.length_replicate, h0]
  simp only [List.length_nil]; omega
/-! the addresses that come about -/
def Fine (f : Fnd) : Prop := ∃ n, f.addr.length + n ≤ 3 ∧ Fit n f.doc ∧ KOk n f.doc ∧ ∀ s ∈ f.addr, s ∈ steps
theorem Fine.ok {f : Fnd} (h : Fine f) : okA f.addr := let ⟨_, h1, _, _, h4⟩ := h; ⟨by omega, h4⟩
theorem Fine.kid {f g : Fnd} (h : Fine f) (hg : g ∈ f.kids) : Fine g := by
  obtain ⟨n, h1, h2, h3, h4⟩ := h
  cases n with
  | zero => rw [kids_nil h2] at hg; cases hg
  | succ n =>
    obtain ⟨p, hp, rfl⟩ := List.mem_map.mp hg
    obtain ⟨g1, g2⟩ := h3 p hp
    refine ⟨n, by simp [Fnd.sub]; omega, h2.2 p hp, g2, fun s hs => ?_⟩
    rcases List.mem_append.mp hs with hs | hs
    · exact h4 s hs
    · rw [List.mem_singleton.mp hs]; exact g1
theorem pre_inv {P : Fnd → Prop} (hk : ∀ f g, P f → g ∈ f.kids → P g) : ∀ {n : Nat} {f g : Fnd}, P f → g ∈ pre n f → P g
  | 0, f, g, h, hg => by rw [List.mem_singleton.mp hg]; exact h
  | n + 1, f, g, h, hg => by
    rcases List.mem_cons.mp hg with rfl | hg
    · exact h
    · obtain ⟨k, hk', hg⟩ := List.mem_flatMap.mp hg
      exact pre_inv hk (hk _ _ h hk') hg
theorem find_inv {P : Fnd → Prop} (hk : ∀ f g, P f → g ∈ f.kids → P g) : ∀ {p : Path} {f g : Fnd}, P f → g ∈ find p f → P g
  | .root, f, g, h, hg => by rw [List.mem_singleton.mp hg]; exact h
  | .this, f, g, h, hg => by rw [List.mem_singleton.mp hg]; exact h
  | .wild, f, g, h, hg => hk _ _ h hg
  | .fields ks, f, g, h, hg => by
    obtain ⟨k, _, hk'⟩ := List.mem_filterMap.mp hg
    exact hk _ _ h (atKey_kid hk')
  | .index i, f, g, h, hg => hk _ _ h (atIdx_kid (Option.mem_toList.mp hg))
  | .slice st sp, f, g, h, hg => hk _ _ h (atSlice_kid hg)
  | .child l r, f, g, h, hg => by
    obtain ⟨k, hk', hg⟩ := List.mem_flatMap.mp hg
    exact find_inv hk (find_inv hk h hk') hg
  | .union l r, f, g, h, hg => by
    rcases List.mem_append.mp hg with hg | hg
    · exact find_inv hk h hg
    · exact find_inv hk h hg
  | .desc l r, f, g, h, hg => by
    obtain ⟨k, hk', hg⟩ := List.mem_flatMap.mp hg
    obtain ⟨q, hq, hg⟩ := List.mem_flatMap.mp hg
    exact find_inv hk (pre_inv hk (find_inv hk h hk') hq) hg
theorem find_ok {p : Path} {f : Fnd} (h : Fine f) : ∀ g ∈ find p f, okA g.addr := fun _ hg => (find_inv (P := Fine) (fun _ _ => Fine.kid) h hg).ok
theorem pre_ok {n : Nat} {f : Fnd} (h : Fine f) : ∀ g ∈ pre n f, okA g.addr := fun _ hg => (pre_inv (P := Fine) (fun _ _ => Fine.kid) h hg).ok
/-! the levels of calls -/
theorem step_room {p : Path} (h : isStep p) : room p ≤ 9 ∧ ∀ b, ok b p = true := by
  cases p with
  | this => exact ⟨by simp [room], fun _ => rfl⟩
  | wild => exact ⟨by simp [room], fun _ => rfl⟩
  | fields ks => exact ⟨Nat.le_refl _, fun _ => rfl⟩
  | index i => exact ⟨by simp [room], fun _ => rfl⟩
  | slice a b => exact ⟨Nat.le_refl _, fun _ => rfl⟩
  | _ => exact h.elim
theorem one_room {p : Path} (h : isOne p) : room p ≤ 12 ∧ cap p ≤ 9 ∧ ∀ b, ok b p = true := by
  rcases h with h | ⟨a, b, rfl, ha, hb⟩
  · have := step_room h; have := step_cap h
    exact ⟨by omega, by omega, this.2 |> fun _ => (step_room h).2⟩
  · have h1 := step_room ha; have h2 := step_room hb
    have c1 := (step_cap ha).1; have c2 := (step_cap hb).1
    refine ⟨by simp only [room]; omega, ?_, fun x => ?_⟩
    · exact Nat.mul_le_mul c1 c2
    · show (ok x a && ok false b) = true
      rw [h1.2, h2.2]; rfl
theorem pathK_room {p : Path} (h : isOne p) : ∀ n, room (pathK p n) ≤ 12 + 3 * n ∧ cap (pathK p n) ≤ 9 * 3 ^ n ∧ ∀ b, ok b (pathK p n) = true
  | 0 => by have := one_room h; exact ⟨this.1, by show cap p ≤ 9 * 3 ^ 0; omega, this.2.2⟩
  | n + 1 => by
    obtain ⟨h1, h2, h3⟩ := pathK_room h n
    refine ⟨?_, ?_, fun b => ?_⟩
    · show max (room (pathK p n)) 8 + 3 ≤ _; omega
    · show cap (pathK p n) * 3 ≤ _
      rw [Nat.pow_succ, ← Nat.mul_assoc]; exact Nat.mul_le_mul_right _ h2
    · show (ok b (pathK p n) && true) = true
      rw [h3]; rfl
theorem stepPath_room (s : Step) : room (stepPath s) ≤ 9 ∧ cap (stepPath s) ≤ 2 ∧ ∀ b, ok b (stepPath s) = true := by
  cases s with
  | key k => exact ⟨Nat.le_refl _, Nat.le_refl _, fun _ => rfl⟩
  | idx i => exact ⟨by simp [stepPath, room], by simp [stepPath, cap], fun _ => rfl⟩
theorem addr_room : ∀ (a : List Step), a.length ≤ 3 → room (addrPath a) ≤ 20 ∧ cap (addrPath a) ≤ 8 ∧ ok true (addrPath a) = true
  | [], _ => ⟨by decide, by decide, rfl⟩
  | [x], _ => by
    have h1 := stepPath_room x
    refine ⟨?_, ?_, ?_⟩
    · show max 8 (room (stepPath x)) + 3 ≤ 20; omega
    · show 1 * cap (stepPath x) ≤ 8; omega
    · show (true && ok false (stepPath x)) = true; rw [h1.2.2]; rfl
  | [x, y], _ => by
    have h1 := stepPath_room x
    have h2 := stepPath_room y
    refine ⟨?_, ?_, ?_⟩
    · show max (max 8 (room (stepPath x)) + 3) (room (stepPath y)) + 3 ≤ 20; omega
    · show 1 * cap (stepPath x) * cap (stepPath y) ≤ 8
      rw [Nat.one_mul]
      have : _ ≤ 2 * 2 := Nat.mul_le_mul h1.2.1 h2.2.1
      omega
    · show ((true && ok false (stepPath x)) && ok false (stepPath y)) = true; rw [h1.2.2, h2.2.2]; rfl
  | [x, y, z], _ => by
    have h1 := stepPath_room x
    have h2 := stepPath_room y
    have h3 := stepPath_room z
    refine ⟨?_, ?_, ?_⟩
    · show max (max (max 8 (room (stepPath x)) + 3) (room (stepPath y)) + 3) (room (stepPath z)) + 3 ≤ 20; omega
    · show 1 * cap (stepPath x) * cap (stepPath y) * cap (stepPath z) ≤ 8
      rw [Nat.one_mul]
      have : _ ≤ 2 * 2 * 2 := Nat.mul_le_mul (Nat.mul_le_mul h1.2.1 h2.2.1) h3.2.1
      omega
    · show (((true && ok false (stepPath x)) && ok false (stepPath y)) && ok false (stepPath z)) = true; rw [h1.2.2, h2.2.2, h3.2.2]; rfl
  | _ :: _ :: _ :: _ :: _, h => by simp at h
end DescLaw
end
section
open PySem PySem.W PyProof.Rows PySem.Calls
set_option Elab.async false
set_option maxRecDepth 100000
namespace DescLaw
/-! script[:20], a dict display, a path -/
section
variable {w : World} {A : Around} {E : Value → Shared → Prop} {B : Heap} {fr mu : List Addr} {s₀ s : Shared} {L : Addr} {m : Str → Option Value} {T S : Sto} {own : List (Addr × Obj)} {env : Env} {n : Nat}
/-- l[:k] -/
theorem uptoL {value : Expr} {p p1 p3 : Pos} {j : Nat} {y : Int} {l : Addr} {vs : List Value} {ns : List Int} {Q : Value → Shared → Prop} (hi : IntsAre vs ns) (hz : vs.length ≤ 1000) (hy : 0 ≤ y)
    (h : wpAny (model pw w) A (eval value env) (fun o s₁ => o = .ref l ∧ s₁.heap.IsList l vs.toArray ∧ Fx B T s₀ fr mu L m S own s₁ ∧ (∀ r s' us, Fx B T s₀ fr mu L m S ((r, listOf (List.toArray us) 0) :: own) s' → IntsAre us (ns.take y.toNat) → Q (.ref r) s')) E s) :
    wpAny (model pw w) A (eval (.Subscript value (.Slice none (some (.Constant (.int y) j p1)) none p3) p) env) Q E s := by
  refine Subscript_ (wpAny_mono h (fun o s₁ ⟨e, hl, F, hq⟩ => ?_) fun _ _ e => e)
  subst e
  have hm := million
  refine wpAny_Slice ?_
  rw [evalPart_none, evalPart_some]
  refine wpAny_pure (wpAny_Constant_int (wpAny_pure ?_))
  obtain ⟨o, ho, hc, nn, hd⟩ := hl
  refine tail_any (T := "list") ⟨_, Heap.get?_push_of_some _ ho, hc⟩ list_getitem_lookup (wpAny_getItem_list_slice (lo := none) (hi := some y) (st := none) ⟨_, Heap.get?_push_of_some _ ho, hc, nn, hd⟩ (Heap.IsSliceOf.new ..) .none (.int _ _) .none (by decide) ?_ (by simp only [List.size_toArray]; omega)) (by rfl)
  have F := (F.toks (tk := s₁.toks + 1)).push { cls := .type "slice", data := .fields #[.none, .int y s₁.toks, .none] }
  have F := F.drop.push { cls := .type "list", data := .seq (slicePick vs.toArray none (some y) none) }
  have e : (listOf (slicePick vs.toArray none (some y) none).toList.toArray 0) = listOf (slicePick vs.toArray none (some y) none) 0 := by rw [Array.toArray_toList]
  exact hq _ _ (slicePick vs.toArray none (some y) none).toList (e ▸ F) (kmk_upto hi hy)
/-- {k: .., k2: ..} -/
theorem dict2 {k1 k2 : Str} {j1 j2 : Nat} {q1 q2 pos : Pos} {e1 e2 : Expr} {Q : Value → Shared → Prop} (hB : Hp w B) (F : Fx B T s₀ fr mu L m S own s) (hk : k1 ≠ k2)
    (h : ∀ D s', Fx B T s₀ fr mu L m S ((D, dictOf [] 0) :: own) s' → (D == sysModules) = false → wpAny (model pw w) A (eval e1 env) (fun a s₁ => ∃ S₁ own₁, Fx B T s₀ fr mu L m S₁ ((D, dictOf [] 0) :: own₁) s₁ ∧ ∀ s₂, Fx B T s₀ fr mu L m S₁ ((D, dictOf [] 0) :: own₁) s₂ → wpAny (model pw w) A (eval e2 env) (fun b s₃ => ∃ S₃ own₃, Fx B T s₀ fr mu L m S₃ ((D, dictOf [] 0) :: own₃) s₃ ∧
      ∀ es n s₄, Fx B T s₀ fr mu L m S₃ ((D, dictOf es n) :: own₃) s₄ → Ents w.params es [(k1, a), (k2, b)] → Q (.ref D) s₄) E s₂) E s') :
    wpAny (model pw w) A (eval (.Dict [some (.Constant (.str k1) j1 q1), some (.Constant (.str k2) j2 q2)] [e1, e2] pos) env) Q E s := by
  refine wpAny_Dict_walk (knd := PySem.strKind pw w) rfl rfl (List.cons_ne_nil _ _) (show 2 ≤ 15 by decide) ?_
  have hsm : (s.heap.objs.size == sysModules) = false := F.toFr.notModules (modules_low hB.nolimit)
  have F := F.push { cls := .type "dict", data := .dict #[] }
  refine pairTrees_cons_walk (cstr F fun t1 s₁ F => ?_)
  refine wpAny_mono (h _ _ F hsm) (fun a s₂ h₂ => ?_) fun _ _ e => e
  obtain ⟨S₁, own₁, F, h₂⟩ := h₂
  refine pairTrees_cons_walk (cstr F fun t2 s₃ F => ?_)
  refine wpAny_mono (h₂ _ F) (fun b s₄ h₄ => ?_) fun _ _ e => e
  obtain ⟨S₃, own₃, F, h₄⟩ := h₄
  refine pairTrees_nil_walk ⟨[(k1, a), (k2, b)], ⟨strKind_is pw w _ _, rfl, strKind_is pw w _ _, rfl, trivial⟩, (Ents.nil.dictAt (F.mine _ (.head _)).1 (by simp)).dictOf, fun h' hd hs => ?_⟩
  rw [merged_nil_of_nodup _ (by simp [hk])] at hd
  obtain ⟨es, n, e, X, nd⟩ := dictAt_inv hd
  exact h₄ es n _ (F.upd hs e) X
end
end DescLaw
end
section
open PySem PySem.W PyProof.Rows PySem.Calls
set_option Elab.async false
set_option maxRecDepth 100000
namespace DescLaw
/-! the law's own body: its names -/
theorem kn_step (P : Params) : nsIn (K P) mainGlobals (Str.ofString "_law_step") = some (some (.ref f__law_step)) := by kernel_rfl
theorem kp_step (P : Params) : keepIn (K P) (.ref f__law_step) = true := by kernel_rfl
theorem kn_told (P : Params) : nsIn (K P) mainGlobals (Str.ofString "_law_told") = some (some (.ref f__law_told)) := by kernel_rfl
theorem kp_told (P : Params) : keepIn (K P) (.ref f__law_told) = true := by kernel_rfl
theorem kn_often (P : Params) : nsIn (K P) mainGlobals (Str.ofString "_law_often") = some (some (.ref f__law_often)) := by kernel_rfl
theorem kp_often (P : Params) : keepIn (K P) (.ref f__law_often) = true := by kernel_rfl
theorem kn_Desc (P : Params) : nsIn (K P) mainGlobals (Str.ofString "Descendants") = some (some (.ref C_Descendants)) := by kernel_rfl
theorem kp_Desc (P : Params) : keepIn (K P) (.ref C_Descendants) = true := by kernel_rfl
theorem kn_Union (P : Params) : nsIn (K P) mainGlobals (Str.ofString "_Union") = some (some (.ref C_Union)) := by kernel_rfl
theorem kp_Union (P : Params) : keepIn (K P) (.ref C_Union) = true := by kernel_rfl
abbrev lenv (L fa : Addr) (cd : Value) : Env := envOf (Str.ofString "law") (defScope (topAt 31)) L fa cd
/-- what the law holds in its names -/
structure Held (w : World) (S : Sto) (m : Str → Option Value) (D x y z : Addr) (cs : List (Str × Doc)) (p r q : Path) : Prop where
  mD : m (Str.ofString "document") = some (.ref D)
  mx : m (Str.ofString "one") = some (.ref x)
  my : m (Str.ofString "last") = some (.ref y)
  mz : m (Str.ofString "other") = some (.ref z)
  doc : DocAt w.params S (.dict D cs)
  fit : Fit 3 (.dict D cs)
  fine : Fine ⟨[], .dict D cs⟩
  two : cs.length = 2
  px : PathAt w.params S (.ref x) p
  py : PathAt w.params S (.ref y) r
  pz : PathAt w.params S (.ref z) q
  hp : isOne p
  hr : isStep r
  hq : isStep q
section
variable {w : World} {S S' : Sto} {m : Str → Option Value} {D x y z : Addr} {cs : List (Str × Doc)} {p r q : Path}
theorem Held.mono (h : Held w S m D x y z cs p r q) (k : ∀ a o, S a o → S' a o) : Held w S' m D x y z cs p r q :=
  { h with doc := h.doc.mono k, px := h.px.mono k, py := h.py.mono k, pz := h.pz.mono k }
theorem Held.set (h : Held w S m D x y z cs p r q) {u : Str} {v : Value} (hu : [Str.ofString "document", Str.ofString "one", Str.ofString "last", Str.ofString "other"].all (· != u) = true := by decide) : Held w S (fun t => if t = u then some v else m t) D x y z cs p r q := by
  simp only [List.all_cons, List.all_nil, Bool.and_true, Bool.and_eq_true, bne_iff_ne] at hu
  obtain ⟨h1, h2, h3, h4⟩ := hu
  exact { h with mD := (if_neg h1).trans h.mD, mx := (if_neg h2).trans h.mx, my := (if_neg h3).trans h.my, mz := (if_neg h4).trans h.mz }
theorem Held.inAt (h : Held w S m D x y z cs p r q) {b : Bool} : InAt w.params S b (.ref D) ⟨[], .dict D cs⟩ := .raw h.doc h.fit
end
section
variable {w : World} {A : Around} {E : Value → Shared → Prop} {B : Heap} {fr mu : List Addr} {s₀ s : Shared} {L fa : Addr} {cd : Value} {m : Str → Option Value} {T S : Sto} {own : List (Addr × Obj)} {Q : Value → Shared → Prop} {D x y z : Addr} {cs : List (Str × Doc)} {p r q : Path} {e e1 e2 : Expr} {pos pos1 pos2 : Pos}
/-- a path from two -/
theorem descE (hB : Hp w B) (C : Cx A (L :: fr) 4) (F : Fx B T s₀ fr mu L m S own s)
    (h : wpAny (model pw w) A (eval e1 (lenv L fa cd)) (fun v1 s₁ => ∃ S₁ p1, Fx B T s₀ fr mu L m S₁ own s₁ ∧ (∀ a o, S a o → S₁ a o) ∧ PathAt w.params S₁ v1 p1 ∧ wpAny (model pw w) A (eval e2 (lenv L fa cd)) (fun v2 s₂ => ∃ S₂ p2, Fx B T s₀ fr mu L m S₂ own s₂ ∧ (∀ a o, S₁ a o → S₂ a o) ∧ PathAt w.params S₂ v2 p2 ∧
      ∀ x s' S', Fx B T s₀ fr mu L m S' own s' → (∀ a o, S a o → S' a o) → PathAt w.params S' (.ref x) (.desc p1 p2) → Q (.ref x) s') E s₁) E s)
    (he : starEach [e1, e2] (lenv L fa cd) = (false, eval e1 (lenv L fa cd)) :: starEach [e2] (lenv L fa cd) := by rfl) (he2 : starEach [e2] (lenv L fa cd) = [(false, eval e2 (lenv L fa cd))] := by rfl) :
    wpAny (model pw w) A (eval (.Call (.Name (Str.ofString "Descendants") pos1) [e1, e2] [] pos) (lenv L fa cd)) Q E s := by
  refine cf (hB.at F.st) (kn_Desc _) (kp_Desc _) ?_ (he := he) (hplain := by rw [he2]; rfl)
  refine spliced_more (wpAny_mono h (fun v1 s₁ ⟨S₁, p1, F, M1, hp1, h⟩ => ?_) fun _ _ e => e) (he := he)
  refine spliced_more (wpAny_mono h (fun v2 s₂ ⟨S₂, p2, F, M2, hp2, h⟩ => ?_) fun _ _ e => e) (he := he2)
  exact spliced_none ⟨(hB.at F.st).k, desc_ (n := 1) hB C F fun x s' S' F M3 I => h x s' S' F (fun a o q => M3 _ _ (M2 _ _ (M1 _ _ q))) (.desc I (hp1.mono fun a o q => M3 _ _ (M2 _ _ q)) (hp2.mono M3))⟩
theorem childE (hB : Hp w B) (C : Cx A (L :: fr) 4) (F : Fx B T s₀ fr mu L m S own s)
    (h : wpAny (model pw w) A (eval e1 (lenv L fa cd)) (fun v1 s₁ => ∃ S₁ p1, Fx B T s₀ fr mu L m S₁ own s₁ ∧ (∀ a o, S a o → S₁ a o) ∧ PathAt w.params S₁ v1 p1 ∧ wpAny (model pw w) A (eval e2 (lenv L fa cd)) (fun v2 s₂ => ∃ S₂ p2, Fx B T s₀ fr mu L m S₂ own s₂ ∧ (∀ a o, S₁ a o → S₂ a o) ∧ PathAt w.params S₂ v2 p2 ∧
      ∀ x s' S', Fx B T s₀ fr mu L m S' own s' → (∀ a o, S a o → S' a o) → PathAt w.params S' (.ref x) (.child p1 p2) → Q (.ref x) s') E s₁) E s)
    (he : starEach [e1, e2] (lenv L fa cd) = (false, eval e1 (lenv L fa cd)) :: starEach [e2] (lenv L fa cd) := by rfl) (he2 : starEach [e2] (lenv L fa cd) = [(false, eval e2 (lenv L fa cd))] := by rfl) :
    wpAny (model pw w) A (eval (.Call (.Name (Str.ofString "Child") pos1) [e1, e2] [] pos) (lenv L fa cd)) Q E s := by
  refine cf (hB.at F.st) (kn_Child _) (kp_Child _) ?_ (he := he) (hplain := by rw [he2]; rfl)
  refine spliced_more (wpAny_mono h (fun v1 s₁ ⟨S₁, p1, F, M1, hp1, h⟩ => ?_) fun _ _ e => e) (he := he)
  refine spliced_more (wpAny_mono h (fun v2 s₂ ⟨S₂, p2, F, M2, hp2, h⟩ => ?_) fun _ _ e => e) (he := he2)
  exact spliced_none ⟨(hB.at F.st).k, child_ (n := 1) hB C F fun x s' S' F M3 I => h x s' S' F (fun a o q => M3 _ _ (M2 _ _ (M1 _ _ q))) (.child I (hp1.mono fun a o q => M3 _ _ (M2 _ _ q)) (hp2.mono M3))⟩
theorem unionE (hB : Hp w B) (C : Cx A (L :: fr) 4) (F : Fx B T s₀ fr mu L m S own s)
    (h : wpAny (model pw w) A (eval e1 (lenv L fa cd)) (fun v1 s₁ => ∃ S₁ p1, Fx B T s₀ fr mu L m S₁ own s₁ ∧ (∀ a o, S a o → S₁ a o) ∧ PathAt w.params S₁ v1 p1 ∧ wpAny (model pw w) A (eval e2 (lenv L fa cd)) (fun v2 s₂ => ∃ S₂ p2, Fx B T s₀ fr mu L m S₂ own s₂ ∧ (∀ a o, S₁ a o → S₂ a o) ∧ PathAt w.params S₂ v2 p2 ∧
      ∀ x s' S', Fx B T s₀ fr mu L m S' own s' → (∀ a o, S a o → S' a o) → PathAt w.params S' (.ref x) (.union p1 p2) → Q (.ref x) s') E s₁) E s)
    (he : starEach [e1, e2] (lenv L fa cd) = (false, eval e1 (lenv L fa cd)) :: starEach [e2] (lenv L fa cd) := by rfl) (he2 : starEach [e2] (lenv L fa cd) = [(false, eval e2 (lenv L fa cd))] := by rfl) :
    wpAny (model pw w) A (eval (.Call (.Name (Str.ofString "_Union") pos1) [e1, e2] [] pos) (lenv L fa cd)) Q E s := by
  refine cf (hB.at F.st) (kn_Union _) (kp_Union _) ?_ (he := he) (hplain := by rw [he2]; rfl)
  refine spliced_more (wpAny_mono h (fun v1 s₁ ⟨S₁, p1, F, M1, hp1, h⟩ => ?_) fun _ _ e => e) (he := he)
  refine spliced_more (wpAny_mono h (fun v2 s₂ ⟨S₂, p2, F, M2, hp2, h⟩ => ?_) fun _ _ e => e) (he := he2)
  exact spliced_none ⟨(hB.at F.st).k, union_ (n := 1) hB C F fun x s' S' F M3 I => h x s' S' F (fun a o q => M3 _ _ (M2 _ _ (M1 _ _ q))) (.union I (hp1.mono fun a o q => M3 _ _ (M2 _ _ q)) (hp2.mono M3))⟩
/-- _law_told(.., document) -/
theorem toldE (hB : Hp w B) (C : Cx A (L :: fr) 50) (F : Fx B T s₀ fr mu L m S own s) (H : Held w S m D x y z cs p r q)
    (h : wpAny (model pw w) A (eval e (lenv L fa cd)) (fun v s₁ => ∃ S₁ t, Fx B T s₀ fr mu L m S₁ own s₁ ∧ (∀ a o, S a o → S₁ a o) ∧ PathAt w.params S₁ v t ∧ ok true t = true ∧ room t ≤ 44 ∧ cap t ≤ 1000000 ∧
      ∀ l s' S' vs n, Fx B T s₀ fr mu L m S' own s' → (∀ a o, S a o → S' a o) → S' l (listOf vs.toArray n) → Rows S' vs (find t ⟨[], .dict D cs⟩) → Q (.ref l) s') E s)
    (he : starEach [e, .Name (Str.ofString "document") pos2] (lenv L fa cd) = (false, eval e (lenv L fa cd)) :: starEach [.Name (Str.ofString "document") pos2] (lenv L fa cd) := by rfl) :
    wpAny (model pw w) A (eval (.Call (.Name (Str.ofString "_law_told") pos1) [e, .Name (Str.ofString "document") pos2] [] pos) (lenv L fa cd)) Q E s := by
  refine cf (hB.at F.st) (kn_told _) (kp_told _) ?_ (he := he)
  refine spliced_more (wpAny_mono h (fun v s₁ ⟨S₁, t, F, M1, hp, hok, hr, hc, h⟩ => ?_) fun _ _ e => e) (he := he)
  refine spliced_more (nm F H.mD (spliced_none ⟨(hB.at F.st).k, ?_⟩))
  exact law_told hB (C.le (by omega)) F.st F.has hp (H.mono M1).inAt hok hc fun l s' S' vs n O hl hr => h l s' S' vs n (F.call O) (fun a o q => O.sub _ _ (M1 _ _ q)) hl hr
/-- _law_often(..) -/
theorem oftenE {fs : List Fnd} (hB : Hp w B) (C : Cx A (L :: fr) 50) (F : Fx B T s₀ fr mu L m S own s) (hok : ∀ f ∈ fs, okA f.addr) (h128 : fs.length < 128)
    (h : wpAny (model pw w) A (eval e (lenv L fa cd)) (fun v s₁ => ∃ l vs n S₁, v = .ref l ∧ Fx B T s₀ fr mu L m S₁ own s₁ ∧ (∀ a o, S a o → S₁ a o) ∧ S₁ l (listOf vs.toArray n) ∧ Rows S₁ vs fs ∧
      ∀ r s' S' out ys k, Fx B T s₀ fr mu L m S' own s' → (∀ a o, S a o → S' a o) → S' r (listOf (List.toArray out) k) → All2 StrIs out ys → ys.Perm (fs.map fun f => addrText f.addr) → sortedS ys = true → Q (.ref r) s') E s)
    (he : starEach [e] (lenv L fa cd) = [(false, eval e (lenv L fa cd))] := by rfl) :
    wpAny (model pw w) A (eval (.Call (.Name (Str.ofString "_law_often") pos1) [e] [] pos) (lenv L fa cd)) Q E s := by
  refine cf (hB.at F.st) (kn_often _) (kp_often _) ?_ (he := he)
  refine spliced_more (wpAny_mono h (fun v s₁ ⟨l, vs, n, S₁, ev, F, M1, hl, hr, h⟩ => ?_) fun _ _ e => e) (he := he)
  subst ev
  exact spliced_none ⟨(hB.at F.st).k, law_often hB (C.le (by omega)) F.st F.has hl hr hok h128 fun r s' S' out ys k O h1 h2 h3 h4 => h r s' S' out ys k (F.call O) (fun a o q => O.sub _ _ (M1 _ _ q)) h1 h2 h3 h4⟩
/-- the texts of two findings are one -/
theorem often_ne {l b : Addr} {us vs : List Value} {xs ys : List Str} {fs gs : List Fnd} {n n' : Nat} (hu : A.units < cLine) (hl : s.heap.get? l = some (listOf us.toArray n)) (hb : s.heap.get? b = some (listOf vs.toArray n')) (h1 : All2 StrIs us xs) (h2 : All2 StrIs vs ys)
    (p1 : xs.Perm (fs.map fun f => addrText f.addr)) (p2 : ys.Perm (gs.map fun f => addrText f.addr)) (s1 : sortedS xs = true) (s2 : sortedS ys = true) (q : fs.Perm gs) : SeqAt.RcNeAt A s (.ref l) (.ref b) false := by
  obtain rfl := sorted_one s1 s2 p1 p2 (q.map _)
  exact ne_strs hu hl hb h1 h2
end
end DescLaw
end
section
open PySem PySem.W PyProof.Rows PySem.Calls
set_option Elab.async false
set_option maxRecDepth 100000
namespace DescLaw
/-! the law's own body: the document and the paths -/
theorem ab_steps : Step.key (Str.ofString "a") ∈ steps ∧ Step.key (Str.ofString "b") ∈ steps ∧ [Str.ofString "a", Str.ofString "b"].Nodup := by decide +kernel
theorem kok_two {d1 d2 : Doc} {D : Addr} (h1 : KOk 2 d1) (h2 : KOk 2 d2) : KOk 3 (.dict D [(Str.ofString "a", d1), (Str.ofString "b", d2)]) := by
  intro p hp
  have hp : p ∈ [(Step.key (Str.ofString "a"), d1), (Step.key (Str.ofString "b"), d2)] := hp
  rcases List.mem_cons.mp hp with rfl | hp
  · exact ⟨ab_steps.1, h1⟩
  · rw [List.mem_singleton.mp hp]; exact ⟨ab_steps.2.1, h2⟩
theorem fit_two {d1 d2 : Doc} {D : Addr} (h1 : Fit 2 d1) (h2 : Fit 2 d2) : Fit 3 (.dict D [(Str.ofString "a", d1), (Str.ofString "b", d2)]) := by
  refine ⟨by simp [Doc.kids], fun p hp => ?_⟩
  have hp : p ∈ [(Step.key (Str.ofString "a"), d1), (Step.key (Str.ofString "b"), d2)] := hp
  rcases List.mem_cons.mp hp with rfl | hp
  · exact h1
  · rw [List.mem_singleton.mp hp]; exact h2
section
variable {w : World} {A : Around} {E : Value → Shared → Prop} {B : Heap} {fr : List Addr} {s₀ s : Shared} {L fa : Addr} {cd : Value} {m : Str → Option Value} {T S : Sto} {Q : Flow → Shared → Prop}
theorem law_start {l : Addr} {vs : List Value} {ns : List Int} (hB : Hp w B) (C : Cx A (L :: fr) 50) (F : Fx B T s₀ fr [] L m S [] s) (hm : m (Str.ofString "script") = some (.ref l)) (hl : s.heap.IsList l vs.toArray) (hi : IntsAre vs ns) (hz : vs.length ≤ 1000)
    (h : ∀ m' S' D x y z cs p r q s', Fx B T s₀ fr [] L m' S' [] s' → Held w S' m' D x y z cs p r q → wpAny (model pw w) A (execs ((defBody (topAt 31)).drop 6) (lenv L fa cd)) Q E s') :
    wpAny (model pw w) A (execs (defBody (topAt 31)) (lenv L fa cd)) Q E s := by
  refine wpAny_execs_cons (asg (List_ (spliced_more (uptoL hi hz (by decide : (0 : Int) ≤ 20) (nm F hm ⟨rfl, hl, F, fun rl s₁ us F hus => ?_⟩)))))
  have F := F.freeze
  have Z : Scr (S.add rl (listOf us.toArray 0)) rl (ns.take (20 : Int).toNat) := ⟨us, 0, .inr ⟨rfl, rfl⟩, hus, by rw [List.length_take]; exact Nat.min_le_left _ _⟩
  generalize ns.take (20 : Int).toNat = ns' at Z
  obtain ⟨S₁, hS₁⟩ : ∃ S₁, S₁ = S.add rl (listOf us.toArray 0) := ⟨_, rfl⟩
  rw [← hS₁] at F Z
  refine spliced_more (cint F fun t0 s₂ F => spliced_none (newL F fun sp s₃ F => sto F fun s₄ F => ?_))
  have hst : isSt (listOf (List.toArray [Value.ref rl, .int 0 t0]) 0) rl ((0 : Nat) : Int) := ⟨rfl, 0, t0, rfl⟩
  -- the document
  refine wpAny_execs_cons (asg (dict2 hB F (by decide) fun D s₅ F hD => ?_))
  have F := F.swap
  obtain ⟨g1, g2, g3, g4⟩ := F.mine _ (.head _)
  refine cf (hB.at F.st) (kn_doc _) (kp_doc _) (spliced_more (nm F rfl (spliced_more (cint F fun t2 s₆ F => spliced_none ⟨(hB.at F.st).k, ?_⟩))))
  obtain ⟨g1, g2, g3, g4⟩ := F.mine _ (.head _)
  refine doc_all w B hB 2 (by decide) (C.le (by omega)) F.st F.has g1 hst g2 (F.bnone (.head _)) g4 Z (by decide) fun d1 s₇ S₂ o1 k1 O e1 hst1 hk1 dd1 df1 dk1 => ?_
  have c2 : cost 2 = 26 := rfl
  refine ⟨S₂, [(sp, o1)], (F.callM O e1).swap, fun s₈ F => ?_⟩
  have Z := Z.mono O.sub
  have F := F.swap
  refine cf (hB.at F.st) (kn_doc _) (kp_doc _) (spliced_more (nm F rfl (spliced_more (cint F fun t3 s₉ F => spliced_none ⟨(hB.at F.st).k, ?_⟩))))
  obtain ⟨g1, g2, g3, g4⟩ := F.mine _ (.head _)
  refine doc_all w B hB 2 (by decide) (C.le (by omega)) F.st F.has g1 hst1 g2 (F.bnone (.head _)) g4 Z (by omega) fun d2 s₁₀ S₃ o2 k2 O2 e2 hst2 hk2 dd2 df2 dk2 => ?_
  refine ⟨S₃, [(sp, o2)], (F.callM O2 e2).swap, fun es n s₁₁ F X => sto F fun s₁₂ F => ?_⟩
  have Z := Z.mono O2.sub
  have F := F.freeze
  have hdoc : DocAt w.params (S₃.add D (dictOf es n)) (.dict D [(Str.ofString "a", d1), (Str.ofString "b", d2)]) := by
    refine .dict hD (.inr ⟨rfl, rfl⟩) X ab_steps.2.2 fun p hp => ?_
    rcases List.mem_cons.mp hp with rfl | hp
    · exact dd1.mono fun a o q => .inl (O2.sub _ _ q)
    · rw [List.mem_singleton.mp hp]; exact dd2.mono fun a o q => .inl q
  have hfit : Fit 3 (.dict D [(Str.ofString "a", d1), (Str.ofString "b", d2)]) := fit_two df1 df2
  have hfine : Fine ⟨[], .dict D [(Str.ofString "a", d1), (Str.ofString "b", d2)]⟩ := ⟨3, by simp, hfit, kok_two dk1 dk2, fun s hs => by cases hs⟩
  have Z : Scr (S₃.add D (dictOf es n)) rl ns' := Z.mono fun a o q => .inl q
  obtain ⟨cs, hcs, hc2⟩ : ∃ cs, cs = [(Str.ofString "a", d1), (Str.ofString "b", d2)] ∧ cs.length = 2 := ⟨_, rfl, rfl⟩
  rw [← hcs] at hdoc hfit hfine
  obtain ⟨S₄, hS₄⟩ : ∃ S₄, S₄ = S₃.add D (dictOf es n) := ⟨_, rfl⟩
  rw [← hS₄] at F Z hdoc
  have hk2 : k2 ≤ 52 := by omega
  -- one
  refine wpAny_execs_cons (asg (cf (hB.at F.st) (kn_step _) (kp_step _) (spliced_more (nm F rfl (spliced_none ⟨(hB.at F.st).k, ?_⟩)))))
  obtain ⟨g1, g2, g3, g4⟩ := F.mine _ (.head _)
  refine law_step hB (C.le (by omega)) F.st F.has g1 hst2 g2 (F.bnone (.head _)) g4 Z (by omega) fun x1 p1 s₁₃ S₅ o3 k3 O3 e3 hst3 hk3 px1 hp1 => ?_
  have F := F.callM O3 e3
  refine sto F fun s₁₄ F => ?_
  have Z := Z.mono O3.sub
  have hdoc := hdoc.mono O3.sub
  have fin : ∀ {m' S' s' x p k o}, Fx B T s₀ fr [] L m' S' [(sp, o)] s' → m' (Str.ofString "state") = some (.ref sp) → m' (Str.ofString "document") = some (.ref D) → m' (Str.ofString "one") = some (.ref x) → Scr S' rl ns' → isSt o rl ((k : Nat) : Int) → k ≤ 100 → DocAt w.params S' (.dict D cs) → PathAt w.params S' (.ref x) p → isOne p → wpAny (model pw w) A (execs ((defBody (topAt 31)).drop 4) (lenv L fa cd)) Q E s' := by
    intro m' S' s' x p k o F m1 m2 m3 Z hst hk hdoc px hp
    refine wpAny_execs_cons (asg (cf (hB.at F.st) (kn_step _) (kp_step _) (spliced_more (nm F m1 (spliced_none ⟨(hB.at F.st).k, ?_⟩)))))
    obtain ⟨g1, g2, g3, g4⟩ := F.mine _ (.head _)
    refine law_step hB (C.le (by omega)) F.st F.has g1 hst g2 (F.bnone (.head _)) g4 Z (by omega) fun y r s₁ S₁ o1 k1 O e1 hst1 hk1 py hr => ?_
    have F := F.callM O e1
    refine sto F fun s₂ F => ?_
    refine wpAny_execs_cons (asg (cf (hB.at F.st) (kn_step _) (kp_step _) (spliced_more (nm F ((if_neg (by decide)).trans m1) (spliced_none ⟨(hB.at F.st).k, ?_⟩)))))
    obtain ⟨g1, g2, g3, g4⟩ := F.mine _ (.head _)
    refine law_step hB (C.le (by omega)) F.st F.has g1 hst1 g2 (F.bnone (.head _)) g4 (Z.mono O.sub) (by omega) fun z q s₃ S₂ o2 k2 O2 e2 hst2 hk2 pz hq => ?_
    have F := F.callM O2 e2
    refine sto F fun s₄ F => ?_
    refine h _ S₂ D x y z cs p r q _ F.drop ⟨(if_neg (by decide)).trans ((if_neg (by decide)).trans m2), (if_neg (by decide)).trans ((if_neg (by decide)).trans m3), (if_neg (by decide)).trans (if_pos rfl), if_pos rfl, hdoc.mono fun a o q => O2.sub _ _ (O.sub _ _ q), hfit, hfine, hc2, px.mono fun a o q => O2.sub _ _ (O.sub _ _ q), py.mono O2.sub, pz, hp, hr, hq⟩
  refine wpAny_execs_cons (wpAny_If (wpAny_isTrue_Compare1 (cf (hB.at F.st) (kn_next _) (kp_next _) (spliced_more (nm F rfl (spliced_more (cint F fun _ s₁₅ F => spliced_none ⟨(hB.at F.st).k, nextF hB (C.le (by omega)) F hst3 Z (by omega) (by decide) fun tq s₁₆ o4 F hst4 => cint F fun _ s₁₇ F => eq_int (wpAny_truthy_bool ?_)⟩)))))))
  generalize draw ns' k3 2 = dr at F
  by_cases hq : dr = 1
  · rw [if_pos (by simpa using hq)]
    refine wpAny_execs_cons (asg (cf (hB.at F.st) (kn_Child _) (kp_Child _) (spliced_more (nm F rfl (spliced_more (cf (hB.at F.st) (kn_step _) (kp_step _) (spliced_more (nm F rfl (spliced_none ⟨(hB.at F.st).k, ?_⟩)))))))))
    obtain ⟨g1, g2, g3, g4⟩ := F.mine _ (.head _)
    refine law_step hB (C.le (by omega)) F.st F.has g1 hst4 g2 (F.bnone (.head _)) g4 Z (by omega) fun x2 p2 s₁₈ S₆ o5 k5 O5 e5 hst5 hk5 px2 hp2 => ?_
    have F := F.callM O5 e5
    refine spliced_none ⟨(hB.at F.st).k, child_ (n := 2) hB (C.le (by omega)) F fun x3 s₁₉ S₇ F M7 I7 => sto F fun s₂₀ F => ?_⟩
    have M : ∀ a o, S₅ a o → S₇ a o := fun a o q => M7 _ _ (O5.sub _ _ q)
    exact wpAny_execs_nil (fin F rfl rfl rfl (Z.mono M) hst5 (by omega) (hdoc.mono M) (.child I7 (px1.mono M) (px2.mono M7)) (.inr ⟨_, _, rfl, hp1, hp2⟩))
  · rw [if_neg (by simpa using hq)]
    exact wpAny_execs_nil (fin F rfl rfl rfl Z hst4 (by omega) hdoc px1 (.inl hp1))
end
end DescLaw
end
section
open PySem PySem.W PyProof.Rows PySem.Calls
set_option Elab.async false
set_option maxRecDepth 100000
namespace DescLaw
/-! the law's own body: depths -/
theorem isOne_good {p : Path} (h : isOne p) : good p := by
  rcases h with h | ⟨a, b, rfl, ha, hb⟩
  · exact (step_cap h).2
  · exact ⟨(step_cap ha).2, (step_cap hb).2⟩
theorem pathK_good {p : Path} (h : isOne p) : ∀ n, good (pathK p n)
  | 0 => isOne_good h
  | n + 1 => ⟨pathK_good h n, trivial⟩
theorem depth_room {p r : Path} (hp : isOne p) (hr : isStep r) {i : Nat} (hi : i < 5) : ok true (.child (pathK p i) r) = true ∧ room (.child (pathK p i) r) ≤ 44 ∧ cap (.child (pathK p i) r) ≤ 2187 ∧ good (.child (pathK p i) r) := by
  obtain ⟨h1, h2, h3⟩ := pathK_room hp i
  have h4 := step_room hr
  have h5 := step_cap hr
  refine ⟨?_, ?_, ?_, pathK_good hp i, h5.2⟩
  · show (ok true (pathK p i) && ok false r) = true
    rw [h3, h4.2]; rfl
  · show max (room (pathK p i)) (room r) + 3 ≤ 44
    omega
  · show cap (pathK p i) * cap r ≤ 2187
    have h6 : 3 ^ i ≤ 3 ^ 4 := Nat.pow_le_pow_right (by decide) (by omega)
    have h7 : cap (pathK p i) ≤ 729 := Nat.le_trans h2 (by omega)
    exact Nat.mul_le_mul h7 h5.1
theorem depthsK_len {p r : Path} {f : Fnd} (hp : isOne p) (hr : isStep r) (hf : Fit 3 f.doc) : ∀ n, n ≤ 5 → (depthsK p r f n).length ≤ n * 2187
  | 0, _ => by simp [depthsK]
  | n + 1, h => by
    have h1 := depthsK_len hp hr hf n (by omega)
    obtain ⟨_, _, h3, h4⟩ := depth_room hp hr (i := n) (by omega)
    have h5 := find_len h4 hf
    show (depthsK p r f n ++ find (.child (pathK p n) r) f).length ≤ _
    rw [List.length_append, Nat.succ_mul]; omega
section
variable {w : World} {A : Around} {E : Value → Shared → Prop} {B : Heap} {fr : List Addr} {s₀ s : Shared} {L fa : Addr} {cd : Value} {m : Str → Option Value} {T S : Sto} {Q : Flow → Shared → Prop} {D x y z : Addr} {cs : List (Str × Doc)} {p r q : Path}
theorem law_loop (hB : Hp w B) (C : Cx A (L :: fr) 50) (F : Fx B T s₀ fr [] L m S [] s) (H : Held w S m D x y z cs p r q)
    (h : ∀ m' S' s' dl vs k v, Fx B T s₀ fr [] L m' S' [] s' → Held w S' m' D x y z cs p r q → m' (Str.ofString "depths") = some (.ref dl) → S' dl (listOf vs.toArray k) → Rows S' vs (depthsK p r ⟨[], .dict D cs⟩ 5) → m' (Str.ofString "path") = some v → PathAt w.params S' v (pathK p 5) →
      wpAny (model pw w) A (execs ((defBody (topAt 31)).drop 9) (lenv L fa cd)) Q E s') :
    wpAny (model pw w) A (execs ((defBody (topAt 31)).drop 6) (lenv L fa cd)) Q E s := by
  have hm := million
  refine wpAny_execs_cons (asg (List_ (spliced_none (newL F fun d0 s₁ F => sto F fun s₂ F => ?_))))
  have F := F.freeze
  have H1 := (H.mono (S' := S.add d0 (listOf [].toArray 0)) fun _ _ q => .inl q).set (u := Str.ofString "depths") (v := .ref d0)
  refine wpAny_execs_cons (asg (nm F H1.mx (sto F fun s₃ F => ?_)))
  have H2 := H1.set (u := Str.ofString "path") (v := .ref x)
  refine wpAny_execs_cons (wpAny_For (cbt (hB.at F.st) (kn_range _) bn_range (spliced_more (cint F fun tn s₄ F => spliced_none (callRange F fun rr _ _ s₅ F => iterRange (n := 5) F (by decide) fun I s₆ ows F p0 => ?_)))))
  refine floop (Itn.range C.handled) (fun i m S' own => own = [] ∧ Held w S' m D x y z cs p r q ∧ ∃ dl vs k v, m (Str.ofString "depths") = some (.ref dl) ∧ S' dl (listOf vs.toArray k) ∧ Rows S' vs (depthsK p r ⟨[], .dict D cs⟩ i) ∧ m (Str.ofString "path") = some v ∧ PathAt w.params S' v (pathK p i)) F p0
    ⟨rfl, H2, d0, [], 0, _, (if_neg (by decide)).trans (if_pos rfl), .inr ⟨rfl, rfl⟩, .nil, if_pos rfl, H.px.mono fun _ _ q => .inl q⟩ (fun i m S₁ ows own s₇ v E' hi hv J F => ?_) (fun m S₁ own s₈ J F => ?_)
  · obtain ⟨rfl, H, dl, vs, k, pv, m1, hdl, hr, m2, hp⟩ := J
    have H := H.set (u := Str.ofString "k") (v := v)
    have m1 : (fun t => if t = Str.ofString "k" then some v else m t) (Str.ofString "depths") = some (.ref dl) := (if_neg (by decide)).trans m1
    have m2 : (fun t => if t = Str.ofString "k" then some v else m t) (Str.ofString "path") = some pv := (if_neg (by decide)).trans m2
    generalize (fun t => if t = Str.ofString "k" then some v else m t) = m' at F H m1 m2
    obtain ⟨r1, r2, r3, r4⟩ := depth_room H.hp H.hr (i := i) (by omega)
    refine wpAny_execs_cons (asg (wpAny_BinOp (nm F m1 (toldE hB C F H (childE hB (C.le (by omega)) F (nm F m2 ⟨S₁, _, F, fun _ _ q => q, hp, nm F H.my ⟨S₁, _, F, fun _ _ q => q, H.py, fun c s₉ S₂ F M2 pc => ⟨S₂, _, F, M2, pc, r1, r2, by omega, fun l s₁₀ S₃ us n F M3 hl hrl => ?_⟩⟩⟩))))))
    have hlen := depthsK_len (f := ⟨[], .dict D cs⟩) H.hp H.hr H.fit i (by omega)
    have hlen2 := find_len (f := ⟨[], .dict D cs⟩) r4 H.fit
    refine addL F (F.has.get (M3 _ _ hdl)) (F.has.get hl) (by rw [hr.length, hrl.length]; omega) fun nl s₁₁ F => sto F fun s₁₂ F => ?_
    have F := F.freeze
    have H3 := (H.mono (S' := S₃.add nl (listOf (vs ++ us).toArray 0)) fun a o q => .inl (M3 _ _ q)).set (u := Str.ofString "depths") (v := .ref nl)
    refine wpAny_execs_cons (asg (childE hB (C.le (by omega)) F (nm F ((if_neg (by decide)).trans m2) ⟨_, _, F, fun _ _ q => q, hp.mono fun a o q => .inl (M3 _ _ q), cf0 (hB.at F.st) (kn_Wild _) (kp_Wild _) (wild_ hB F fun c s₁₃ S₄ F M4 pw4 => ⟨S₄, _, F, M4, pw4, fun c2 s₁₄ S₅ F M5 pc5 => sto F fun s₁₅ F => ?_⟩)⟩)))
    refine wpAny_execs_nil ⟨_, S₅, [], F.perm (own' := ows ++ []) (by simp), fun a o q => M5 _ _ (.inl (M3 _ _ q)), rfl, (H3.mono M5).set, nl, vs ++ us, 0, _, (if_neg (by decide)).trans (if_pos rfl), M5 _ _ (.inr ⟨rfl, rfl⟩), ?_, if_pos rfl, pc5⟩
    exact (hr.mono fun v x q => q.mono fun a o q => M5 _ _ (.inl (M3 _ _ q))).append (hrl.mono fun v x q => q.mono fun a o q => M5 _ _ (.inl q))
  · obtain ⟨rfl, H, dl, vs, k, pv, m1, hdl, hr, m2, hp⟩ := J
    exact h m S₁ _ dl vs k pv F H m1 hdl hr m2 hp
end
end DescLaw
end
section
open PySem PySem.W PyProof.Rows PySem.Calls
set_option Elab.async false
set_option maxRecDepth 100000
namespace DescLaw
/-! the law's own body: what is told twice -/
theorem desc_room {p r : Path} (hp : room p ≤ 20) (hc : cap p ≤ 20) (ho : ok true p = true) (hr : isStep r) : ok true (.desc p r) = true ∧ room (.desc p r) ≤ 44 ∧ cap (.desc p r) ≤ 1000000 := by
  have h4 := step_room hr
  have h5 := step_cap hr
  refine ⟨?_, ?_, ?_⟩
  · show (ok true p && ok false r) = true
    rw [ho, h4.2]; rfl
  · show max (room p) (room r) + 12 ≤ 44
    omega
  · show cap p * (40 * cap r) ≤ 1000000
    exact Nat.le_trans (Nat.mul_le_mul hc (Nat.mul_le_mul_left 40 h5.1)) (by decide)
theorem desc_room1 {p r : Path} (hp : isOne p) (hr : isStep r) : ok true (.desc p r) = true ∧ room (.desc p r) ≤ 44 ∧ cap (.desc p r) ≤ 1000000 := by
  obtain ⟨h1, h2, h3⟩ := one_room hp
  exact desc_room (by omega) (by omega) (h3 _) hr
theorem desc_small {p r : Path} (hp : good p) (hr : isStep r) (hc : cap p ≤ 20) {f : Fnd} (hf : Fit 3 f.doc) : (find (.desc p r) f).length ≤ 2400 := by
  refine Nat.le_trans (find_len (p := .desc p r) ⟨hp, (step_cap hr).2⟩ hf) ?_
  show cap p * (40 * cap r) ≤ 2400
  exact Nat.le_trans (Nat.mul_le_mul hc (Nat.mul_le_mul_left 40 (step_cap hr).1)) (by decide)
section
variable {w : World} {A : Around} {E : Value → Shared → Prop} {B : Heap} {fr : List Addr} {s₀ s : Shared} {L fa : Addr} {cd : Value} {m : Str → Option Value} {T S : Sto} {Q : Flow → Shared → Prop} {D x y z : Addr} {cs : List (Str × Doc)} {p r q : Path}
/-- _law_told(Descendants(u, v), document), u and v names -/
theorem told2 {mu : List Addr} {own : List (Addr × Obj)} {Q : Value → Shared → Prop} {u v : Str} {xu xv : Addr} {pu pv : Path} {q1 q2 q3 q4 q5 q6 q7 : Pos} (hB : Hp w B) (C : Cx A (L :: fr) 50) (F : Fx B T s₀ fr mu L m S own s) (H : Held w S m D x y z cs p r q)
    (m1 : m u = some (.ref xu)) (p1 : PathAt w.params S (.ref xu) pu) (m2 : m v = some (.ref xv)) (p2 : PathAt w.params S (.ref xv) pv) (hr : ok true (.desc pu pv) = true ∧ room (.desc pu pv) ≤ 44 ∧ cap (.desc pu pv) ≤ 1000000)
    (h : ∀ l s' S' vs n, Fx B T s₀ fr mu L m S' own s' → (∀ a o, S a o → S' a o) → S' l (listOf vs.toArray n) → Rows S' vs (find (.desc pu pv) ⟨[], .dict D cs⟩) → Q (.ref l) s')
    (hu : (lenv L fa cd).kindOf u = some .local := by rfl) (hv : (lenv L fa cd).kindOf v = some .local := by rfl) (hud : (u == ("__debug__" : Str)) = false := by decide) (hvd : (v == ("__debug__" : Str)) = false := by decide) :
    wpAny (model pw w) A (eval (.Call (.Name (Str.ofString "_law_told") q1) [.Call (.Name (Str.ofString "Descendants") q2) [.Name u q3, .Name v q4] [] q5, .Name (Str.ofString "document") q6] [] q7) (lenv L fa cd)) Q E s :=
  toldE hB C F H (descE hB (C.le (by omega)) F (nm F m1 (hx := hu) (hd := hud) ⟨S, _, F, fun _ _ q => q, p1, nm F m2 (hx := hv) (hd := hvd) ⟨S, _, F, fun _ _ q => q, p2, fun c s₁ S₁ F M pc => ⟨S₁, _, F, M, pc, hr.1, hr.2.1, hr.2.2, h⟩⟩⟩))
theorem law_first {dl : Addr} {vs : List Value} {k : Nat} {v : Value} (hB : Hp w B) (C : Cx A (L :: fr) 50) (F : Fx B T s₀ fr [] L m S [] s) (H : Held w S m D x y z cs p r q) (m1 : m (Str.ofString "depths") = some (.ref dl)) (hdl : S dl (listOf vs.toArray k)) (hr : Rows S vs (depthsK p r ⟨[], .dict D cs⟩ 5))
    (m2 : m (Str.ofString "path") = some v) (hv : PathAt w.params S v (pathK p 5))
    (h : ∀ S' s', Fx B T s₀ fr [] L m S' [] s' → (∀ a o, S a o → S' a o) → wpAny (model pw w) A (execs ((defBody (topAt 31)).drop 10) (lenv L fa cd)) Q E s') :
    wpAny (model pw w) A (execs ((defBody (topAt 31)).drop 9) (lenv L fa cd)) Q E s := by
  obtain ⟨r1, r2, r3⟩ := pathK_room H.hp 5
  obtain ⟨f0, pf, sf, rfl, hpf, hsf⟩ := pathTruth hv
  refine wpAny_execs_cons (wpAny_If (isTrue_or (wpAny_isTrue_Compare1 (MethodCall_ (nm F m2 (getFind hB F hv (callWith_K (hB.at F.st).k (kp_find _ _) (spliced_more (nm F H.mD (spliced_none ⟨(hB.at F.st).k, ?_⟩))))))))))
  refine all_find w B hB (pathK p 5) (C.le (by omega)) F.st F.has hv (H.inAt (b := true)) (r3 _) (Nat.le_trans r2 (by decide)) fun a s₁ S₁ us n O ha hd => ?_
  have F := F.call O
  have e0 : us = [] := by
    have := hd.length
    rw [law_none H.fit] at this
    exact List.length_eq_zero_iff.mp this
  subst e0
  refine List_ (spliced_none (newL F fun b s₂ F => ?_))
  refine rcn_lists (F.has.get ha) (F.mine _ (.head _)).1 rfl C.cRoom (fun j h1 _ => absurd h1 (by simp)) _ _ _ _ (wpAny_truthy_bool ?_)
  rw [if_neg (by decide)]
  have F := F.drop
  have H1 := H.mono O.sub
  have hdl := O.sub _ _ hdl
  have hr := hr.mono fun v x q => RowAt.mono q O.sub
  have pm := law_depths (p := p) (r := r) (f := ⟨[], .dict D cs⟩) H.fit
  have l40 := one_find H.hp H.hr (f := ⟨[], .dict D cs⟩) H.fit
  refine isTrue_or (wpAny_isTrue_Compare1 (oftenE hB C F (find_ok H.fine) (by omega) (told2 hB C F H1 H.mx H1.px H.my H1.py (desc_room1 H.hp H.hr) fun l s₃ S₃ us n F M3 hl hrl => ⟨l, us, n, S₃, rfl, F, M3, hl, hrl, fun o1 s₄ S₄ out1 ys1 k1 F M4 ho1 a1 b1 c1 => ?_⟩)))
  refine oftenE (fs := depthsK p r ⟨[], .dict D cs⟩ 5) hB C F (fun f hf => find_ok H.fine f (pm.mem_iff.mpr hf)) (by rw [← pm.length_eq]; omega) (nm F m1 ⟨dl, vs, k, S₄, rfl, F, fun _ _ q => q, M4 _ _ hdl, hr.mono fun v x q => RowAt.mono q M4, fun o2 s₅ S₅ out2 ys2 k2 F M5 ho2 a2 b2 c2 => ?_⟩)
  refine often_ne C.cRoom (F.has.get (M5 _ _ ho1)) (F.has.get ho2) a1 a2 b1 b2 c1 c2 pm _ _ _ _ (wpAny_truthy_bool ?_)
  rw [if_neg (by decide)]
  refine isTrue_or_nil ?_
  rw [if_neg (by decide)]
  exact wpAny_execs_nil (h S₅ s₅ F fun a o q => M5 _ _ (M4 _ _ (O.sub _ _ q)))
end
end DescLaw
end
section
open PySem PySem.W PyProof.Rows PySem.Calls
set_option Elab.async false
set_option maxRecDepth 100000
namespace DescLaw
/-! the law's own body: every thing, by its address -/
theorem addr_child {a : List Step} {r : Path} (h : a.length ≤ 3) (hr : isStep r) : ok true (.child (addrPath a) r) = true ∧ room (.child (addrPath a) r) ≤ 44 ∧ cap (.child (addrPath a) r) ≤ 24 := by
  obtain ⟨h1, h2, h3⟩ := addr_room a h
  have h4 := step_room hr
  have h5 := step_cap hr
  refine ⟨?_, ?_, ?_⟩
  · show (ok true (addrPath a) && ok false r) = true
    rw [h3, h4.2]; rfl
  · show max (room (addrPath a)) (room r) + 3 ≤ 44
    omega
  · exact Nat.mul_le_mul h2 h5.1
section
variable {w : World} {A : Around} {E : Value → Shared → Prop} {B : Heap} {fr : List Addr} {s₀ s : Shared} {L fa : Addr} {cd : Value} {m : Str → Option Value} {T S : Sto} {Q : Flow → Shared → Prop} {D x y z : Addr} {cs : List (Str × Doc)} {p r q : Path}
theorem law_every (hB : Hp w B) (C : Cx A (L :: fr) 50) (F : Fx B T s₀ fr [] L m S [] s) (H : Held w S m D x y z cs p r q)
    (h : ∀ m' S' s' el vs k, Fx B T s₀ fr [] L m' S' [] s' → Held w S' m' D x y z cs p r q → m' (Str.ofString "every") = some (.ref el) → S' el (listOf vs.toArray k) → Addrs S' vs ((pre 3 ⟨[], .dict D cs⟩).map Fnd.addr) →
      wpAny (model pw w) A (execs ((defBody (topAt 31)).drop 14) (lenv L fa cd)) Q E s') :
    wpAny (model pw w) A (execs ((defBody (topAt 31)).drop 10) (lenv L fa cd)) Q E s := by
  have hm := million
  have hf0 : Fine ⟨[], .dict D cs⟩ := H.fine
  have hp40 := pre_le (n := 3) (Nat.le_refl 3) (f := ⟨[], .dict D cs⟩) H.fit
  refine wpAny_execs_cons (asg (cf (hB.at F.st) (kn_all _) (kp_all _) (spliced_more (nm F H.mD (spliced_more (List_ (spliced_none (newL F fun e0 s₁ F => spliced_none ⟨(hB.at F.st).k, ?_⟩))))))))
  have F := F.freeze
  have H0 := H.mono (S' := S.add e0 (listOf [].toArray 0)) fun _ _ q => .inl q
  refine all_all w B hB 3 (Nat.le_refl 3) (d := .dict D cs) (a := []) (C.le (by omega)) F.st F.has H0.doc H.fit (by decide) ⟨e0, [], 0, rfl, .inr ⟨rfl, rfl⟩, .nil⟩ fun el s₂ S₂ vs k O hel ha => ?_
  have F := F.call O
  refine sto F fun s₃ F => ?_
  have H1 := (H0.mono O.sub).set (u := Str.ofString "every") (v := .ref el)
  refine wpAny_execs_cons (asg (List_ (spliced_none (newL F fun d0 s₄ F => sto F fun s₅ F => ?_))))
  have F := F.freeze
  have H2 := (H1.mono (S' := S₂.add d0 (listOf [].toArray 0)) fun _ _ q => .inl q).set (u := Str.ofString "rows") (v := .ref d0)
  refine wpAny_execs_cons (wpAny_For (nm F ((if_neg (by decide)).trans (if_pos rfl)) (iterL F (.inl hel) fun I s₆ ows F p0 => ?_)))
  refine floop (Itn.list (items := vs) C.handled) (fun i m S' own => own = [] ∧ Held w S' m D x y z cs p r q ∧ (∀ a o, S₂ a o → S' a o) ∧ m (Str.ofString "every") = some (.ref el) ∧ ∃ rl us k, m (Str.ofString "rows") = some (.ref rl) ∧ S' rl (listOf us.toArray k) ∧ Rows S' us (((pre 3 ⟨[], .dict D cs⟩).take i).flatMap fun g => find (.child (addrPath g.addr) r) ⟨[], .dict D cs⟩)) F p0
    ⟨rfl, H2, fun _ _ q => .inl q, (if_neg (by decide)).trans (if_pos rfl), d0, [], 0, if_pos rfl, .inr ⟨rfl, rfl⟩, .nil⟩ (fun i m S₃ ows own s₇ v E' hi hv J F => ?_) (fun m S₃ own s₈ J F => ?_)
  · obtain ⟨rfl, H, M, m0, rl, us, k, m1, hrl, hr⟩ := J
    obtain ⟨a, hga, hav⟩ := ha.get hv
    rw [List.getElem?_map] at hga
    obtain ⟨g, hg, rfl⟩ := Option.map_eq_some_iff.mp hga
    have hgm := List.mem_of_getElem? hg
    have hok := pre_ok hf0 g hgm
    have H := H.set (u := Str.ofString "address") (v := v)
    have m0 : (fun t => if t = Str.ofString "address" then some v else m t) (Str.ofString "every") = some (.ref el) := (if_neg (by decide)).trans m0
    have m1 : (fun t => if t = Str.ofString "address" then some v else m t) (Str.ofString "rows") = some (.ref rl) := (if_neg (by decide)).trans m1
    have m2 : (fun t => if t = Str.ofString "address" then some v else m t) (Str.ofString "address") = some v := if_pos rfl
    generalize (fun t => if t = Str.ofString "address" then some v else m t) = m' at F H m0 m1 m2
    obtain ⟨r1, r2, r3⟩ := addr_child hok.1 H.hr
    have e9 := take_flat (pre 3 ⟨[], .dict D cs⟩) (fun g => find (.child (addrPath g.addr) r) ⟨[], .dict D cs⟩) hg
    have hlen : (((pre 3 ⟨[], .dict D cs⟩).take i).flatMap fun g => find (.child (addrPath g.addr) r) ⟨[], .dict D cs⟩).length ≤ 2400 := by
      have e1 := take_flat_len (pre 3 ⟨[], .dict D cs⟩) (fun g => find (.child (addrPath g.addr) r) ⟨[], .dict D cs⟩) i
      have e2 := congrArg List.length (law_rows (r := r) (f := ⟨[], .dict D cs⟩) H.doc rfl)
      have e3 := desc_small (p := .root) trivial H.hr (by decide) (f := ⟨[], .dict D cs⟩) H.fit
      omega
    refine wpAny_execs_cons (asg (wpAny_BinOp (nm F m1 (toldE hB C F H (childE hB (C.le (by omega)) F (cf (hB.at F.st) (kn_path _) (kp_path _) (spliced_more (nm F m2 (spliced_none ⟨(hB.at F.st).k, ?_⟩)))))))))
    refine law_path hB (C.le (by omega)) F.st F.has (hav.mono M) hok.2 fun pa s₉ S₄ O4 ppa => ⟨S₄, _, F.call O4, O4.sub, ppa, nm (F.call O4) H.my ⟨S₄, _, F.call O4, fun _ _ q => q, H.py.mono O4.sub, fun c s₁₀ S₅ F M5 pc => ⟨S₅, _, F, M5, pc, r1, r2, by omega, fun l s₁₁ S₆ us2 n F M6 hl hr2 => ?_⟩⟩⟩
    have hlen2 : (find (.child (addrPath g.addr) r) ⟨[], .dict D cs⟩).length ≤ 24 := Nat.le_trans (find_len pc.good H.fit) r3
    refine addL F (F.has.get (M6 _ _ hrl)) (F.has.get hl) (by rw [hr.length, hr2.length]; omega) fun nl s₁₂ F => sto F fun s₁₃ F => ?_
    have F := F.freeze
    have H3 := (H.mono (S' := S₆.add nl (listOf (us ++ us2).toArray 0)) fun a o q => .inl (M6 _ _ q)).set (u := Str.ofString "rows") (v := .ref nl)
    refine wpAny_execs_nil ⟨_, _, [], F.perm (own' := ows ++ []) (by simp), fun a o q => .inl (M6 _ _ q), rfl, H3, fun a o q => .inl (M6 _ _ (M _ _ q)), (if_neg (by decide)).trans m0, nl, us ++ us2, 0, if_pos rfl, .inr ⟨rfl, rfl⟩, ?_⟩
    rw [e9]
    exact (hr.mono fun v x q => RowAt.mono q fun a o q => .inl (M6 _ _ q)).append (hr2.mono fun v x q => RowAt.mono q fun a o q => .inl q)
  · obtain ⟨rfl, H, M, m0, rl, us, k, m1, hrl, hr⟩ := J
    have hr : Rows S₃ us (((pre 3 ⟨[], .dict D cs⟩).take vs.length).flatMap fun g => find (.child (addrPath g.addr) r) ⟨[], .dict D cs⟩) := hr
    rw [List.take_of_length_le (by rw [ha.length, List.length_map]; exact Nat.le_refl _), ← law_rows (r := r) (f := ⟨[], .dict D cs⟩) H.doc rfl] at hr
    obtain ⟨r1, r2, r3⟩ := desc_room (p := .root) (r := r) (by decide) (by decide) rfl H.hr
    refine wpAny_execs_cons (wpAny_If (wpAny_isTrue_Compare1 (toldE hB C F H (descE hB (C.le (by omega)) F (cf0 (hB.at F.st) (kn_Root _) (kp_Root _) (root_ hB F fun ro s₉ S₄ F M4 pr => ⟨S₄, _, F, M4, pr, nm F H.my ⟨S₄, _, F, fun _ _ q => q, H.py.mono M4, fun c s₁₀ S₅ F M5 pc => ⟨S₅, _, F, M5, pc, r1, r2, r3, fun l s₁₁ S₆ us2 n F M6 hl hr2 => nm F m1 ?_⟩⟩⟩))))))
    refine ne_rows F.has (by have := C.units; omega) (F.has.get hl) (F.has.get (M6 _ _ hrl)) hr2 (hr.mono fun v x q => RowAt.mono q M6) _ _ _ _ (wpAny_truthy_bool ?_)
    rw [if_neg (by decide)]
    exact wpAny_execs_nil (h m S₆ _ el vs _ F (H.mono M6) m0 (M6 _ _ (M _ _ hel)) (ha.mono fun v x q => AddrAt.mono q fun a o q => M6 _ _ (M _ _ q)))
end
end DescLaw
end
section
open PySem PySem.W PyProof.Rows PySem.Calls
set_option Elab.async false
set_option maxRecDepth 100000
namespace DescLaw
/-! the law's own body: each thing once more for each thing around it; two paths as one -/
theorem twice_map (f : Fnd) : ((pre 3 f).flatMap fun g => List.replicate (g.addr.length + 1) (addrText g.addr)) = (twiceOf f).map fun g => addrText g.addr := by
  unfold twiceOf
  rw [List.map_flatMap]
  exact flat_congr fun g _ => by rw [List.map_replicate]
theorem this_room : ok true (.desc (.desc .root .this) .this) = true ∧ room (.desc (.desc .root .this) .this) ≤ 44 ∧ cap (.desc (.desc .root .this) .this) ≤ 1000000 := by decide
section
variable {w : World} {A : Around} {E : Value → Shared → Prop} {B : Heap} {fr : List Addr} {s₀ s : Shared} {L fa : Addr} {cd : Value} {m : Str → Option Value} {T S : Sto} {Q : Flow → Shared → Prop} {D x y z : Addr} {cs : List (Str × Doc)} {p r q : Path}
theorem law_second {el : Addr} {vs : List Value} {k : Nat} (hB : Hp w B) (C : Cx A (L :: fr) 50) (F : Fx B T s₀ fr [] L m S [] s) (H : Held w S m D x y z cs p r q) (m0 : m (Str.ofString "every") = some (.ref el)) (hel : S el (listOf vs.toArray k)) (ha : Addrs S vs ((pre 3 ⟨[], .dict D cs⟩).map Fnd.addr))
    (h : ∀ m' S' s', Fx B T s₀ fr [] L m' S' [] s' → Held w S' m' D x y z cs p r q → wpAny (model pw w) A (execs ((defBody (topAt 31)).drop 16) (lenv L fa cd)) Q E s') :
    wpAny (model pw w) A (execs ((defBody (topAt 31)).drop 14) (lenv L fa cd)) Q E s := by
  have hm := million
  have hf0 : Fine ⟨[], .dict D cs⟩ := H.fine
  have hp40 := pre_le (n := 3) (Nat.le_refl 3) (f := ⟨[], .dict D cs⟩) H.fit
  have h95 := twice_len (f := ⟨[], .dict D cs⟩) H.fit rfl (by simp [Doc.kids, H.two])
  have pm : (find (.desc (.desc .root .this) .this) ⟨[], .dict D cs⟩).Perm (twiceOf ⟨[], .dict D cs⟩) := law_twice H.fit rfl
  obtain ⟨r1, r2, r3⟩ := this_room
  -- twice
  refine wpAny_execs_cons (asg (toldE hB C F H (descE hB (C.le (by omega)) F (descE hB (C.le (by omega)) F (cf0 (hB.at F.st) (kn_Root _) (kp_Root _) (root_ hB F fun ro s₁ S₁ F M1 pr => ⟨S₁, _, F, M1, pr, cf0 (hB.at F.st) (kn_This _) (kp_This _) (this_ hB F fun t1 s₂ S₂ F M2 pt => ⟨S₂, _, F, M2, pt, fun c s₃ S₃ F M3 pc =>
    ⟨S₃, _, F, M3, pc, cf0 (hB.at F.st) (kn_This _) (kp_This _) (this_ hB F fun t2 s₄ S₄ F M4 pt2 => ⟨S₄, _, F, M4, pt2, fun c2 s₅ S₅ F M5 pc2 => ⟨S₅, _, F, M5, pc2, r1, r2, r3, fun tl s₆ S₆ us n F M6 htl hr => sto F fun s₇ F => ?_⟩⟩)⟩⟩)⟩))))))
  have H1 := (H.mono M6).set (u := Str.ofString "twice") (v := .ref tl)
  have m1 : (fun t => if t = Str.ofString "twice" then some (Value.ref tl) else m t) (Str.ofString "every") = some (.ref el) := (if_neg (by decide)).trans m0
  have m2 : (fun t => if t = Str.ofString "twice" then some (Value.ref tl) else m t) (Str.ofString "twice") = some (.ref tl) := if_pos rfl
  generalize (fun t => if t = Str.ofString "twice" then some (Value.ref tl) else m t) = m' at F H1 m1 m2
  -- often
  refine wpAny_execs_cons (wpAny_If (wpAny_isTrue_Compare1 (oftenE hB C F (find_ok hf0) (by rw [pm.length_eq]; omega) (nm F m2 ⟨tl, us, n, S₆, rfl, F, fun _ _ q => q, htl, hr, fun o1 s₈ S₈ out1 ys1 k1 F M8 ho1 a1 b1 c1 => ?_⟩))))
  have hel := M8 _ _ (M6 _ _ hel)
  have ha := ha.mono fun v x q => AddrAt.mono q fun a o q => M8 _ _ (M6 _ _ q)
  refine cb (hB.at F.st) (kn_sorted _) bn_sorted (spliced_more (ncomp F (cl := []) 1000 (by decide) rfl (nm F m1 (iterL F hel fun I s₉ ows F p0 => ?_))))
  refine ⟨S₈, ows, vs.length, LI I el vs, _, fun i out S => (∀ a o, S₈ a o → S a o) ∧ All2 StrIs out (((pre 3 ⟨[], .dict D cs⟩).take i).flatMap fun g => List.replicate (g.addr.length + 1) (addrText g.addr)), F, p0, Itn.list C.handled, ⟨fun _ _ q => q, .nil⟩, fun i out S₉ rest s₁₀ Cc oc Dd k mc v E' hi hv J M F hown N hg => ?_, fun Dd out S₉ k s₁₁ J F => ?_⟩
  · obtain ⟨M9, J⟩ := J
    obtain ⟨a, hga, hav⟩ := ha.get hv
    rw [List.getElem?_map] at hga
    obtain ⟨g, hgg, rfl⟩ := Option.map_eq_some_iff.mp hga
    have hok := pre_ok hf0 g (List.mem_of_getElem? hgg)
    have hav := hav.mono M9
    obtain ⟨la, av, ka, rfl, hla, hsa⟩ := id hav
    have hz := hsa.length
    have h3 := hok.1
    have e9 := take_flat (pre 3 ⟨[], .dict D cs⟩) (fun g => List.replicate (g.addr.length + 1) (addrText g.addr)) hgg
    have hlen : (((pre 3 ⟨[], .dict D cs⟩).take i).flatMap fun g => List.replicate (g.addr.length + 1) (addrText g.addr)).length ≤ 95 := by
      have e1 := take_flat_len (pre 3 ⟨[], .dict D cs⟩) (fun g => List.replicate (g.addr.length + 1) (addrText g.addr)) i
      rw [twice_map, List.length_map] at e1
      omega
    refine cbt (hB.at F.st) (kn_range _) bn_range (spliced_more (wpAny_BinOp (cb (hB.at F.st) (kn_len _) bn_len (spliced_more (nmO F (.head _) N hg (spliced_none (lenL F ⟨_, F.has.get hla, rfl, ka, rfl⟩ (by simp; omega) fun tn s₁₂ F => cint F fun _ s₁₃ F => addI F fun tm s₁₄ F => spliced_none ?_)))))))
    rw [show ((av.toArray.size : Int) + 1) = ((g.addr.length + 1 : Nat) : Int) by simp; omega]
    refine callRange F fun rr _ _ s₁₅ F => iterRange F (by omega) fun I2 s₁₆ ows2 F p2 => ?_
    refine ⟨S₉, ows2, g.addr.length + 1, _, _, fun j out S => j ≤ g.addr.length + 1 ∧ (∀ a o, S₉ a o → S a o) ∧ All2 StrIs out ((((pre 3 ⟨[], .dict D cs⟩).take i).flatMap fun g => List.replicate (g.addr.length + 1) (addrText g.addr)) ++ List.replicate j (addrText g.addr)), F, fun _ _ q => q, p2, Itn.range C.handled, ⟨Nat.zero_le _, fun _ _ q => q, by simpa using J⟩, fun j out S J2 => ?_, fun out S J2 => ?_, fun j out S rest s₁₇ oc od mc v2 E' hj hv2 J2 M2 F N h1 h0 => ?_⟩
    · have e1 := J2.2.2.length
      rw [List.length_append, List.length_replicate] at e1
      have := J2.1
      omega
    · refine ⟨fun a o q => J2.2.1 _ _ (M9 _ _ q), ?_⟩
      rw [e9]; exact J2.2.2
    · obtain ⟨J0, J1, J2⟩ := J2
      refine cb (hB.at F.st) (kn_repr _) bn_repr (spliced_more (nmO F (.head _) N h0 (spliced_none (reprA C (by have := C.units; omega) F (hav.mono J1) hok fun u s₁₈ F => ⟨S, F, fun _ _ q => q, by omega, J1, ?_⟩))))
      rw [List.replicate_succ', ← List.append_assoc]
      exact J2.snoc .mk
  · obtain ⟨M9, J⟩ := J
    rw [List.take_of_length_le (l := pre 3 ⟨[], .dict D cs⟩) (by rw [ha.length, List.length_map]; exact Nat.le_refl _), twice_map] at J
    refine spliced_none (sortedF F J (by rw [J.length, List.length_map]; omega) fun r2 s₁₂ out2 ys2 k2 F a2 b2 c2 => ?_)
    refine often_ne C.cRoom (F.has.get (M9 _ _ ho1)) (F.mine _ (.head _)).1 a1 a2 b1 b2 c1 c2 pm _ _ _ _ (wpAny_truthy_bool ?_)
    rw [if_neg (by decide)]
    exact wpAny_execs_nil (h m' S₉ s₁₂ F.drop (H1.mono fun a o q => M9 _ _ (M8 _ _ q)))
theorem law_third (hB : Hp w B) (C : Cx A (L :: fr) 50) (F : Fx B T s₀ fr [] L m S [] s) (H : Held w S m D x y z cs p r q)
    (h : ∀ m' S' s', Fx B T s₀ fr [] L m' S' [] s' → Held w S' m' D x y z cs p r q → wpAny (model pw w) A (execs ((defBody (topAt 31)).drop 18) (lenv L fa cd)) Q E s') :
    wpAny (model pw w) A (execs ((defBody (topAt 31)).drop 16) (lenv L fa cd)) Q E s := by
  have hf0 : Fine ⟨[], .dict D cs⟩ := H.fine
  have l1 := one_find H.hp H.hr (f := ⟨[], .dict D cs⟩) H.fit
  have l2 := one_find H.hp H.hq (f := ⟨[], .dict D cs⟩) H.fit
  have l3 := one_union H.hp H.hr H.hq (f := ⟨[], .dict D cs⟩) H.fit
  refine wpAny_execs_cons (asg (wpAny_BinOp (told2 hB C F H H.mx H.px H.my H.py (desc_room1 H.hp H.hr) fun a1 s₁ S₁ us n1 F M1 h1 hr1 => told2 hB C F (H.mono M1) H.mx (H.px.mono M1) H.mz (H.pz.mono M1) (desc_room1 H.hp H.hq) fun a2 s₂ S₂ vs n2 F M2 h2 hr2 => ?_)))
  refine addL F (F.has.get (M2 _ _ h1)) (F.has.get h2) (by rw [hr1.length, hr2.length]; omega) fun bl s₃ F => sto F fun s₄ F => ?_
  have F := F.freeze
  have M : ∀ a o, S a o → S₂.add bl (listOf (us ++ vs).toArray 0) a o := fun a o q => .inl (M2 _ _ (M1 _ _ q))
  have hbl : S₂.add bl (listOf (us ++ vs).toArray 0) bl (listOf (us ++ vs).toArray 0) := .inr ⟨rfl, rfl⟩
  have hrb : Rows (S₂.add bl (listOf (us ++ vs).toArray 0)) (us ++ vs) (find (.desc p r) ⟨[], .dict D cs⟩ ++ find (.desc p q) ⟨[], .dict D cs⟩) := (hr1.mono fun v x q => RowAt.mono q fun a o q => .inl (M2 _ _ q)).append (hr2.mono fun v x q => RowAt.mono q fun a o q => .inl q)
  generalize S₂.add bl (listOf (us ++ vs).toArray 0) = S₃ at F M hbl hrb
  have H1 := (H.mono M).set (u := Str.ofString "below") (v := .ref bl)
  have m2 : (fun t => if t = Str.ofString "below" then some (Value.ref bl) else m t) (Str.ofString "below") = some (.ref bl) := if_pos rfl
  generalize (fun t => if t = Str.ofString "below" then some (Value.ref bl) else m t) = m' at F H1 m2
  have hru : ok true (.desc p (.union r q)) = true ∧ room (.desc p (.union r q)) ≤ 44 ∧ cap (.desc p (.union r q)) ≤ 1000000 := by
    obtain ⟨o1, o2, o3⟩ := one_room H.hp
    have h4 := step_room H.hr
    have h5 := step_cap H.hr
    have h6 := step_room H.hq
    have h7 := step_cap H.hq
    refine ⟨?_, ?_, ?_⟩
    · show (ok true p && (ok false r && ok false q)) = true
      rw [o3, h4.2, h6.2]; rfl
    · show max (room p) (max (room r) (room q) + 3) + 12 ≤ 44
      omega
    · show cap p * (40 * (cap r + cap q)) ≤ 1000000
      exact Nat.le_trans (Nat.mul_le_mul o2 (Nat.mul_le_mul_left 40 (Nat.add_le_add h5.1 h7.1))) (by decide)
  have pm := law_union_right (p := p) (r := r) (q := q) (f := ⟨[], .dict D cs⟩)
  refine wpAny_execs_cons (wpAny_If (wpAny_isTrue_Compare1 (oftenE hB C F (find_ok hf0) (by omega) (toldE hB C F H1 (descE hB (C.le (by omega)) F (nm F H1.mx ⟨S₃, _, F, fun _ _ q => q, H1.px, unionE hB (C.le (by omega)) F (nm F H1.my ⟨S₃, _, F, fun _ _ q => q, H1.py, nm F H1.mz ⟨S₃, _, F, fun _ _ q => q, H1.pz, fun c s₅ S₄ F M4 pc =>
    ⟨S₄, _, F, M4, pc, fun c2 s₆ S₅ F M5 pc2 => ⟨S₅, _, F, M5, pc2, hru.1, hru.2.1, hru.2.2, fun l s₇ S₆ ws n3 F M6 hl hr3 => ⟨l, ws, n3, S₆, rfl, F, M6, hl, hr3, fun o1 s₈ S₇ out1 ys1 k1 F M7 ho1 a1 b1 c1 => ?_⟩⟩⟩⟩⟩)⟩))))))
  refine oftenE (fs := find (.desc p r) ⟨[], .dict D cs⟩ ++ find (.desc p q) ⟨[], .dict D cs⟩) hB C F (fun f hf => (List.mem_append.mp hf).elim (find_ok hf0 f) (find_ok hf0 f)) (by rw [List.length_append]; omega) (nm F m2 ⟨bl, us ++ vs, 0, S₇, rfl, F, fun _ _ q => q, M7 _ _ hbl, hrb.mono fun v x q => RowAt.mono q M7, fun o2 s₉ S₈ out2 ys2 k2 F M8 ho2 a2 b2 c2 => ?_⟩)
  refine often_ne C.cRoom (F.has.get (M8 _ _ ho1)) (F.has.get ho2) a1 a2 b1 b2 c1 c2 pm _ _ _ _ (wpAny_truthy_bool ?_)
  rw [if_neg (by decide)]
  exact wpAny_execs_nil (h m' S₈ s₉ F (H1.mono fun a o q => M8 _ _ (M7 _ _ q)))
theorem law_last (hB : Hp w B) (C : Cx A (L :: fr) 50) (F : Fx B T s₀ fr [] L m S [] s) (H : Held w S m D x y z cs p r q)
    (h : ∀ m' S' s', Fx B T s₀ fr [] L m' S' [] s' → Q (.ret (.bool true)) s') :
    wpAny (model pw w) A (execs ((defBody (topAt 31)).drop 18) (lenv L fa cd)) Q E s := by
  have l1 := one_find H.hp H.hr (f := ⟨[], .dict D cs⟩) H.fit
  have l2 := one_find (.inl H.hq) H.hr (f := ⟨[], .dict D cs⟩) H.fit
  have hz := desc_room1 (p := q) (.inl H.hq) H.hr
  refine wpAny_execs_cons (asg (wpAny_BinOp (told2 hB C F H H.mx H.px H.my H.py (desc_room1 H.hp H.hr) fun a1 s₁ S₁ us n1 F M1 h1 hr1 => told2 hB C F (H.mono M1) H.mz (H.pz.mono M1) H.my (H.py.mono M1) hz fun a2 s₂ S₂ vs n2 F M2 h2 hr2 => ?_)))
  refine addL F (F.has.get (M2 _ _ h1)) (F.has.get h2) (by rw [hr1.length, hr2.length]; omega) fun bl s₃ F => sto F fun s₄ F => ?_
  have F := F.freeze
  have M : ∀ a o, S a o → S₂.add bl (listOf (us ++ vs).toArray 0) a o := fun a o q => .inl (M2 _ _ (M1 _ _ q))
  have hbl : S₂.add bl (listOf (us ++ vs).toArray 0) bl (listOf (us ++ vs).toArray 0) := .inr ⟨rfl, rfl⟩
  have hrb : Rows (S₂.add bl (listOf (us ++ vs).toArray 0)) (us ++ vs) (find (.desc (.union p q) r) ⟨[], .dict D cs⟩) := by
    rw [law_union_left]
    exact (hr1.mono fun v x q => RowAt.mono q fun a o q => .inl (M2 _ _ q)).append (hr2.mono fun v x q => RowAt.mono q fun a o q => .inl q)
  generalize S₂.add bl (listOf (us ++ vs).toArray 0) = S₃ at F M hbl hrb
  have H1 := (H.mono M).set (u := Str.ofString "below") (v := .ref bl)
  have m2 : (fun t => if t = Str.ofString "below" then some (Value.ref bl) else m t) (Str.ofString "below") = some (.ref bl) := if_pos rfl
  generalize (fun t => if t = Str.ofString "below" then some (Value.ref bl) else m t) = m' at F H1 m2
  have hru : ok true (.desc (.union p q) r) = true ∧ room (.desc (.union p q) r) ≤ 44 ∧ cap (.desc (.union p q) r) ≤ 1000000 := by
    obtain ⟨o1, o2, o3⟩ := one_room H.hp
    obtain ⟨o4, o5, o6⟩ := one_room (.inl H.hq)
    have h5 := step_cap H.hq
    refine desc_room ?_ ?_ ?_ H.hr
    · show max (room p) (room q) + 3 ≤ 20; omega
    · show cap p + cap q ≤ 20; omega
    · show (ok true p && ok true q) = true; rw [o3, o6]; rfl
  refine wpAny_execs_cons (wpAny_Return_some (wpAny_Compare1 (toldE hB C F H1 (descE hB (C.le (by omega)) F (unionE hB (C.le (by omega)) F (nm F H1.mx ⟨S₃, _, F, fun _ _ q => q, H1.px, nm F H1.mz ⟨S₃, _, F, fun _ _ q => q, H1.pz, fun c s₅ S₄ F M4 pc =>
    ⟨S₄, _, F, M4, pc, nm F H1.my ⟨S₄, _, F, fun _ _ q => q, H1.py.mono M4, fun c2 s₆ S₅ F M5 pc2 => ⟨S₅, _, F, M5, pc2, hru.1, hru.2.1, hru.2.2, fun l s₇ S₆ ws n3 F M6 hl hr3 => nm F m2 ?_⟩⟩⟩⟩⟩))))))
  exact eq_rows F.has (by have := C.units; omega) (F.has.get hl) (F.has.get (M6 _ _ hbl)) hr3 (hrb.mono fun v x q => RowAt.mono q M6) _ _ _ _ (h m' S₆ s₇ F)
end
end DescLaw
end
section
open PySem PySem.W PyProof.Rows PySem.Calls
set_option Elab.async false
set_option maxRecDepth 100000
namespace DescLaw
/-- the fragment, and the table of Descendants.find's generator expressions -/
def K2 (P : Params) : Frag := (nat_lit 448, { cls := .none, dict := none, data := .fields [].toArray, slots := [].toArray }) :: K P
def as2 : List Addr := 448 :: as
theorem as2_ok (P : Params) : as2 = (K2 P).map (·.1) := by kernel_rfl
theorem k2_k {P : Params} {h : Heap} (x : (K2 P).In h) : (K P).In h := fun a o e => by
  refine x a o ?_
  show List.lookup a ((448, _) :: K P) = some o
  rw [List.lookup_cons]
  split
  · rename_i q
    rw [beq_iff_eq] at q
    subst q
    exact absurd e (by rw [show (K P).lookup 448 = none by kernel_rfl]; simp)
  · exact e
theorem k2_tab {P : Params} {h : Heap} (x : (K2 P).In h) : h.get? 448 = some { cls := .none, dict := none, data := .fields [].toArray, slots := [].toArray } := x _ _ (by kernel_rfl)
end DescLaw
end
section
open PySem PySem.W PyProof.Rows PySem.Calls
set_option Elab.async false
set_option maxRecDepth 100000
namespace DescLaw
/-! the law's own body, whole; and from the top -/
theorem law_walk {w : World} {A : Around} {E : Value → Shared → Prop} {B : Heap} {fr : List Addr} {s₀ s : Shared} {L fa : Addr} {cd : Value} {m : Str → Option Value} {T S : Sto} {Q : Flow → Shared → Prop} {l : Addr} {vs : List Value} {ns : List Int} (hB : Hp w B) (C : Cx A (L :: fr) 50) (F : Fx B T s₀ fr [] L m S [] s)
    (hm : m (Str.ofString "script") = some (.ref l)) (hl : s.heap.IsList l vs.toArray) (hi : IntsAre vs ns) (hz : vs.length ≤ 1000)
    (h : ∀ m' S' s', Fx B T s₀ fr [] L m' S' [] s' → Q (.ret (.bool true)) s') : wpAny (model pw w) A (execs (defBody (topAt 31)) (lenv L fa cd)) Q E s :=
  law_start hB C F hm hl hi hz fun _ _ _ _ _ _ _ _ _ _ _ F H => law_loop hB C F H fun _ _ _ _ _ _ _ F H m1 hdl hr m2 hv => law_first hB C F H m1 hdl hr m2 hv fun _ _ F M => law_every hB C F (H.mono M) fun _ _ _ _ _ _ F H m0 hel ha => law_second hB C F H m0 hel ha fun _ _ _ F H => law_third hB C F H fun _ _ _ F H => law_last hB C F H h
theorem hide_ns {h : Heap} {a : Addr} {m : Str → Option Value} (x : h.Ns a m) (q : a ≠ tabP) : (h.hide tabP).Ns a m :=
  let ⟨o, es, ep, e, r⟩ := x; ⟨o, es, ep, (Heap.hide_ne h q).trans e, r⟩
theorem ints_len {vs : List Value} {ns : List Int} (h : IntsAre vs ns) : vs.length = ns.length := by
  induction h with
  | nil => rfl
  | cons _ _ _ ih => simp [ih]
theorem law_top {w : World} {E : Value → Shared → Prop} {Q : Flow → Shared → Prop} {s₁ : Shared} {h₁ : Heap} {fa l : Addr} {cd : Value} {m mg mb : Str → Option Value} {vs : List Value} {ns : List Int} {tk : Nat} (KX : (K2 w.params).In s₁.heap) (hg : s₁.heap.Ns mainGlobals mg) (hb : s₁.heap.Ns builtinsNs mb) (hbi : ∀ x : Str, x ≠ "__name__" → mb x = bootBuiltins x)
    (hnl : s₁.heap.NoLimit) (hnd : ∃ mc, s₁.heap.Ns cStatics mc ∧ mc "sys.int_max_str_digits" = none) (hgn : s₁.gens = #[]) (hL : s₁.heap.IsList l vs.toArray) (hI : IntsAre vs ns) (hn : ns.length ≤ 63) (F : Fr s₁.heap s₁.heap.objs.size h₁ m) (hm : m (Str.ofString "script") = some (.ref l))
    (h : ∀ s', OldK s₁.heap s'.heap → s'.os = s₁.os → AllBare s'.gens → Q (.ret (.bool true)) s') :
    wpAny (model pw w) (callerA.deeper (lenv s₁.heap.objs.size fa cd)) (execs (defBody (topAt 31)) (lenv s₁.heap.objs.size fa cd)) Q E { s₁ with heap := h₁, toks := tk } := by
  have ht := k2_tab KX
  have hK := k2_k KX
  have hlt : tabP < s₁.heap.objs.size := Heap.lt_size ht
  have hsz := Heap.hide_size s₁.heap tabP
  have nL : s₁.heap.get? s₁.heap.objs.size = none := Heap.get?_none_of_le (Nat.le_refl _)
  have hB : Hp w (s₁.heap.hide tabP) := by
    refine ⟨fun a o e => ?_, ⟨mg, hide_ns hg (by decide)⟩, ⟨mb, hide_ns hb (by decide), hbi⟩, ?_, ?_⟩
    · rw [Heap.hide_ne _ (fun q => by subst q; rw [show (K w.params).lookup tabP = none by kernel_rfl] at e; cases e)]
      exact hK a o e
    · obtain ⟨mc, x, y⟩ := hnl; exact ⟨mc, hide_ns x (by decide), y⟩
    · obtain ⟨mc, x, y⟩ := hnd; exact ⟨mc, hide_ns x (by decide), y⟩
  have C0 : Cx callerA [tabP] 51 := ⟨rfl, rfl, ⟨[], rfl, rfl, fun e he => by cases he⟩, by decide, by decide⟩
  have C : Cx (callerA.deeper (lenv s₁.heap.objs.size fa cd)) (s₁.heap.objs.size :: [tabP]) 50 := C0.deeper rfl rfl fun q => by rw [q] at hlt; exact Nat.lt_irrefl _ hlt
  have Fx0 : Fx (s₁.heap.hide tabP) (fun _ _ => False) s₁ [tabP] [] s₁.heap.objs.size m (fun _ _ => False) [] { s₁ with heap := h₁, toks := tk } :=
    { ns := F.ns
      newL := nL
      grow := Grow.of_keeps _ _ F.keep
      has := fun _ _ q => q.elim
      mine := fun _ q => nomatch q
      apart := .nil
      st := ⟨fun b o e => F.keep b o (Heap.of_hide e), fun b q => by
        rcases List.mem_cons.mp q with rfl | q
        · obtain ⟨o, es, ep, e, d, _⟩ := F.ns
          exact ⟨Heap.get?_none_of_le (by rw [hsz]; exact Nat.le_refl _), o, e, .dict (fun q => by rw [q] at hlt; exact Nat.lt_irrefl _ hlt) d⟩
        · obtain rfl := List.mem_singleton.mp q
          exact ⟨Heap.hide_self _ _, _, F.keep _ _ ht, .table rfl ⟨#[], rfl, trivial⟩⟩, .of_eq hgn, ⟨_, .head _, by rw [hsz]; exact Nat.le_refl _⟩, .tail _ (.head _), by rw [hsz]; exact hlt⟩
      old := fun b o e => Heap.of_hide e
      above := by rw [hsz]; exact Nat.le_refl _
      sub := fun _ _ q => q
      nw := fun _ _ q => q.elim }
  have hL' : h₁.IsList l vs.toArray := by
    obtain ⟨o, e, r⟩ := hL
    exact ⟨o, F.keep _ _ e, r⟩
  refine law_walk hB C Fx0 hm hL' hI (by rw [ints_len hI]; omega) fun m' S' s' X => h s' ?_ X.grow.os (X.grow.gens.1 (.of_eq hgn))
  refine ⟨fun b o e => ?_, fun b o e => ?_⟩
  · by_cases q : b = tabP
    · subst q
      obtain ⟨o', e', k⟩ := X.grow.frm _ (.head _) _ e
      rw [ht] at e
      cases e
      unfold Slot at k
      rw [if_pos rfl] at k
      obtain ⟨ps, rfl, _⟩ := k ⟨#[], rfl, trivial⟩
      obtain ⟨oc, vc, _, _, _, _, _, _, _, c1, c2, c3, c4, _⟩ := code450 w.params
      exact .inr (.inl ⟨⟨450, oc, vc, hK _ _ c1, c2, c4, c3⟩, rfl, #[], ps, rfl, by simpa using e'⟩)
    · exact .inl (X.grow.keep b o (by simpa using q) (by simp) e)
  · by_cases q : b = tabP
    · subst q
      obtain ⟨o', e', _⟩ := X.grow.frm _ (.head _) _ e
      exact ⟨o', e'⟩
    · exact ⟨o, X.grow.keep b o (by simpa using q) (by simp) e⟩
end DescLaw
namespace DescLaw
/-- the end that the statement asks -/
theorem law_good {r : RowW} {cl : Str → Option Addr} {mean : ExcName → Option Value} {args : List WData} {s₁ s' : Shared} (hr : r.raises = []) (hp : r.claim.post args (.bool true) args = true) (hK : OldK s₁.heap s'.heap) (ho : s'.os = s₁.os) (hg : AllBare s'.gens) :
    GoodWG r.claim cl mean args s₁ (.ok (.ret (.bool true))) s' :=
  ⟨.inl ⟨.bool true, .bool true, [], rfl, fun c => by show r.raises.any _ = false; rw [hr]; rfl, .bool true, hp, fun _ => ⟨.nil, fun a ha => nomatch ha⟩⟩, hK, ho, hg⟩
theorem law_top' {w : World} {prog : Program} {E : Value → Shared → Prop} {Q : Flow → Shared → Prop} {s₁ : Shared} {h₁ : Heap} {fa l : Addr} {cd : Value} {m mg mb : Str → Option Value} {vs : List Value} {ns : List Int} {tk : Nat} {name : Str} {scope : Scope} {body : List Stmt} (KX : (K2 w.params).In s₁.heap) (hprog : prog = pw) (hname : name = Str.ofString "law") (hscope : scope = defScope (topAt 31)) (hbody : body = defBody (topAt 31))
    (hg : s₁.heap.Ns mainGlobals mg) (hb : s₁.heap.Ns builtinsNs mb) (hbi : ∀ x : Str, x ≠ "__name__" → mb x = bootBuiltins x)
    (hnl : s₁.heap.NoLimit) (hnd : ∃ mc, s₁.heap.Ns cStatics mc ∧ mc "sys.int_max_str_digits" = none) (hgn : s₁.gens = #[]) (F : Fr s₁.heap s₁.heap.objs.size h₁ m) (hm : m (Str.ofString "script") = some (.ref l)) (hL : s₁.heap.IsList l vs.toArray) (hI : IntsAre vs ns) (hn : ns.length ≤ 63)
    (h : ∀ s', OldK s₁.heap s'.heap → s'.os = s₁.os → AllBare s'.gens → Q (.ret (.bool true)) s') :
    wpAny (model prog w) (callerA.deeper (envOf name scope s₁.heap.objs.size fa cd)) (execs body (envOf name scope s₁.heap.objs.size fa cd)) Q E { s₁ with heap := h₁, toks := tk } := by
  subst hprog hname hscope hbody
  exact law_top KX hg hb hbi hnl hnd hgn hL hI hn F hm h
end DescLaw
end
section
open PySem PySem.W PyProof.Rows PySem.Calls
set_option Elab.async true
set_option maxRecDepth 100000
theorem DescLaw.top.tw12520691552405418743 : True := trivial
theorem DescLaw.top.tw1179666519153228989 : True := trivial
theorem DescLaw.top.tw13312271678203721648 : True := trivial
theorem DescLaw.top.tw12795233438090489801 : True := trivial
theorem DescLaw.top.tw1378094944527539439 : True := trivial
theorem DescLaw.top.tw3243890273774036733 : True := trivial
theorem DescLaw.top.tw9449177668473351034 : True := trivial
theorem DescLaw.top.tw5240435376642504437 : True := trivial
theorem DescLaw.top.tw13613242829035280110 : True := trivial
theorem DescLaw.top.tw16836000392788975745 : True := trivial
theorem DescLaw.top.tw8825721451430985060 : True := trivial
theorem DescLaw.top.tw18108971287557955131 : True := trivial
theorem DescLaw.top.tw6873335985257618815 : True := trivial
theorem DescLaw.top.tw11467131575769951916 : True := trivial
theorem DescLaw.top.tw12925697332778744092 : True := trivial
theorem DescLaw.top.tw13926046316627283123 : True := trivial
theorem DescLaw.top.tw13510267110324041853 : True := trivial
theorem DescLaw.top.tw3149241947976178296 : True := trivial
theorem DescLaw.top.tw15374366981201643201 : True := trivial
theorem DescLaw.top.tw5064578744276150759 : True := trivial
theorem DescLaw.top.tw14062066331226094650 : True := trivial
theorem DescLaw.top.tw3434372115732188400 : True := trivial
theorem DescLaw.top.tw12424777985500850636 : True := trivial
theorem DescLaw.top.tw8927341311262123529 : True := trivial
theorem DescLaw.top.tw4059434581211480681 : True := trivial
theorem DescLaw.top.tw4112682688667232991 : True := trivial
theorem DescLaw.top.tw16716644352931935036 : True := trivial
theorem DescLaw.top.tw6693212571315568889 : True := trivial
theorem DescLaw.top.tw14565322293233130332 : True := trivial
theorem DescLaw.top.tw12955597358664046508 : True := trivial
theorem DescLaw.top.tw13562665254167100816 : True := trivial
theorem DescLaw.top.tw5398675811821822154 : True := trivial
theorem DescLaw.top.tw15800162128827887076 : True := trivial
theorem DescLaw.top.tw14516711167068368116 : True := trivial
theorem DescLaw.top.tw12944923733213085024 : True := trivial
theorem DescLaw.top.tw10815356812428689402 : True := trivial
theorem DescLaw.top.tw17690094127059899021 : True := trivial
theorem DescLaw.top.tw7914135090314077837 : True := trivial
theorem DescLaw.top.tw14505595848484002281 : True := trivial
theorem DescLaw.top.tw3027928311835952794 : True := trivial
theorem DescLaw.top.tw10704735819934787522 : True := trivial
theorem DescLaw.top.tw3806192262871576410 : True := trivial
theorem DescLaw.top.tw8887747242161769625 : True := trivial
theorem DescLaw.top.tw10955713992035268611 : True := trivial
theorem DescLaw.top.tw10469753376746424620 : True := trivial
theorem DescLaw.top.tw18167337626807970625 : True := trivial
theorem DescLaw.top.tw2227064124397618169 : True := trivial
theorem DescLaw.top.tw11898113394547410519 : True := trivial
theorem DescLaw.top.tw8519333344911401685 : True := trivial
theorem DescLaw.top.tw1672602768358397899 : True := trivial
theorem DescLaw.top.tw4310003923585388296 : True := trivial
theorem DescLaw.top.tw7391717738727885863 : True := trivial
theorem DescLaw.top.tw14621710187488506273 : True := trivial
theorem DescLaw.top.tw17794987952024519881 : True := trivial
theorem DescLaw.top.tw8299275637462110957 : True := trivial
theorem DescLaw.top.tw6440423394963692752 : True := trivial
theorem DescLaw.top.tw15168834058862702506 : True := trivial
theorem DescLaw.top.tw12885481499235191599 : True := trivial
theorem DescLaw.top.tw8752474812755732897 : True := trivial
theorem DescLaw.top.tw17140325337968919659 : True := trivial
theorem DescLaw.top.tw11296999110202112147 : True := trivial
theorem DescLaw.top.tw422777299173186152 : True := trivial
theorem DescLaw.top.tw11746778415162103537 : True := trivial
theorem DescLaw.top.tw15644855621159730137 : True := trivial
theorem DescLaw.top.tw269394297554839528 : True := trivial
theorem DescLaw.top.tw6879452473942461129 : True := trivial
theorem DescLaw.top.tw9102578193924958503 : True := trivial
theorem DescLaw.top.tw1744553491209634700 : True := trivial
theorem DescLaw.top.tw10639246848271750391 : True := trivial
theorem DescLaw.top.tw10475052640516542230 : True := trivial
theorem DescLaw.top.tw4105332450821346839 : True := trivial
theorem DescLaw.top.tw15851689201289200759 : True := trivial
theorem DescLaw.top.tw5499273038706754180 : True := trivial
theorem DescLaw.top.tw10567884568384335136 : True := trivial
theorem DescLaw.top.tw15598607820525727097 : True := trivial
theorem DescLaw.top.tw9754988683833912194 : True := trivial
theorem DescLaw.top.tw14019684612688960356 : True := trivial
theorem DescLaw.top.tw8510593012068721225 : True := trivial
theorem DescLaw.top.tw7764479157311316399 : True := trivial
theorem DescLaw.top.tw11955642693600465240 : True := trivial
theorem DescLaw.top.tw5608356767937882501 : True := trivial
theorem DescLaw.top.tw2336606575798114248 : True := trivial
theorem DescLaw.top.tw10487266952286379978 : True := trivial
theorem DescLaw.top.tw4061769458316174080 : True := trivial
theorem DescLaw.top.tw540717676909337611 : True := trivial
theorem DescLaw.top.tw17895138849055396490 : True := trivial
theorem DescLaw.top.tw10572898429428024935 : True := trivial
theorem DescLaw.top.tw12422441991026137213 : True := trivial
theorem DescLaw.top.tw18287281957224403081 : True := trivial
theorem DescLaw.top.tw12723822910875506001 : True := trivial
theorem DescLaw.top.tw17276798654331089584 : True := trivial
theorem DescLaw.top.tw2661370486328908062 : True := trivial
theorem DescLaw.top.tw12578309229596556371 : True := trivial
theorem DescLaw.top.tw10020482905556430932 : True := trivial
theorem DescLaw.top.tw6134277452175745117 : True := trivial
theorem DescLaw.top.tw10660597303708226211 : True := trivial
theorem DescLaw.top.tw5553758597105073633 : True := trivial
theorem DescLaw.top.tw5258918476653764334 : True := trivial
theorem DescLaw.top.tw1260304474073108681 : True := trivial
theorem DescLaw.top.tw13329536218288465268 : True := trivial
theorem DescLaw.top.tw8121908175464424790 : True := trivial
theorem DescLaw.top.tw12866359089831640966 : True := trivial
theorem DescLaw.top.tw3081969202554298734 : True := trivial
theorem DescLaw.top.tw17561705508509005227 : True := trivial
theorem DescLaw.top.tw17292040429550261239 : True := trivial
theorem DescLaw.top.tw8869828164305459509 : True := trivial
theorem DescLaw.top.tw1011124852151101356 : True := trivial
theorem DescLaw.top.tw12848674319777865961 : True := trivial
theorem DescLaw.top.tw6744530077900652936 : True := trivial
theorem DescLaw.top.tw8379390197104397573 : True := trivial
theorem DescLaw.top.tw17800785013782933681 : True := trivial
theorem DescLaw.top.tw12854053600338804861 : True := trivial
theorem DescLaw.top.tw3969149479331950776 : True := trivial
theorem DescLaw.top.tw17888658835038357095 : True := trivial
theorem DescLaw.top.tw13930311044166694512 : True := trivial
theorem DescLaw.top.tw11674891505881358182 : True := trivial
theorem DescLaw.top.tw14858634884606536820 : True := trivial
theorem DescLaw.top.tw12119305661502277911 : True := trivial
theorem DescLaw.top.tw14707403106297794019 : True := trivial
theorem DescLaw.top.tw5643303112144655810 : True := trivial
theorem DescLaw.top.tw164616895149597738 : True := trivial
theorem DescLaw.top.tw8734830735398205950 : True := trivial
theorem DescLaw.top.tw1435946518415097858 : True := trivial
theorem DescLaw.top.tw1149985435848429855 : True := trivial
theorem DescLaw.top.tw7938851172723141388 : True := trivial
theorem DescLaw.top.tw14892118209225869062 : True := trivial
theorem DescLaw.top.tw16822014597220138146 : True := trivial
theorem DescLaw.top.tw529899757572853999 : True := trivial
theorem DescLaw.top.tw15998444045324429483 : True := trivial
theorem DescLaw.top.tw8372690878331717744 : True := trivial
theorem DescLaw.top.tw6209028598811805584 : True := trivial
theorem DescLaw.top.tw6696990509914899007 : True := trivial
theorem DescLaw.top.tw7516493769334759534 : True := trivial
theorem DescLaw.top.tw7206998722088011201 : True := trivial
theorem DescLaw.top.tw15233479983329841938 : True := trivial
theorem DescLaw.top.tw5165858827731661189 : True := trivial
theorem DescLaw.top.tw16874660739359805542 : True := trivial
theorem DescLaw.top.tw9255573891255854176 : True := trivial
theorem DescLaw.top.tw16672028588670847860 : True := trivial
theorem DescLaw.top.tw15136197643223300097 : True := trivial
theorem DescLaw.top.tw7973074143324762917 : True := trivial
theorem DescLaw.top.tw2905616500444778798 : True := trivial
theorem DescLaw.top.tw4630509407943198607 : True := trivial
theorem DescLaw.top.tw14839153565149879750 : True := trivial
theorem DescLaw.top.tw4130771957950386248 : True := trivial
theorem DescLaw.top.tw8564068688130761467 : True := trivial
theorem DescLaw.top.tw13083894842000382424 : True := trivial
theorem DescLaw.top.tw16633259524734721669 : True := trivial
theorem DescLaw.top.tw12902056645110761030 : True := trivial
theorem DescLaw.top.tw6335175732693784212 : True := trivial
theorem DescLaw.top.tw3877300898350642690 : True := trivial
theorem DescLaw.top.tw16338033247293356394 : True := trivial
theorem DescLaw.top.tw4028537475811180585 : True := trivial
theorem DescLaw.top.tw6525768766573037491 : True := trivial
theorem DescLaw.top.tw11508366347171567598 : True := trivial
theorem DescLaw.top.tw12262513615010777133 : True := trivial
theorem DescLaw.top.tw7255711957763284985 : True := trivial
theorem DescLaw.top.tw2039199163594533191 : True := trivial
theorem DescLaw.top.tw11292755916952018329 : True := trivial
theorem DescLaw.top.tw18414247136267639415 : True := trivial
theorem DescLaw.top.tw13498491535855261329 : True := trivial
theorem DescLaw.top.tw6082593358079762559 : True := trivial
theorem DescLaw.top.tw6263141004284802568 : True := trivial
theorem DescLaw.top.tw1591222051479373185 : True := trivial
theorem DescLaw.top.tw9183227097866055683 : True := trivial
theorem DescLaw.top.tw17624847932355142540 : True := trivial
theorem DescLaw.top.tw9961843682025162066 : True := trivial
theorem DescLaw.top.tw11515177114834800992 : True := trivial
theorem DescLaw.top.tw14704719472721376928 : True := trivial
theorem DescLaw.top.tw11528272703818989050 : True := trivial
theorem DescLaw.top.tw4847584190585164335 : True := trivial
theorem DescLaw.top.tw13894433073892750963 : True := trivial
theorem DescLaw.top.tw3820566709080614786 : True := trivial
theorem DescLaw.top.tw6633835737617723995 : True := trivial
theorem DescLaw.top.tw14123557848800616550 : True := trivial
theorem DescLaw.top.tw2296533667076939213 : True := trivial
theorem DescLaw.top.tw923419912986801381 : True := trivial
theorem DescLaw.top.tw3783871021737786671 : True := trivial
theorem DescLaw.top.tw14796828919913672419 : True := trivial
theorem DescLaw.top.tw13893736219173195046 : True := trivial
theorem DescLaw.top.tw5318266416066838476 : True := trivial
theorem DescLaw.top.tw17491768631322955358 : True := trivial
theorem DescLaw.top.tw13645724186170934550 : True := trivial
theorem DescLaw.top.tw11920084889011357433 : True := trivial
theorem DescLaw.top.tw15508131978721011748 : True := trivial
theorem DescLaw.top.tw5190909177521738361 : True := trivial
theorem DescLaw.top.tw10591702013361062814 : True := trivial
theorem DescLaw.top.tw17676735827509034371 : True := trivial
theorem DescLaw.top.tw1966631124997204720 : True := trivial
theorem DescLaw.top.tw1274645009475212701 : True := trivial
theorem DescLaw.top.tw9160494867313450742 : True := trivial
theorem DescLaw.top.tw14011939763008164578 : True := trivial
theorem DescLaw.top.tw13797375743594573515 : True := trivial
theorem DescLaw.top.tw16596247225590418660 : True := trivial
theorem DescLaw.top.tw9434889783955542849 : True := trivial
theorem DescLaw.top.tw5476215523182405418 : True := trivial
theorem DescLaw.top.tw3201587077757722831 : True := trivial
theorem DescLaw.top.tw4065996263718781336 : True := trivial
theorem DescLaw.top.tw17457882212573823489 : True := trivial
theorem DescLaw.top.tw4948801778092545502 : True := trivial
theorem DescLaw.top.tw6165219507570033794 : True := trivial
theorem DescLaw.top.tw11450138995988401480 : True := trivial
theorem DescLaw.top.tw17467404687947571962 : True := trivial
theorem DescLaw.top.tw10334605908033253730 : True := trivial
theorem DescLaw.top.tw2873363198005371472 : True := trivial
theorem DescLaw.top.tw3717653286750882210 : True := trivial
theorem DescLaw.top.tw15252990372477334347 : True := trivial
theorem DescLaw.top.tw2065962334792356424 : True := trivial
theorem DescLaw.top.tw17005296412446315417 : True := trivial
theorem DescLaw.top.tw14166620186598981349 : True := trivial
theorem DescLaw.top.tw12136424118774017134 : True := trivial
theorem DescLaw.top.tw4908705136398412164 : True := trivial
theorem DescLaw.top.tw5739818074149193441 : True := trivial
theorem DescLaw.top.tw8968091934772635193 : True := trivial
theorem DescLaw.top.tw12905034282556895123 : True := trivial
theorem DescLaw.top.tw19744872554827419 : True := trivial
theorem DescLaw.top.tw573409465022271236 : True := trivial
theorem DescLaw.top.tw10406155693426605784 : True := trivial
theorem DescLaw.top.tw17337229291200272742 : True := trivial
theorem DescLaw.top.tw13496466447425699333 : True := trivial
theorem DescLaw.top.tw6551386610234954482 : True := trivial
theorem DescLaw.top.tw9176270186330651473 : True := trivial
theorem DescLaw.top.tw9606523272155643379 : True := trivial
theorem DescLaw.top.tw8062548756651435901 : True := trivial
theorem DescLaw.top.tw8441079872230617781 : True := trivial
theorem DescLaw.top.tw11481656766600716901 : True := trivial
theorem DescLaw.top.tw16155584791902618111 : True := trivial
theorem DescLaw.top.tw12189674113970262208 : True := trivial
theorem DescLaw.top.tw14487653136253660056 : True := trivial
theorem DescLaw.top.tw3713921474555615569 : True := trivial
theorem DescLaw.top.tw12497081707171444865 : True := trivial
theorem DescLaw.top.tw3086853597768625239 : True := trivial
theorem DescLaw.top.tw18166864741869000347 : True := trivial
theorem DescLaw.top.tw9806629298462932908 : True := trivial
theorem DescLaw.top.tw3589062316284573536 : True := trivial
theorem DescLaw.top.tw1043463736258754806 : True := trivial
theorem DescLaw.top.tw9380907365104435190 : True := trivial
theorem DescLaw.top.tw13695723615570036644 : True := trivial
theorem DescLaw.top.tw2477505542266945443 : True := trivial
theorem DescLaw.top.tw11659300128990972559 : True := trivial
theorem DescLaw.top.tw41102191892046747 : True := trivial
theorem DescLaw.top.tw17603541939453364891 : True := trivial
theorem DescLaw.top.tw8005941838277904407 : True := trivial
theorem DescLaw.top.tw4440321208267701558 : True := trivial
theorem DescLaw.top.tw9394674270428641152 : True := trivial
theorem DescLaw.top.tw5478205427243432543 : True := trivial
theorem DescLaw.top.tw1791934575069243247 : True := trivial
theorem DescLaw.top.tw11318701315751469014 : True := trivial
theorem DescLaw.top.tw4461140667801290613 : True := trivial
theorem DescLaw.top.tw14020113202216924614 : True := trivial
theorem DescLaw.top.tw17452504657947575858 : True := trivial
theorem DescLaw.top.tw8841700989468788016 : True := trivial
theorem DescLaw.top.tw7937360941623873137 : True := trivial
theorem DescLaw.top.tw17661691625594492555 : True := trivial
theorem DescLaw.top.tw457310672539874558 : True := trivial
theorem DescLaw.top.tw7203487001018533342 : True := trivial
theorem DescLaw.top.tw8384377424278343643 : True := trivial
theorem DescLaw.top.tw12448869410787698722 : True := trivial
theorem DescLaw.top.tw3130866117790476131 : True := trivial
theorem DescLaw.top.tw291904382872710179 : True := trivial
theorem DescLaw.top.tw2512286739367229078 : True := trivial
theorem DescLaw.top.tw3933809350820544541 : True := trivial
theorem DescLaw.top.tw1026077883009276112 : True := trivial
theorem DescLaw.top.tw11564976801761359482 : True := trivial
theorem DescLaw.top.tw12960576823080474296 : True := trivial
theorem DescLaw.top.tw126955893492150028 : True := trivial
theorem DescLaw.top.tw13055424770238516426 : True := trivial
theorem DescLaw.top.tw12265555788509468121 : True := trivial
theorem DescLaw.top.tw6425353327164178185 : True := trivial
theorem DescLaw.top.tw15911552235140262050 : True := trivial
theorem DescLaw.top.tw6640714683750856445 : True := trivial
theorem DescLaw.top.tw15426351067627175868 : True := trivial
theorem DescLaw.top.tw3742921121168401305 : True := trivial
theorem DescLaw.top.tw8327417011831683472 : True := trivial
theorem DescLaw.top.tw6635322805716619026 : True := trivial
theorem DescLaw.top.tw14606609922312131987 : True := trivial
theorem DescLaw.top.tw2796293159246472630 : True := trivial
theorem DescLaw.top.tw7466187764853516177 : True := trivial
theorem DescLaw.top.tw9687988683625954953 : True := trivial
theorem DescLaw.top.tw3702368750972840813 : True := trivial
theorem DescLaw.top.tw5171768827459857364 : True := trivial
theorem DescLaw.top.tw14470940730788966371 : True := trivial
theorem DescLaw.top.tw4196329543695394596 : True := trivial
theorem DescLaw.top.tw16194609417419787800 : True := trivial
theorem DescLaw.top.tw16283710829910731421 : True := trivial
theorem DescLaw.top.tw16660686073245563184 : True := trivial
theorem DescLaw.top.tw2831005325756853233 : True := trivial
theorem DescLaw.top.tw3090955629985029827 : True := trivial
theorem DescLaw.top.tw13655501337686123038 : True := trivial
theorem DescLaw.top.tw3047804995283080700 : True := trivial
theorem DescLaw.top.tw4210046874350772970 : True := trivial
theorem DescLaw.top.tw11389236365460884218 : True := trivial
theorem DescLaw.top.tw7421647065116250976 : True := trivial
theorem DescLaw.top.tw12387121527551633673 : True := trivial
theorem DescLaw.top.tw3851949482364324352 : True := trivial
theorem DescLaw.top.tw5750606502023063239 : True := trivial
theorem DescLaw.top.tw17256161818704694808 : True := trivial
theorem DescLaw.top.tw16909660020623263797 : True := trivial
theorem DescLaw.top.tw9684972558853899514 : True := trivial
theorem DescLaw.top.tw17955209239236286912 : True := trivial
theorem DescLaw.top.tw14222736252958143132 : True := trivial
theorem DescLaw.top.tw15851689585991674239 : True := trivial
theorem DescLaw.top.tw9625242416558198267 : True := trivial
theorem DescLaw.top.tw13060454875502811165 : True := trivial
theorem DescLaw.top.tw13854064686251701780 : True := trivial
theorem DescLaw.top.tw8016342138699160856 : True := trivial
theorem DescLaw.top.tw18047879360862199145 : True := trivial
theorem DescLaw.top.tw9958078141004853534 : True := trivial
theorem DescLaw.top.tw13474857968927280149 : True := trivial
theorem DescLaw.top.tw13308017574695121410 : True := trivial
theorem DescLaw.top.tw8688728619313200445 : True := trivial
theorem DescLaw.top.tw1784246861816055596 : True := trivial
theorem DescLaw.top.tw7090199973060505598 : True := trivial
theorem DescLaw.top.tw8551475804862497247 : True := trivial
theorem DescLaw.top.tw2683743336414592326 : True := trivial
theorem DescLaw.top.tw11939470992171892780 : True := trivial
theorem DescLaw.top.tw15380073076341653553 : True := trivial
theorem DescLaw.top.tw11313900487812022421 : True := trivial
theorem DescLaw.top.tw5166697809273364805 : True := trivial
theorem DescLaw.top.tw17575345308077381297 : True := trivial
theorem DescLaw.top.tw11841464612295665393 : True := trivial
theorem DescLaw.top.tw1375971917984892824 : True := trivial
theorem DescLaw.top.tw8041129360352818810 : True := trivial
theorem DescLaw.top.tw2622884787752838788 : True := trivial
theorem DescLaw.top.tw7251690145611754555 : True := trivial
theorem DescLaw.top.tw15855815255715922244 : True := trivial
theorem DescLaw.top.tw16694264136831782785 : True := trivial
theorem DescLaw.top.tw16269148880361136078 : True := trivial
theorem DescLaw.top.tw15492340414373187354 : True := trivial
theorem DescLaw.top.tw2957200727934455151 : True := trivial
theorem DescLaw.top.tw6882540814800452050 : True := trivial
theorem DescLaw.top.tw257263476553081559 : True := trivial
theorem DescLaw.top.tw11451108580795625207 : True := trivial
theorem DescLaw.top.tw4978230455462916263 : True := trivial
theorem DescLaw.top.tw2775185533251111440 : True := trivial
theorem DescLaw.top.tw3948701786026649882 : True := trivial
theorem DescLaw.top.tw15748010109100240126 : True := trivial
theorem DescLaw.top.tw2209368882167008656 : True := trivial
theorem DescLaw.top.tw16168801931776109452 : True := trivial
theorem DescLaw.top.tw12742786751048537610 : True := trivial
theorem DescLaw.top.tw8451874030500120516 : True := trivial
theorem DescLaw.top.tw17110771546389633231 : True := trivial
theorem DescLaw.top.tw14365155524135295745 : True := trivial
theorem DescLaw.top.tw8272118800524327801 : True := trivial
theorem DescLaw.top.tw3843940752993721689 : True := trivial
theorem DescLaw.top.tw15695481827577334491 : True := trivial
theorem DescLaw.top.tw3837335334117144933 : True := trivial
theorem DescLaw.top.tw13530034182186592169 : True := trivial
theorem DescLaw.top.tw2706638211926287394 : True := trivial
theorem DescLaw.top.tw5811795245261144932 : True := trivial
theorem DescLaw.top.tw2409156422372033194 : True := trivial
theorem DescLaw.top.tw6834900698932315093 : True := trivial
theorem DescLaw.top.tw7093583713743427595 : True := trivial
theorem DescLaw.top.tw14314824639090951317 : True := trivial
theorem DescLaw.top.tw10680361392467033836 : True := trivial
theorem DescLaw.top.tw7596661463410384894 : True := trivial
theorem DescLaw.top.tw7017900223209774929 : True := trivial
theorem DescLaw.top.tw14598252424909601090 : True := trivial
theorem DescLaw.top.tw2641479518420320496 : True := trivial
theorem DescLaw.top.tw6769550208325715108 : True := trivial
theorem DescLaw.top.tw10964711577814812133 : True := trivial
theorem DescLaw.top.tw16338033844944759896 : True := trivial
theorem DescLaw.top.tw13273990186131662656 : True := trivial
theorem DescLaw.top.tw11903212402413631637 : True := trivial
theorem DescLaw.top.tw10248746760968247972 : True := trivial
theorem DescLaw.top.tw10028958398181970150 : True := trivial
theorem DescLaw.top.tw14382985003820542182 : True := trivial
theorem DescLaw.top.tw16696982560989567246 : True := trivial
theorem DescLaw.top.tw12747099534492250197 : True := trivial
theorem DescLaw.top.tw16142363961727272800 : True := trivial
theorem DescLaw.top.tw16457533838013309691 : True := trivial
theorem DescLaw.top.tw5931032693208800346 : True := trivial
theorem DescLaw.top.tw16523122024370575703 : True := trivial
theorem DescLaw.top.tw8785493866689704387 : True := trivial
theorem DescLaw.top.tw12893415782489678617 : True := trivial
theorem DescLaw.top.tw965735069859303589 : True := trivial
theorem DescLaw.top.tw12850261347284873289 : True := trivial
theorem DescLaw.top.tw8787784220319305042 : True := trivial
theorem DescLaw.top.tw2302569803708763373 : True := trivial
theorem DescLaw.top.tw1087092876882485764 : True := trivial
theorem DescLaw.top.tw7158703761899240062 : True := trivial
theorem DescLaw.top.tw13991512255383079757 : True := trivial
theorem DescLaw.top.tw10963885326922662280 : True := trivial
theorem DescLaw.top.tw5840789118041668590 : True := trivial
theorem DescLaw.top.tw18372466659792209125 : True := trivial
theorem DescLaw.top.tw2558173873839195070 : True := trivial
theorem DescLaw.top.tw4404618045653412502 : True := trivial
theorem DescLaw.top.tw17706583750611539971 : True := trivial
theorem DescLaw.top.tw2777428916124735199 : True := trivial
theorem DescLaw.top.tw8254152095136924691 : True := trivial
theorem DescLaw.top.tw16814885271539388853 : True := trivial
theorem DescLaw.top.tw10397379957903531011 : True := trivial
theorem DescLaw.top.tw1483694360245191334 : True := trivial
theorem DescLaw.top.tw13247602975277753960 : True := trivial
theorem DescLaw.top.tw10361335020199218089 : True := trivial
theorem DescLaw.top.tw12532085412980372219 : True := trivial
theorem DescLaw.top.tw14643465924515790275 : True := trivial
theorem DescLaw.top.tw7761297462696822247 : True := trivial
theorem DescLaw.top.tw17991837912925038004 : True := trivial
theorem DescLaw.top.tw1305543329318297200 : True := trivial
theorem DescLaw.top.tw2229525136020203154 : True := trivial
theorem DescLaw.top.tw9264051295124801026 : True := trivial
theorem DescLaw.top.tw2821799769446118672 : True := trivial
theorem DescLaw.top.tw11852899467059244215 : True := trivial
theorem DescLaw.top.tw10412363862012806788 : True := trivial
theorem DescLaw.top.tw6620926554948799180 : True := trivial
theorem DescLaw.top.tw4988516250381749572 : True := trivial
theorem DescLaw.top.tw9781024970363901636 : True := trivial
theorem DescLaw.top.tw15331390579285708871 : True := trivial
theorem DescLaw.top.tw1726096564479334324 : True := trivial
theorem DescLaw.top.tw647994460634146274 : True := trivial
theorem DescLaw.top.tw507573750006100740 : True := trivial
theorem DescLaw.top.tw7678957554218726465 : True := trivial
theorem DescLaw.top.tw18361344138902095005 : True := trivial
theorem DescLaw.top.tw15422233841853859984 : True := trivial
theorem DescLaw.top.tw13322255978587036332 : True := trivial
theorem DescLaw.top.tw7175002346444076901 : True := trivial
theorem DescLaw.top.tw9334183532244291451 : True := trivial
theorem DescLaw.top.tw1557612071250248795 : True := trivial
theorem DescLaw.top.tw15531288996643977101 : True := trivial
theorem DescLaw.top.tw12200295396469048104 : True := trivial
theorem DescLaw.top.tw13694606396214268920 : True := trivial
theorem DescLaw.top.tw17422311565757897591 : True := trivial
theorem DescLaw.top.tw4881159895011746918 : True := trivial
theorem DescLaw.top.tw12052340496154480253 : True := trivial
theorem DescLaw.top.tw4805273233880617300 : True := trivial
theorem DescLaw.top.tw17731852474739076047 : True := trivial
theorem DescLaw.top.tw10572138940653848981 : True := trivial
theorem DescLaw.top.tw14884153256022026505 : True := trivial
theorem DescLaw.top.tw18036215136162935166 : True := trivial
theorem DescLaw.top.tw8663957046044601386 : True := trivial
theorem DescLaw.top.tw7981733224128162670 : True := trivial
theorem DescLaw.top.tw7953465231884750244 : True := trivial
theorem DescLaw.top.tw11304664086297880826 : True := trivial
theorem DescLaw.top.tw11614800028054295039 : True := trivial
theorem DescLaw.top.tw1750019647838664940 : True := trivial
theorem DescLaw.top.tw6291868303043520852 : True := trivial
theorem DescLaw.top.tw104113649145010599 : True := trivial
theorem DescLaw.top.tw8581260512106121036 : True := trivial
theorem DescLaw.top.tw17411902033088886936 : True := trivial
theorem DescLaw.top.tw542834954101804614 : True := trivial
theorem DescLaw.top.tw11021941779104859621 : True := trivial
theorem DescLaw.top.tw13139719202098382833 : True := trivial
theorem DescLaw.top.tw18182334483331369989 : True := trivial
theorem DescLaw.top.tw10029374873297575316 : True := trivial
theorem DescLaw.top.tw14414245418816686988 : True := trivial
theorem DescLaw.top.tw14372271782096205619 : True := trivial
theorem DescLaw.top.tw3517382720755333817 : True := trivial
theorem DescLaw.top.tw17223129058012756233 : True := trivial
theorem DescLaw.top.tw14722745067653355706 : True := trivial
theorem DescLaw.top.tw13378802886537140046 : True := trivial
theorem DescLaw.top.tw13436562544283543702 : True := trivial
theorem DescLaw.top.tw10673093799350128966 : True := trivial
theorem DescLaw.top.tw13990549046073101410 : True := trivial
theorem DescLaw.top.tw17428158186333043489 : True := trivial
theorem DescLaw.top.tw13866288986446605717 : True := trivial
theorem DescLaw.top.tw11650171225118756478 : True := trivial
theorem DescLaw.top.tw12030693819722522706 : True := trivial
theorem DescLaw.top.tw15659946443973541609 : True := trivial
theorem DescLaw.top.tw12710991600592589564 : True := trivial
theorem DescLaw.top.tw1290915100638134083 : True := trivial
theorem DescLaw.top.tw6996736413324760705 : True := trivial
theorem DescLaw.top.tw17094948381201246408 : True := trivial
theorem DescLaw.top.tw14691710007954801774 : True := trivial
theorem DescLaw.top.tw18108473026517772636 : True := trivial
theorem DescLaw.top.tw16302431729563863261 : True := trivial
theorem DescLaw.top.tw14489272569291599443 : True := trivial
theorem DescLaw.top.tw1530278841378501179 : True := trivial
theorem DescLaw.top.tw10154300454437001565 : True := trivial
theorem DescLaw.top.tw9226437521711999938 : True := trivial
theorem DescLaw.top.tw2108547714664000202 : True := trivial
theorem DescLaw.top.tw14878376595723596908 : True := trivial
theorem DescLaw.top.tw17620193228373464216 : True := trivial
theorem DescLaw.top.tw9872156874030329718 : True := trivial
theorem DescLaw.top.tw6994891757426197916 : True := trivial
theorem DescLaw.top.tw3610032310813953472 : True := trivial
theorem DescLaw.top.tw11434247040591017121 : True := trivial
theorem DescLaw.top.tw13662642445714486789 : True := trivial
theorem DescLaw.top.tw14694136653755361614 : True := trivial
theorem DescLaw.top.tw13911040628980537405 : True := trivial
theorem DescLaw.top.tw1644312203143876198 : True := trivial
theorem DescLaw.top.tw16508001656531749421 : True := trivial
theorem DescLaw.top.tw8003015612215467692 : True := trivial
theorem DescLaw.top.tw10932778687589075935 : True := trivial
theorem DescLaw.top.tw12186883785421649355 : True := trivial
theorem DescLaw.top.tw13324268613423032423 : True := trivial
theorem DescLaw.top.tw3110686594938153456 : True := trivial
theorem DescLaw.top.tw2184454642286283432 : True := trivial
theorem DescLaw.top.tw4268241465987485090 : True := trivial
theorem DescLaw.top.tw14674815627660029650 : True := trivial
theorem DescLaw.top.tw7606158989715963783 : True := trivial
theorem DescLaw.top.tw7632830661478585718 : True := trivial
theorem DescLaw.top.tw13263372305136359796 : True := trivial
theorem DescLaw.top.tw17943201007122282587 : True := trivial
theorem DescLaw.top.tw14659142781066631592 : True := trivial
theorem DescLaw.top.tw16190638410476319646 : True := trivial
theorem DescLaw.top.tw1599625042085217015 : True := trivial
theorem DescLaw.top.tw10215269086761856947 : True := trivial
theorem DescLaw.top.tw14419276054467429982 : True := trivial
theorem DescLaw.top.tw4051600879842059491 : True := trivial
theorem DescLaw.top.tw11732323968191489146 : True := trivial
theorem DescLaw.top.tw5075691194444988872 : True := trivial
theorem DescLaw.top.tw7974882944434645309 : True := trivial
theorem DescLaw.top.tw12348885055180138748 : True := trivial
theorem DescLaw.top.tw3268739458096546717 : True := trivial
theorem DescLaw.top.tw15349616096431180551 : True := trivial
theorem DescLaw.top.tw6970304139583319094 : True := trivial
theorem DescLaw.top.tw8334483959054957203 : True := trivial
theorem DescLaw.top.tw7393166274334124153 : True := trivial
theorem DescLaw.top.tw479371816724879532 : True := trivial
theorem DescLaw.top.tw10477083238832332768 : True := trivial
theorem DescLaw.top.tw13149521460448141236 : True := trivial
theorem DescLaw.top.tw10974777539076476049 : True := trivial
theorem DescLaw.top.tw6580751255469348780 : True := trivial
theorem DescLaw.top.tw13656639414187178018 : True := trivial
theorem DescLaw.top.tw6898276116482666275 : True := trivial
theorem DescLaw.top.tw5829240800323607206 : True := trivial
theorem DescLaw.top.tw10849752646723843309 : True := trivial
theorem DescLaw.top.tw16547747312684091709 : True := trivial
theorem DescLaw.top.tw680957298347566458 : True := trivial
theorem DescLaw.top.tw14198620981137936500 : True := trivial
theorem DescLaw.top.tw9403413373578536519 : True := trivial
theorem DescLaw.top.tw2782968984922436651 : True := trivial
theorem DescLaw.top.tw410790548433108612 : True := trivial
theorem DescLaw.top.tw18257688615506486086 : True := trivial
theorem DescLaw.top.tw14767662868644005075 : True := trivial
theorem DescLaw.top.tw17226477673277584196 : True := trivial
theorem DescLaw.top.tw4758281581474513775 : True := trivial
theorem DescLaw.top.tw2327960472695853618 : True := trivial
theorem DescLaw.top.tw12590400120733344978 : True := trivial
theorem DescLaw.top.tw907446251024629152 : True := trivial
theorem DescLaw.top.tw16946711513195755587 : True := trivial
theorem DescLaw.top.tw1316172485595833475 : True := trivial
theorem DescLaw.top.tw9399392809197453738 : True := trivial
theorem DescLaw.top.tw3615800905898591347 : True := trivial
theorem DescLaw.top.tw6275960348933349633 : True := trivial
theorem DescLaw.top.tw2526084961782320132 : True := trivial
theorem DescLaw.top.tw14953845628093886081 : True := trivial
theorem DescLaw.top.tw2417570530422437607 : True := trivial
theorem DescLaw.top.tw11738352328310901559 : True := trivial
theorem DescLaw.top.tw1039001967874017122 : True := trivial
theorem DescLaw.top.tw3368290048306139598 : True := trivial
theorem DescLaw.top.tw3754596080354187746 : True := trivial
theorem DescLaw.top.tw13070414811626691654 : True := trivial
theorem DescLaw.top.tw4150209015254742179 : True := trivial
theorem DescLaw.top.tw2355473128562658329 : True := trivial
theorem DescLaw.top.tw2752848552498793336 : True := trivial
theorem DescLaw.top.tw15199336368861698200 : True := trivial
theorem DescLaw.top.tw6288932279869956405 : True := trivial
theorem DescLaw.top.tw17634896132595065132 : True := trivial
theorem DescLaw.top.tw16141836769153562577 : True := trivial
theorem DescLaw.top.tw14019483532185016971 : True := trivial
theorem DescLaw.top.tw2331091917136163274 : True := trivial
theorem DescLaw.top.tw1352364531308534174 : True := trivial
theorem DescLaw.top.tw8893329778047015076 : True := trivial
theorem DescLaw.top.tw16119209692530736568 : True := trivial
theorem DescLaw.top.tw16606056481656351663 : True := trivial
theorem DescLaw.top.tw10540661361079970167 : True := trivial
theorem DescLaw.top.tw2687684190393212266 : True := trivial
theorem DescLaw.top.tw17361223696047526714 : True := trivial
theorem DescLaw.top.tw3030174135007573710 : True := trivial
theorem DescLaw.top.tw3069406466810960485 : True := trivial
theorem DescLaw.top.tw5626511617759658968 : True := trivial
theorem DescLaw.top.tw12408450859819630700 : True := trivial
theorem DescLaw.top.tw8101435423655816694 : True := trivial
theorem DescLaw.top.tw16728805707912902665 : True := trivial
theorem DescLaw.top.tw13298750786907122422 : True := trivial
theorem DescLaw.top.tw17530431170039766452 : True := trivial
theorem DescLaw.top.tw5649012316186986240 : True := trivial
theorem DescLaw.top.tw14545677519804043753 : True := trivial
theorem DescLaw.top.tw316139734787572278 : True := trivial
theorem DescLaw.top.tw13718743574386429199 : True := trivial
theorem DescLaw.top.tw4617708210542929342 : True := trivial
theorem DescLaw.top.tw3674995700645625094 : True := trivial
theorem DescLaw.top.tw6176844258400641219 : True := trivial
theorem DescLaw.top.tw15831508564063281745 : True := trivial
theorem DescLaw.top.tw13168439805725800799 : True := trivial
theorem DescLaw.top.tw9843678339067838068 : True := trivial
theorem DescLaw.top.tw2096023332411691152 : True := trivial
theorem DescLaw.top.tw4275667164212435556 : True := trivial
theorem DescLaw.top.tw13515516772261587649 : True := trivial
theorem DescLaw.top.tw5307271666379815164 : True := trivial
theorem DescLaw.top.tw3492024555245908368 : True := trivial
theorem DescLaw.top.tw11776370069973025946 : True := trivial
theorem DescLaw.top.tw14307262463799278091 : True := trivial
theorem DescLaw.top.tw16627829712731500848 : True := trivial
theorem DescLaw.top.tw1724115575814824978 : True := trivial
theorem DescLaw.top.tw13262273061798763361 : True := trivial
theorem DescLaw.top.tw7539719942862333852 : True := trivial
theorem DescLaw.top.tw9673684731948170051 : True := trivial
theorem DescLaw.top.tw6604936815958944879 : True := trivial
theorem DescLaw.top.tw12679994861005347036 : True := trivial
theorem DescLaw.top.tw16953323776239667050 : True := trivial
theorem DescLaw.top.tw18134749670786486625 : True := trivial
theorem DescLaw.top.tw16556031020444730675 : True := trivial
theorem DescLaw.top.tw6884512281949449092 : True := trivial
theorem DescLaw.top.tw17038837240029030620 : True := trivial
theorem DescLaw.top.tw15245225690878637531 : True := trivial
theorem DescLaw.top.tw17056684767770244025 : True := trivial
theorem DescLaw.top.tw1506287962247509959 : True := trivial
theorem DescLaw.top.tw12058309493757779496 : True := trivial
theorem DescLaw.top.tw6398573432536128749 : True := trivial
theorem DescLaw.top.tw4564967342686070425 : True := trivial
theorem DescLaw.top.tw14941805085626189958 : True := trivial
theorem DescLaw.top.tw8766532519843932790 : True := trivial
theorem DescLaw.top.tw12053345693977403993 : True := trivial
theorem DescLaw.top.tw14987861420716017542 : True := trivial
theorem DescLaw.top.tw4689663890072148925 : True := trivial
theorem DescLaw.top.tw17323992534414718597 : True := trivial
theorem DescLaw.top.tw10605203027395781802 : True := trivial
theorem DescLaw.top.tw17097757833886369244 : True := trivial
theorem DescLaw.top.tw5909217360850554980 : True := trivial
theorem DescLaw.top.tw10647471739825520689 : True := trivial
theorem DescLaw.top.tw5156096471470534076 : True := trivial
theorem DescLaw.top.tw13371858543502814122 : True := trivial
theorem DescLaw.top.tw8156025728654497914 : True := trivial
theorem DescLaw.top.tw17165366567157215297 : True := trivial
theorem DescLaw.top.tw10117812745590952990 : True := trivial
theorem DescLaw.top.tw2108580460827708315 : True := trivial
theorem DescLaw.top.tw22874309294674504 : True := trivial
theorem DescLaw.top.tw15144303304901845252 : True := trivial
theorem DescLaw.top.tw16110688613829570943 : True := trivial
theorem DescLaw.top.tw1286360252222358626 : True := trivial
theorem DescLaw.top.tw5653733076365148372 : True := trivial
theorem DescLaw.top.tw3188692786877582638 : True := trivial
theorem DescLaw.top.tw16601493657812736905 : True := trivial
theorem DescLaw.top.tw16540640299693852283 : True := trivial
theorem DescLaw.top.tw17217464665464572123 : True := trivial
theorem DescLaw.top.tw11277834509202655075 : True := trivial
theorem DescLaw.top.tw8385541397235203283 : True := trivial
theorem DescLaw.top.tw10702893829415571989 : True := trivial
theorem DescLaw.top.tw17664259472187284033 : True := trivial
theorem DescLaw.top.tw10957853822938030496 : True := trivial
theorem DescLaw.top.tw6100084426493864458 : True := trivial
theorem DescLaw.top.tw11146661911827186941 : True := trivial
theorem DescLaw.top.tw9785573279543792050 : True := trivial
theorem DescLaw.top.tw15370378590547395076 : True := trivial
theorem DescLaw.top.tw7365043766048608625 : True := trivial
theorem DescLaw.top.tw13071022720961799219 : True := trivial
theorem DescLaw.top.tw7415922524667028745 : True := trivial
theorem DescLaw.top.tw10091507830615097343 : True := trivial
theorem DescLaw.top.tw17742849620639894204 : True := trivial
theorem DescLaw.top.tw8203352767115253292 : True := trivial
theorem DescLaw.top.tw12042426895070679730 : True := trivial
theorem DescLaw.top.tw4567122290074333361 : True := trivial
theorem DescLaw.top.tw4896240857302862618 : True := trivial
theorem DescLaw.top.tw15818435291333362098 : True := trivial
theorem DescLaw.top.tw7978541722763069262 : True := trivial
theorem DescLaw.top.tw14077407209527404931 : True := trivial
theorem DescLaw.top.tw10189512100736581545 : True := trivial
theorem DescLaw.top.tw17313941285424886928 : True := trivial
theorem DescLaw.top.tw7317210936545618320 : True := trivial
theorem DescLaw.top.tw5316975773368698401 : True := trivial
theorem DescLaw.top.tw3791080295765160232 : True := trivial
theorem DescLaw.top.tw3292783488697628430 : True := trivial
theorem DescLaw.top.tw3353474933512383811 : True := trivial
theorem DescLaw.top.tw18105699220237524040 : True := trivial
theorem DescLaw.top.tw16892889001138681275 : True := trivial
theorem DescLaw.top.tw17272528228564152569 : True := trivial
theorem DescLaw.top.tw9013993966802118944 : True := trivial
theorem DescLaw.top.tw197999739831492614 : True := trivial
theorem DescLaw.top.tw17580718629228719142 : True := trivial
theorem DescLaw.top.tw6062968529059327360 : True := trivial
theorem DescLaw.top.tw8299535281470740823 : True := trivial
theorem DescLaw.top.tw17975091789957816336 : True := trivial
theorem DescLaw.top.tw3970093761165834597 : True := trivial
theorem DescLaw.top.tw13306604141151611963 : True := trivial
theorem DescLaw.top.tw13061416646897017485 : True := trivial
theorem DescLaw.top.tw4643841858610960877 : True := trivial
theorem DescLaw.top.tw1169885848967052459 : True := trivial
theorem DescLaw.top.tw4187193138716253573 : True := trivial
theorem DescLaw.top.tw11849166154625721044 : True := trivial
theorem DescLaw.top.tw9615022834340209027 : True := trivial
theorem DescLaw.top.tw6520222608711390145 : True := trivial
theorem DescLaw.top.tw2311555558170867146 : True := trivial
theorem DescLaw.top.tw8304658386359434600 : True := trivial
theorem DescLaw.top.tw5458142191029564130 : True := trivial
theorem DescLaw.top.tw1169086153655896035 : True := trivial
theorem DescLaw.top.tw8988974013585186314 : True := trivial
theorem DescLaw.top.tw6990310178962517848 : True := trivial
theorem DescLaw.top.tw17679063085528662432 : True := trivial
theorem DescLaw.top.tw4824207601945482140 : True := trivial
theorem DescLaw.top.tw11846574091966629137 : True := trivial
theorem DescLaw.top.tw10794283732141142335 : True := trivial
theorem DescLaw.top.tw13250786764347957014 : True := trivial
theorem DescLaw.top.tw13719396820818505662 : True := trivial
theorem DescLaw.top.tw14739437884855990078 : True := trivial
theorem DescLaw.top.tw14234820158330243267 : True := trivial
theorem DescLaw.top.tw13398427450767030851 : True := trivial
theorem DescLaw.top.tw10162748311505361086 : True := trivial
theorem DescLaw.top.tw13895201060867129621 : True := trivial
theorem DescLaw.top.tw4293250382964510047 : True := trivial
theorem DescLaw.top.tw10959478780716307014 : True := trivial
theorem DescLaw.top.tw16441880354670436991 : True := trivial
theorem DescLaw.top.tw528007553028668104 : True := trivial
theorem DescLaw.top.tw4188616991793954866 : True := trivial
theorem DescLaw.top.tw11832664454319568683 : True := trivial
theorem DescLaw.top.tw12570686637081731493 : True := trivial
theorem DescLaw.top.tw11248360575396410232 : True := trivial
theorem DescLaw.top.tw4676295844334061845 : True := trivial
theorem DescLaw.top.tw11276334348971660920 : True := trivial
theorem DescLaw.top.tw8808771452353877479 : True := trivial
theorem DescLaw.top.tw17796380207177581128 : True := trivial
theorem DescLaw.top.tw16870174684024687021 : True := trivial
theorem DescLaw.top.tw8918655184355224618 : True := trivial
theorem DescLaw.top.tw1425891228967039081 : True := trivial
theorem DescLaw.top.tw5441763040968119635 : True := trivial
theorem DescLaw.top.tw16503590759844953918 : True := trivial
theorem DescLaw.top.tw9018041744700927521 : True := trivial
theorem DescLaw.top.tw4568357718829468690 : True := trivial
theorem DescLaw.top.tw8521518203459959469 : True := trivial
theorem DescLaw.top.tw16285709899519676848 : True := trivial
theorem DescLaw.top.tw9826334804187389407 : True := trivial
theorem DescLaw.top.tw11688159360833439492 : True := trivial
theorem DescLaw.top.tw2719483431902009855 : True := trivial
theorem DescLaw.top.tw14797428942238294186 : True := trivial
theorem DescLaw.top.tw16151778209360528982 : True := trivial
theorem DescLaw.top.tw4326683453304496333 : True := trivial
theorem DescLaw.top.tw8638457324891351939 : True := trivial
theorem DescLaw.top.tw12784474396196079918 : True := trivial
theorem DescLaw.top.tw17060190046618741205 : True := trivial
theorem DescLaw.top.tw17877152706046777655 : True := trivial
theorem DescLaw.top.tw4797852263282853071 : True := trivial
theorem DescLaw.top.tw6911737550328381121 : True := trivial
theorem DescLaw.top.tw6053450789687743793 : True := trivial
theorem DescLaw.top.tw15170299089901013390 : True := trivial
theorem DescLaw.top.tw16377314014603089429 : True := trivial
theorem DescLaw.top.tw5064756818473519686 : True := trivial
theorem DescLaw.top.tw5397730295662279111 : True := trivial
theorem DescLaw.top.tw13242369145710467127 : True := trivial
theorem DescLaw.top.tw8977999648013861787 : True := trivial
theorem DescLaw.top.tw5425125642134095386 : True := trivial
theorem DescLaw.top.tw7856428895269959755 : True := trivial
theorem DescLaw.top.tw5019564954059122932 : True := trivial
theorem DescLaw.top.tw12496266797854741331 : True := trivial
theorem DescLaw.top.tw14887340055436663020 : True := trivial
theorem DescLaw.top.tw12341299343699754458 : True := trivial
theorem DescLaw.top.tw13516210904976772092 : True := trivial
theorem DescLaw.top.tw17995856365886635029 : True := trivial
theorem DescLaw.top.tw3816217242293106637 : True := trivial
theorem DescLaw.top.tw8164314318673743199 : True := trivial
theorem DescLaw.top.tw4708574410642616959 : True := trivial
theorem DescLaw.top.tw2256810118786201943 : True := trivial
theorem DescLaw.top.tw12788991629064883873 : True := trivial
theorem DescLaw.top.tw3030060474184336770 : True := trivial
theorem DescLaw.top.tw12229324865711109430 : True := trivial
theorem DescLaw.top.tw16929551400512917544 : True := trivial
theorem DescLaw.top.tw4444098705638608302 : True := trivial
theorem DescLaw.top.tw1448609003990622115 : True := trivial
theorem DescLaw.top.tw13304653246356878841 : True := trivial
theorem DescLaw.top.tw12713595661881425689 : True := trivial
theorem DescLaw.top.tw8750217697649188711 : True := trivial
theorem DescLaw.top.tw10105044169233234038 : True := trivial
theorem DescLaw.top.tw17433513820708321379 : True := trivial
theorem DescLaw.top.tw14550774527474883040 : True := trivial
theorem DescLaw.top.tw8777350121424555055 : True := trivial
theorem DescLaw.top.tw12632613387681647465 : True := trivial
theorem DescLaw.top.tw5378124431913112305 : True := trivial
theorem DescLaw.top.tw811837808718024464 : True := trivial
theorem DescLaw.top.tw13531887383175797577 : True := trivial
theorem DescLaw.top.tw17397107251042864312 : True := trivial
theorem DescLaw.top.tw5579148229898836511 : True := trivial
theorem DescLaw.top.tw3725518886345047498 : True := trivial
theorem DescLaw.top.tw1573712581357126557 : True := trivial
theorem DescLaw.top.tw4329406204079280343 : True := trivial
theorem DescLaw.top.tw14279768724103116529 : True := trivial
theorem DescLaw.top.tw14710900856977476292 : True := trivial
theorem DescLaw.top.tw15434683368752594566 : True := trivial
theorem DescLaw.top.tw13483493271709738130 : True := trivial
theorem DescLaw.top.tw2802000172637128358 : True := trivial
theorem DescLaw.top.tw7804969533898570759 : True := trivial
theorem DescLaw.top.tw16949935903185595136 : True := trivial
theorem DescLaw.top.tw6314707386280184345 : True := trivial
theorem DescLaw.top.tw5260810598198375111 : True := trivial
theorem DescLaw.top.tw8137911617849067991 : True := trivial
theorem DescLaw.top.tw8302079535536809324 : True := trivial
theorem DescLaw.top.tw13646650520975835543 : True := trivial
theorem DescLaw.top.tw8027609719200613285 : True := trivial
theorem DescLaw.top.tw13938307287122401720 : True := trivial
theorem DescLaw.top.tw3441086349163580640 : True := trivial
theorem DescLaw.top.tw10241242999106619651 : True := trivial
theorem DescLaw.top.tw16355262076039372857 : True := trivial
theorem DescLaw.top.tw3279147557858558008 : True := trivial
theorem DescLaw.top.tw16169421672982057807 : True := trivial
theorem DescLaw.top.tw5457015999585609316 : True := trivial
theorem DescLaw.top.tw12919021876316175567 : True := trivial
theorem DescLaw.top.tw15146774931739604838 : True := trivial
theorem DescLaw.top.tw14622214138026320829 : True := trivial
theorem DescLaw.top.tw6940508202015315657 : True := trivial
theorem DescLaw.top.tw4827510316087292175 : True := trivial
theorem DescLaw.top.tw4665978047863625537 : True := trivial
theorem DescLaw.top.tw9554770642644561148 : True := trivial
theorem DescLaw.top.tw16389104042067897394 : True := trivial
theorem DescLaw.top.tw1346556159750200367 : True := trivial
theorem DescLaw.top.tw15303890550052597828 : True := trivial
theorem DescLaw.top.tw10691976189736744335 : True := trivial
theorem DescLaw.top.tw14400558698510914887 : True := trivial
theorem DescLaw.top.tw3634773238900525179 : True := trivial
theorem DescLaw.top.tw16963545493538546623 : True := trivial
theorem DescLaw.top.tw5227993052078227100 : True := trivial
theorem DescLaw.top.tw269074804727080146 : True := trivial
theorem DescLaw.top.tw16362417299163126541 : True := trivial
theorem DescLaw.top.tw15115639361546441224 : True := trivial
theorem DescLaw.top.tw11341898016923573704 : True := trivial
theorem DescLaw.top.tw2298875957461866164 : True := trivial
theorem DescLaw.top.tw11285816073248479052 : True := trivial
theorem DescLaw.top.tw4151283144109438502 : True := trivial
theorem DescLaw.top.tw10968185961160059534 : True := trivial
theorem DescLaw.top.tw5233412112763470487 : True := trivial
theorem DescLaw.top.tw17883619970649125724 : True := trivial
theorem DescLaw.top.tw15135850605499967090 : True := trivial
theorem DescLaw.top.tw17806796630732333994 : True := trivial
theorem DescLaw.top.tw16578244029090285378 : True := trivial
theorem DescLaw.top.tw5837006406497195200 : True := trivial
theorem DescLaw.top.tw3031846619108338692 : True := trivial
theorem DescLaw.top.tw7814598339019894212 : True := trivial
theorem DescLaw.top.tw7098003954533287192 : True := trivial
theorem DescLaw.top.tw14010955960777173751 : True := trivial
theorem DescLaw.top.tw12975524951919166745 : True := trivial
theorem DescLaw.top.tw17865694953630551477 : True := trivial
theorem DescLaw.top.tw16939468910223408318 : True := trivial
theorem DescLaw.top.tw225703705832289746 : True := trivial
theorem DescLaw.top.tw15620888906247228711 : True := trivial
theorem DescLaw.top.tw9592272814900587476 : True := trivial
theorem DescLaw.top.tw18164138034897542273 : True := trivial
theorem DescLaw.top.tw6773493127762367149 : True := trivial
theorem DescLaw.top.tw7088190235429090197 : True := trivial
theorem DescLaw.top.tw778715549227727741 : True := trivial
theorem DescLaw.top.tw9200111612950010378 : True := trivial
theorem DescLaw.top.tw2215355187973076222 : True := trivial
theorem DescLaw.top.tw1732768480831271685 : True := trivial
theorem DescLaw.top.tw1780121730150876793 : True := trivial
theorem DescLaw.top.tw17932718080599270191 : True := trivial
theorem DescLaw.top.tw18112073813945056594 : True := trivial
theorem DescLaw.top.tw13590263611417350101 : True := trivial
theorem DescLaw.top.tw5139568057260210657 : True := trivial
theorem DescLaw.top.tw18343580396664641342 : True := trivial
theorem DescLaw.top.tw17142335158615840715 : True := trivial
theorem DescLaw.top.tw774866320904550726 : True := trivial
theorem DescLaw.top.tw16201983207020843401 : True := trivial
theorem DescLaw.top.tw8937063949914236603 : True := trivial
theorem DescLaw.top.tw1086654991988506175 : True := trivial
theorem DescLaw.top.tw4921245558703068176 : True := trivial
theorem DescLaw.top.tw8942072251721297931 : True := trivial
theorem DescLaw.top.tw1347218279367809265 : True := trivial
theorem DescLaw.top.tw10012785192650495401 : True := trivial
theorem DescLaw.top.tw7082841818799411901 : True := trivial
theorem DescLaw.top.tw1020903468012756150 : True := trivial
theorem DescLaw.top.tw11374650356785551983 : True := trivial
theorem DescLaw.top.tw6359085311914130818 : True := trivial
theorem DescLaw.top.tw12536105671335606361 : True := trivial
theorem DescLaw.top.tw5315062969488732829 : True := trivial
theorem DescLaw.top.tw10007315615321425354 : True := trivial
theorem DescLaw.top.tw17172433898903135139 : True := trivial
theorem DescLaw.top.tw6836473994781486058 : True := trivial
theorem DescLaw.top.tw1183181648961987513 : True := trivial
theorem DescLaw.top.tw15048648912268198761 : True := trivial
theorem DescLaw.top.tw17533592995222070588 : True := trivial
theorem DescLaw.top.tw8237506973062433862 : True := trivial
theorem DescLaw.top.tw17509672622596103721 : True := trivial
theorem DescLaw.top.tw16953615886535375737 : True := trivial
theorem DescLaw.top.tw17063493666401890780 : True := trivial
theorem DescLaw.top.tw11285168226657170292 : True := trivial
theorem DescLaw.top.tw6783322692527346667 : True := trivial
theorem DescLaw.top.tw5775068429814043331 : True := trivial
theorem DescLaw.top.tw12911168904465586351 : True := trivial
theorem DescLaw.top.tw17351339882743537628 : True := trivial
theorem DescLaw.top.tw2277788838897074635 : True := trivial
theorem DescLaw.top.tw11983991196209532322 : True := trivial
theorem DescLaw.top.tw7330970229849400167 : True := trivial
theorem DescLaw.top.tw2550630269406468763 : True := trivial
theorem DescLaw.top.tw5736612562800733817 : True := trivial
theorem DescLaw.top.tw14564916124862634635 : True := trivial
theorem DescLaw.top.tw10118806904864363814 : True := trivial
theorem DescLaw.top.tw693943831738971104 : True := trivial
theorem DescLaw.top.tw4892845065676173114 : True := trivial
theorem DescLaw.top.tw12130412089301810066 : True := trivial
theorem DescLaw.top.tw12085948606890237980 : True := trivial
theorem DescLaw.top.tw17142601575482128258 : True := trivial
theorem DescLaw.top.tw213847723417071085 : True := trivial
theorem DescLaw.top.tw244959032434244155 : True := trivial
theorem DescLaw.top.tw9200888850662759695 : True := trivial
theorem DescLaw.top.tw4483573439989580354 : True := trivial
theorem DescLaw.top.tw7816304096472704734 : True := trivial
theorem DescLaw.top.tw16573627520435451415 : True := trivial
theorem DescLaw.top.tw12342072064034839821 : True := trivial
theorem DescLaw.top.tw9967790974690755008 : True := trivial
theorem DescLaw.top.tw11898908578874866294 : True := trivial
theorem DescLaw.top.tw18281090043573241539 : True := trivial
theorem DescLaw.top.tw4190989655633485965 : True := trivial
theorem DescLaw.top.tw15875606051327331308 : True := trivial
theorem DescLaw.top.tw15773084003609553201 : True := trivial
theorem DescLaw.top.tw662858890271752308 : True := trivial
theorem DescLaw.top.tw9841838963526606267 : True := trivial
theorem DescLaw.top.tw1224760887548404122 : True := trivial
theorem DescLaw.top.tw3094776469265064379 : True := trivial
theorem DescLaw.top.tw7951846680713806236 : True := trivial
theorem DescLaw.top.tw85791504597845936 : True := trivial
theorem DescLaw.top.tw8273119353006808205 : True := trivial
theorem DescLaw.top.tw10318296400811175202 : True := trivial
theorem DescLaw.top.tw9577449319966516014 : True := trivial
theorem DescLaw.top.tw6499137140150982782 : True := trivial
theorem DescLaw.top.tw9005872469640109958 : True := trivial
theorem DescLaw.top.tw6246578014133959550 : True := trivial
theorem DescLaw.top.tw7220967550037466834 : True := trivial
theorem DescLaw.top.tw6568537613706206929 : True := trivial
theorem DescLaw.top.tw5434268761477442778 : True := trivial
theorem DescLaw.top.tw9693066497552994567 : True := trivial
theorem DescLaw.top.tw4385111336061795610 : True := trivial
theorem DescLaw.top.tw14186714047848579989 : True := trivial
theorem DescLaw.top.tw11336989947913382500 : True := trivial
theorem DescLaw.top.tw3244251997201581723 : True := trivial
theorem DescLaw.top.tw236110306089494238 : True := trivial
theorem DescLaw.top.tw2630341357412451577 : True := trivial
theorem DescLaw.top.tw24982209772219822 : True := trivial
theorem DescLaw.top.tw16100883604701709635 : True := trivial
theorem DescLaw.top.tw7433745368356087393 : True := trivial
theorem DescLaw.top.tw9359012709952245708 : True := trivial
theorem DescLaw.top.tw4829497328718806252 : True := trivial
theorem DescLaw.top.tw2296037138645438211 : True := trivial
theorem DescLaw.top.tw9386135173681029983 : True := trivial
theorem DescLaw.top.tw5568026524441845548 : True := trivial
theorem DescLaw.top.tw5843638382931982821 : True := trivial
theorem DescLaw.top.tw17238654363695733588 : True := trivial
theorem DescLaw.top.tw16905028741127360165 : True := trivial
theorem DescLaw.top.tw11654905134512664525 : True := trivial
theorem DescLaw.top.tw16452085534183245460 : True := trivial
theorem DescLaw.top.tw4622322502627168284 : True := trivial
theorem DescLaw.top.tw3273391323925479103 : True := trivial
theorem DescLaw.top.tw8171462797979714086 : True := trivial
theorem DescLaw.top.tw5438876837943965653 : True := trivial
theorem DescLaw.top.tw12177944382229174291 : True := trivial
theorem DescLaw.top.tw7846119851128026744 : True := trivial
theorem DescLaw.top.tw16182177428447798713 : True := trivial
theorem DescLaw.top.tw2054573383312767227 : True := trivial
theorem DescLaw.top.tw7476496985580839881 : True := trivial
theorem DescLaw.top.tw14192726416970077305 : True := trivial
theorem DescLaw.top.tw5070203296377648513 : True := trivial
theorem DescLaw.top.tw9853459133499236596 : True := trivial
theorem DescLaw.top.tw2545504691546771207 : True := trivial
theorem DescLaw.top.tw11002959714822912292 : True := trivial
theorem DescLaw.top.tw3188940587480758004 : True := trivial
theorem DescLaw.top.tw12554305752259814459 : True := trivial
theorem DescLaw.top.tw16180577468684811881 : True := trivial
theorem DescLaw.top.tw1438862902415759246 : True := trivial
theorem DescLaw.top.tw4449705855491709466 : True := trivial
theorem DescLaw.top.tw15757427212632488948 : True := trivial
theorem DescLaw.top.tw3398519990674950140 : True := trivial
theorem DescLaw.top.tw7672735492780759649 : True := trivial
theorem DescLaw.top.tw11696801374379132930 : True := trivial
theorem DescLaw.top.tw892293164458103444 : True := trivial
theorem DescLaw.top.tw15905290836224106271 : True := trivial
theorem DescLaw.top.tw15526940914208357601 : True := trivial
theorem DescLaw.top.tw17523476874298032123 : True := trivial
theorem DescLaw.top.tw13797670336258127897 : True := trivial
theorem DescLaw.top.tw8082438727884204396 : True := trivial
theorem DescLaw.top.tw2750730004109936537 : True := trivial
theorem DescLaw.top.tw12836358040756059357 : True := trivial
theorem DescLaw.top.tw14710825378493750538 : True := trivial
theorem DescLaw.top.tw17625640411200904595 : True := trivial
theorem DescLaw.top.tw5216182276566960701 : True := trivial
theorem DescLaw.top.tw3826733793207715718 : True := trivial
theorem DescLaw.top.tw14157969899680284385 : True := trivial
theorem DescLaw.top.tw1261343179145638297 : True := trivial
theorem DescLaw.top.tw651332952102334294 : True := trivial
theorem DescLaw.top.tw16823305085367997039 : True := trivial
theorem DescLaw.top.tw4345405947263875789 : True := trivial
theorem DescLaw.top.tw10053375001784213807 : True := trivial
theorem DescLaw.top.tw3864528964386209982 : True := trivial
theorem DescLaw.top.tw10210111026113062489 : True := trivial
theorem DescLaw.top.tw1813886364709418663 : True := trivial
theorem DescLaw.top.tw16890317221343059121 : True := trivial
theorem DescLaw.top.tw9535574054787294487 : True := trivial
theorem DescLaw.top.tw10528078587536473565 : True := trivial
theorem DescLaw.top.tw4405463467500908977 : True := trivial
theorem DescLaw.top.tw16824063163199866786 : True := trivial
theorem DescLaw.top.tw13091298434053781474 : True := trivial
theorem DescLaw.top.tw8076105886347076945 : True := trivial
theorem DescLaw.top.tw14620168129481479434 : True := trivial
theorem DescLaw.top.tw11216690610863064297 : True := trivial
theorem DescLaw.top.tw9975928527053927209 : True := trivial
theorem DescLaw.top.tw15822884286478214839 : True := trivial
theorem DescLaw.top.tw15314432659970190263 : True := trivial
theorem DescLaw.top.tw8604455438593714462 : True := trivial
theorem DescLaw.top.tw13041252452697803851 : True := trivial
theorem DescLaw.top.tw14919968761360385175 : True := trivial
theorem DescLaw.top.tw3695377622783970811 : True := trivial
theorem DescLaw.top.tw4759635431718162618 : True := trivial
theorem DescLaw.top.tw6785862402067538652 : True := trivial
theorem DescLaw.top.tw6254139525358608175 : True := trivial
theorem DescLaw.top.tw138074025179710636 : True := trivial
theorem DescLaw.top.tw7912250940840230451 : True := trivial
theorem DescLaw.top.tw12089974571296439986 : True := trivial
theorem DescLaw.top.tw9373355762267353386 : True := trivial
theorem DescLaw.top.tw9739991834850218326 : True := trivial
theorem DescLaw.top.tw16437957263236247053 : True := trivial
theorem DescLaw.top.tw11450526817342136415 : True := trivial
theorem DescLaw.top.tw2431499810872728775 : True := trivial
theorem DescLaw.top.tw4097278393581076248 : True := trivial
theorem DescLaw.top.tw5930563399298496916 : True := trivial
theorem DescLaw.top.tw1723655821252322574 : True := trivial
theorem DescLaw.top.tw773251620583604778 : True := trivial
theorem DescLaw.top.tw14728804798799403533 : True := trivial
theorem DescLaw.top.tw17325997194129174357 : True := trivial
theorem DescLaw.top.tw11665172849279559339 : True := trivial
theorem DescLaw.top.tw8410704068280091659 : True := trivial
theorem DescLaw.top.tw5089647554928760384 : True := trivial
theorem DescLaw.top.tw2705055116328625343 : True := trivial
theorem DescLaw.top.tw1629955053424220779 : True := trivial
theorem DescLaw.top.tw7368610070617723942 : True := trivial
theorem DescLaw.top.tw17601781182181385837 : True := trivial
theorem DescLaw.top.tw11880531887492366835 : True := trivial
theorem DescLaw.top.tw10449325764255646108 : True := trivial
theorem DescLaw.top.tw18387844270138291136 : True := trivial
theorem DescLaw.top.tw3356385663748375550 : True := trivial
theorem DescLaw.top.tw12051572583491745384 : True := trivial
theorem DescLaw.top.tw14647367038876504380 : True := trivial
theorem DescLaw.top.tw694693361136865951 : True := trivial
theorem DescLaw.top.tw15784443169475704523 : True := trivial
theorem DescLaw.top.tw11485867482122527248 : True := trivial
theorem DescLaw.top.tw1083246178926658168 : True := trivial
theorem DescLaw.top.tw1711997565590664548 : True := trivial
theorem DescLaw.top.tw522393784271271276 : True := trivial
theorem DescLaw.top.tw588302109582604947 : True := trivial
theorem DescLaw.top.tw10437282792654139991 : True := trivial
theorem DescLaw.top.tw4952880450852717355 : True := trivial
theorem DescLaw.top.tw14151423075996962176 : True := trivial
theorem DescLaw.top.tw12489684242560763768 : True := trivial
theorem DescLaw.top.tw15128953680658512739 : True := trivial
theorem DescLaw.top.tw9289348384749092566 : True := trivial
theorem DescLaw.top.tw8031642165039395811 : True := trivial
theorem DescLaw.top.tw3647288579679671396 : True := trivial
theorem DescLaw.top.tw11564381475225553099 : True := trivial
theorem DescLaw.top.tw16178069871118884661 : True := trivial
theorem DescLaw.top.tw7744602949856672367 : True := trivial
theorem DescLaw.top.tw11460644030082246189 : True := trivial
theorem DescLaw.top.tw5965268839791798192 : True := trivial
theorem DescLaw.top.tw7165981860705114682 : True := trivial
theorem DescLaw.top.tw3772474188469384918 : True := trivial
theorem DescLaw.top.tw2370445462149183206 : True := trivial
theorem DescLaw.top.tw11260021188289548309 : True := trivial
theorem DescLaw.top.tw5851121075989758101 : True := trivial
theorem DescLaw.top.tw4197137890968143229 : True := trivial
theorem DescLaw.top.tw13731288860704711612 : True := trivial
theorem DescLaw.top.tw5193412763078457145 : True := trivial
theorem DescLaw.top.tw16135433124302463613 : True := trivial
theorem DescLaw.top.tw8448920086485625078 : True := trivial
theorem DescLaw.top.tw14413783983028265632 : True := trivial
theorem DescLaw.top.tw9009414490215625410 : True := trivial
theorem DescLaw.top.tw11602718668961109656 : True := trivial
theorem DescLaw.top.tw4118679646434278092 : True := trivial
theorem DescLaw.top.tw17314246735884568991 : True := trivial
theorem DescLaw.top.tw467093984076719791 : True := trivial
theorem DescLaw.top.tw2337976558092354515 : True := trivial
theorem DescLaw.top.tw5886079978320006056 : True := trivial
theorem DescLaw.top.tw1491635187396972192 : True := trivial
theorem DescLaw.top.tw3957054117751323155 : True := trivial
theorem DescLaw.top.tw2592659952736998079 : True := trivial
theorem DescLaw.top.tw354200655009566232 : True := trivial
theorem DescLaw.top.tw8559241372039527118 : True := trivial
theorem DescLaw.top.tw16629536622780009121 : True := trivial
theorem DescLaw.top.tw14473476458149470088 : True := trivial
theorem DescLaw.top.tw3702393851319105614 : True := trivial
theorem DescLaw.top.tw17869818745229390209 : True := trivial
theorem DescLaw.top.tw16204107743965358742 : True := trivial
theorem DescLaw.top.tw18156933030541140712 : True := trivial
theorem DescLaw.top.tw675524753349063534 : True := trivial
theorem DescLaw.top.tw1491632521859351040 : True := trivial
theorem DescLaw.top.tw17856523302134830562 : True := trivial
theorem DescLaw.top.tw14395715183628597600 : True := trivial
theorem DescLaw.top.tw628377500215128319 : True := trivial
theorem DescLaw.top.tw9417653928352362537 : True := trivial
theorem DescLaw.top.tw6672783280520205426 : True := trivial
theorem DescLaw.top.tw16422883542173027716 : True := trivial
theorem DescLaw.top.tw3560309550234572135 : True := trivial
theorem DescLaw.top.tw9634745124679187828 : True := trivial
theorem DescLaw.top.tw5280718856256579554 : True := trivial
theorem DescLaw.top.tw83339063492948382 : True := trivial
theorem DescLaw.top.tw3659441170261288778 : True := trivial
theorem DescLaw.top.tw4963862539152933062 : True := trivial
theorem DescLaw.top.tw11985569733131149625 : True := trivial
theorem DescLaw.top.tw6662973536825552118 : True := trivial
theorem DescLaw.top.tw5264524022655994249 : True := trivial
theorem DescLaw.top.tw6052516555672556829 : True := trivial
theorem DescLaw.top.tw10391968665307502232 : True := trivial
theorem DescLaw.top.tw17056351028436974802 : True := trivial
theorem DescLaw.top.tw16142504104449380988 : True := trivial
theorem DescLaw.top.tw1020997095745721122 : True := trivial
theorem DescLaw.top.tw12075886630051029908 : True := trivial
theorem DescLaw.top.tw14654288550187068312 : True := trivial
theorem DescLaw.top.tw10210938718642798838 : True := trivial
theorem DescLaw.top.tw16237055094254175315 : True := trivial
theorem DescLaw.top.tw8559976392921445337 : True := trivial
theorem DescLaw.top.tw722793094522829572 : True := trivial
theorem DescLaw.top.tw6441839693402095430 : True := trivial
theorem DescLaw.top.tw763684026496879651 : True := trivial
theorem DescLaw.top.tw6508700497444892110 : True := trivial
theorem DescLaw.top.tw6262277500010812799 : True := trivial
theorem DescLaw.top.tw7462521838358863881 : True := trivial
theorem DescLaw.top.tw17138422392245776990 : True := trivial
theorem DescLaw.top.tw9223641928924187801 : True := trivial
theorem DescLaw.top.tw1549645073844962240 : True := trivial
theorem DescLaw.top.tw3411735095910824979 : True := trivial
theorem DescLaw.top.tw2606429241883339833 : True := trivial
theorem DescLaw.top.tw4556611032009790928 : True := trivial
theorem DescLaw.top.tw10656261222990498528 : True := trivial
theorem DescLaw.top.tw10110729102578372178 : True := trivial
theorem DescLaw.top.tw7101750097801262356 : True := trivial
theorem DescLaw.top.tw8793178683920314295 : True := trivial
theorem DescLaw.top.tw18384036389938449516 : True := trivial
theorem DescLaw.top.tw7553461113793685108 : True := trivial
theorem DescLaw.top.tw10227053831745804672 : True := trivial
theorem DescLaw.top.tw792628849193610357 : True := trivial
theorem DescLaw.top.tw14921731129193141886 : True := trivial
theorem DescLaw.top.tw8207751935947410168 : True := trivial
theorem DescLaw.top.tw7168379891445834527 : True := trivial
theorem DescLaw.top.tw7864871600768295385 : True := trivial
theorem DescLaw.top.tw11741684931691844509 : True := trivial
theorem DescLaw.top.tw2714491414986091972 : True := trivial
theorem DescLaw.top.tw2268856693686900746 : True := trivial
theorem DescLaw.top.tw4104780537427539421 : True := trivial
theorem DescLaw.top.tw16055750646920573816 : True := trivial
theorem DescLaw.top.tw15915666140820747042 : True := trivial
theorem DescLaw.top.tw13925693663132892284 : True := trivial
theorem DescLaw.top.tw7950714654138292014 : True := trivial
theorem DescLaw.top.tw301884500349640028 : True := trivial
theorem DescLaw.top.tw12177451191590588739 : True := trivial
theorem DescLaw.top.tw12562403080599593274 : True := trivial
theorem DescLaw.top.tw14685376189142950717 : True := trivial
theorem DescLaw.top.tw7363239456539900887 : True := trivial
theorem DescLaw.top.tw3854992989903940528 : True := trivial
theorem DescLaw.top.tw11506802366603638429 : True := trivial
theorem DescLaw.top.tw17259907921450344149 : True := trivial
theorem DescLaw.top.tw2547081539283347481 : True := trivial
theorem DescLaw.top.tw5499009751413621206 : True := trivial
theorem DescLaw.top.tw8153255011736152534 : True := trivial
theorem DescLaw.top.tw14200547510542939003 : True := trivial
theorem DescLaw.top.tw10097178870214163220 : True := trivial
theorem DescLaw.top.tw2401431147600126722 : True := trivial
theorem DescLaw.top.tw2348756705107384283 : True := trivial
theorem DescLaw.top.tw5734703709394309489 : True := trivial
theorem DescLaw.top.tw11124205569687298823 : True := trivial
theorem DescLaw.top.tw12315053673551055778 : True := trivial
theorem DescLaw.top.tw539338855604859840 : True := trivial
theorem DescLaw.top.tw10950688802269087259 : True := trivial
theorem DescLaw.top.tw5512695257601183962 : True := trivial
theorem DescLaw.top.tw7559589057017411157 : True := trivial
theorem DescLaw.top.tw1837559585494904489 : True := trivial
theorem DescLaw.top.tw7607064318101648630 : True := trivial
theorem DescLaw.top.tw6564509570012789648 : True := trivial
theorem DescLaw.top.tw1901552397208821248 : True := trivial
theorem DescLaw.top.tw13373626494736668827 : True := trivial
theorem DescLaw.top.tw13653248554678419765 : True := trivial
theorem DescLaw.top.tw1866192623510715029 : True := trivial
theorem DescLaw.top.tw2049200319183625733 : True := trivial
theorem DescLaw.top.tw12582550435755928934 : True := trivial
theorem DescLaw.top.tw6818508186642685507 : True := trivial
theorem DescLaw.top.tw6776675705187332914 : True := trivial
theorem DescLaw.top.tw2072920493589532477 : True := trivial
theorem DescLaw.top.tw13305860946400502923 : True := trivial
theorem DescLaw.top.tw14447981600453775581 : True := trivial
theorem DescLaw.top.tw17540564840754373775 : True := trivial
theorem DescLaw.top.tw3483431238280658447 : True := trivial
theorem DescLaw.top.tw3749159253150488972 : True := trivial
theorem DescLaw.top.tw7015018490964745913 : True := trivial
theorem DescLaw.top.tw870377028880814662 : True := trivial
theorem DescLaw.top.tw10826812578583863300 : True := trivial
theorem DescLaw.top.tw13417244204302567937 : True := trivial
theorem DescLaw.top.tw17469669814264528363 : True := trivial
theorem DescLaw.top.tw17603018975402096013 : True := trivial
theorem DescLaw.top.tw2118964210633690299 : True := trivial
theorem DescLaw.top.tw8977258785631954115 : True := trivial
theorem DescLaw.top.tw11230939120323122744 : True := trivial
theorem DescLaw.top.tw10368126580615834472 : True := trivial
theorem DescLaw.top.tw14778433613948235698 : True := trivial
theorem DescLaw.top.tw2486309940389410206 : True := trivial
theorem DescLaw.top.tw903718133915700737 : True := trivial
theorem DescLaw.top.tw3550803558709449407 : True := trivial
theorem DescLaw.top.tw1901942472990100813 : True := trivial
theorem DescLaw.top.tw5933914258220629629 : True := trivial
theorem DescLaw.top.tw6386598491261930875 : True := trivial
theorem DescLaw.top.tw7228084641622086396 : True := trivial
theorem DescLaw.top.tw220420207149781160 : True := trivial
theorem DescLaw.top.tw9785828929273465999 : True := trivial
theorem DescLaw.top.tw4358222407727409781 : True := trivial
theorem DescLaw.top.tw6479014605306003175 : True := trivial
theorem DescLaw.top.tw14109607966090205378 : True := trivial
theorem DescLaw.top.tw2537751304170225908 : True := trivial
theorem DescLaw.top.tw8061033662796001201 : True := trivial
theorem DescLaw.top.tw13789368998521719811 : True := trivial
theorem DescLaw.top.tw15204191971029530432 : True := trivial
theorem DescLaw.top.tw5405859710900238749 : True := trivial
theorem DescLaw.top.tw14540180262556346090 : True := trivial
theorem DescLaw.top.tw2736597035457909498 : True := trivial
theorem DescLaw.top.tw488013777148228852 : True := trivial
theorem DescLaw.top.tw14051117442104273617 : True := trivial
theorem DescLaw.top.tw1298253395345513439 : True := trivial
theorem DescLaw.top.tw10629916842333038665 : True := trivial
theorem DescLaw.top.tw6261985146535272143 : True := trivial
theorem DescLaw.top.tw1703382197901930572 : True := trivial
theorem DescLaw.top.tw6403116092448074515 : True := trivial
theorem DescLaw.top.tw5749774459419859676 : True := trivial
theorem DescLaw.top.tw4975165609004501373 : True := trivial
theorem DescLaw.top.tw3209979880833587273 : True := trivial
theorem DescLaw.top.tw8098665277575357451 : True := trivial
theorem DescLaw.top.tw15654874925429652572 : True := trivial
theorem DescLaw.top.tw11171125685440900509 : True := trivial
theorem DescLaw.top.tw12357891767567252844 : True := trivial
theorem DescLaw.top.tw13253645661371524623 : True := trivial
theorem DescLaw.top.tw4680224093093338253 : True := trivial
theorem DescLaw.top.tw4246210003051032938 : True := trivial
theorem DescLaw.top.tw6618507243187127840 : True := trivial
theorem DescLaw.top.tw16112144302775013444 : True := trivial
theorem DescLaw.top.tw16731665233122195849 : True := trivial
theorem DescLaw.top.tw14687911096568768747 : True := trivial
theorem DescLaw.top.tw6506017051557942533 : True := trivial
theorem DescLaw.top.tw423694063911695692 : True := trivial
theorem DescLaw.top.tw11338624766205394307 : True := trivial
theorem DescLaw.top.tw1919941065760767295 : True := trivial
theorem DescLaw.top.tw15969602402697600285 : True := trivial
theorem DescLaw.top.tw12067917248303674522 : True := trivial
theorem DescLaw.top.tw2882477064798085841 : True := trivial
theorem DescLaw.top.tw4610177469752339842 : True := trivial
theorem DescLaw.top.tw13114753890468043836 : True := trivial
theorem DescLaw.top.tw2864431532450133935 : True := trivial
theorem DescLaw.top.tw4748187756624417126 : True := trivial
theorem DescLaw.top.tw11871922898213475264 : True := trivial
theorem DescLaw.top.tw6995250500315586205 : True := trivial
theorem DescLaw.top.tw16350530545788468412 : True := trivial
theorem DescLaw.top.tw6620774097592231707 : True := trivial
theorem DescLaw.top.tw16337641979754789176 : True := trivial
theorem DescLaw.top.tw6907919916504407261 : True := trivial
theorem DescLaw.top.tw16710727192053676818 : True := trivial
theorem DescLaw.top.tw14736041469428599254 : True := trivial
theorem DescLaw.top.tw3406155021153936641 : True := trivial
theorem DescLaw.top.tw2988350454170757309 : True := trivial
theorem DescLaw.top.tw17849102587255177323 : True := trivial
theorem DescLaw.top.tw3576471441455418804 : True := trivial
theorem DescLaw.top.tw706536700994721681 : True := trivial
theorem DescLaw.top.tw11961510347591569401 : True := trivial
theorem DescLaw.top.tw12793819313715423691 : True := trivial
theorem DescLaw.top.tw1023982643680179435 : True := trivial
theorem DescLaw.top.tw863309549774029366 : True := trivial
theorem DescLaw.top.tw5935540621154605103 : True := trivial
theorem DescLaw.top.tw16952910350088967057 : True := trivial
theorem DescLaw.top.tw1366225983984106628 : True := trivial
theorem DescLaw.top.tw1574673110773093803 : True := trivial
theorem DescLaw.top.tw17242818061722476852 : True := trivial
theorem DescLaw.top.tw4291546611596034936 : True := trivial
theorem DescLaw.top.tw4963981141581965800 : True := trivial
theorem DescLaw.top.tw7122835755896250336 : True := trivial
theorem DescLaw.top.tw15958460914725153643 : True := trivial
theorem DescLaw.top.tw11681874596186646417 : True := trivial
theorem DescLaw.top.tw7667254811593547038 : True := trivial
theorem DescLaw.top.tw11929987303346743633 : True := trivial
theorem DescLaw.top.tw12634433633006802771 : True := trivial
theorem DescLaw.top.tw7596123830615270546 : True := trivial
theorem DescLaw.top.tw17704799679006792092 : True := trivial
theorem DescLaw.top.tw6625398421986535036 : True := trivial
theorem DescLaw.top.tw14918433067993041070 : True := trivial
theorem DescLaw.top.tw10506829652282844626 : True := trivial
theorem DescLaw.top.tw16044302994017895108 : True := trivial
theorem DescLaw.top.tw17640437708230783691 : True := trivial
theorem DescLaw.top.tw15637036823096059460 : True := trivial
theorem DescLaw.top.tw11732023731456013091 : True := trivial
theorem DescLaw.top.tw1300746398400178736 : True := trivial
theorem DescLaw.top.tw10848101479777140226 : True := trivial
theorem DescLaw.top.tw8022451399467969155 : True := trivial
theorem DescLaw.top.tw5753421657864450066 : True := trivial
theorem DescLaw.top.tw9013377759334403257 : True := trivial
theorem DescLaw.top.tw8007451716555859310 : True := trivial
theorem DescLaw.top.tw2843203395599467952 : True := trivial
theorem DescLaw.top.tw6458156572076273168 : True := trivial
theorem DescLaw.top.tw5372397110970224853 : True := trivial
theorem DescLaw.top.tw16063564135554904522 : True := trivial
theorem DescLaw.top.tw15718363097844209097 : True := trivial
theorem DescLaw.top.tw3217928488850823349 : True := trivial
theorem DescLaw.top.tw11682640132804802980 : True := trivial
theorem DescLaw.top.tw12446878496445461607 : True := trivial
theorem DescLaw.top.tw1679998330526212182 : True := trivial
theorem DescLaw.top.tw17335029909428882619 : True := trivial
theorem DescLaw.top.tw10105836678905176183 : True := trivial
theorem DescLaw.top.tw16824165970168658194 : True := trivial
theorem DescLaw.top.tw441614542092158891 : True := trivial
theorem DescLaw.top.tw1042634227702161778 : True := trivial
theorem DescLaw.top.tw13461870564731807862 : True := trivial
theorem DescLaw.top.tw5807443436284494453 : True := trivial
theorem DescLaw.top.tw14314673753416338883 : True := trivial
theorem DescLaw.top.tw14709083278454149140 : True := trivial
theorem DescLaw.top.tw8774937842944204813 : True := trivial
theorem DescLaw.top.tw10213202592621865561 : True := trivial
theorem DescLaw.top.tw1420449577257370303 : True := trivial
theorem DescLaw.top.tw12735061591314940116 : True := trivial
theorem DescLaw.top.tw12903179697809546396 : True := trivial
theorem DescLaw.top.tw754590060919592525 : True := trivial
theorem DescLaw.top.tw6549835145185471577 : True := trivial
theorem DescLaw.top.tw10113647705735243531 : True := trivial
theorem DescLaw.top.tw14415221755722425986 : True := trivial
theorem DescLaw.top.tw14485052727987786335 : True := trivial
theorem DescLaw.top.tw12453984252626055218 : True := trivial
theorem DescLaw.top.tw827546471638849354 : True := trivial
theorem DescLaw.top.tw1045082388400431412 : True := trivial
theorem DescLaw.top.tw8865593726184185356 : True := trivial
theorem DescLaw.top.tw5897964297023304400 : True := trivial
theorem DescLaw.top.tw17118316830062333902 : True := trivial
theorem DescLaw.top.tw1488763643901049381 : True := trivial
theorem DescLaw.top.tw14270445802151531234 : True := trivial
theorem DescLaw.top.tw5995946554225130582 : True := trivial
theorem DescLaw.top.tw10250174229868080104 : True := trivial
theorem DescLaw.top.tw5122252648328131621 : True := trivial
theorem DescLaw.top.tw16932774723621422801 : True := trivial
theorem DescLaw.top.tw10284233375456439421 : True := trivial
theorem DescLaw.top.tw3873488753619969178 : True := trivial
theorem DescLaw.top.tw10998266827836940118 : True := trivial
theorem DescLaw.top.tw4811894181916977620 : True := trivial
theorem DescLaw.top.tw16273325217121345999 : True := trivial
theorem DescLaw.top.tw3961426180400813825 : True := trivial
theorem DescLaw.top.tw10196482459028477032 : True := trivial
theorem DescLaw.top.tw14998900050992601686 : True := trivial
theorem DescLaw.top.tw15439010557076663920 : True := trivial
theorem DescLaw.top.tw5150745069930428548 : True := trivial
theorem DescLaw.top.tw6318673182536996551 : True := trivial
theorem DescLaw.top.tw5728988032092114494 : True := trivial
theorem DescLaw.top.tw5429136612186474130 : True := trivial
theorem DescLaw.top.tw8023944431996921712 : True := trivial
theorem DescLaw.top.tw6335060904028453636 : True := trivial
theorem DescLaw.top.tw10150785929600404296 : True := trivial
theorem DescLaw.top.tw4013528384584368374 : True := trivial
theorem DescLaw.top.tw3472131095255726635 : True := trivial
theorem DescLaw.top.tw9033098918781674627 : True := trivial
theorem DescLaw.top.tw14147643460718907196 : True := trivial
theorem DescLaw.top.tw3584630593551598786 : True := trivial
theorem DescLaw.top.tw16441004374630756555 : True := trivial
theorem DescLaw.top.tw2876557615893015114 : True := trivial
theorem DescLaw.top.tw16303782723652266709 : True := trivial
theorem DescLaw.top.tw16355833579109728686 : True := trivial
theorem DescLaw.top.tw8595063087292478769 : True := trivial
theorem DescLaw.top.tw14803666340661650195 : True := trivial
theorem DescLaw.top.tw17166663353099627031 : True := trivial
theorem DescLaw.top.tw3291227146947488238 : True := trivial
theorem DescLaw.top.tw4456512442237308327 : True := trivial
theorem DescLaw.top.tw16875914869436972104 : True := trivial
theorem DescLaw.top.tw8660240868461174636 : True := trivial
theorem DescLaw.top.tw9481779163463380903 : True := trivial
theorem DescLaw.top.tw2273980454948995494 : True := trivial
theorem DescLaw.top.tw10973396538928513061 : True := trivial
theorem DescLaw.top.tw364938754455997660 : True := trivial
theorem DescLaw.top.tw7643359263507279050 : True := trivial
theorem DescLaw.top.tw11631427621631963968 : True := trivial
theorem DescLaw.top.tw3321219473857806370 : True := trivial
theorem DescLaw.top.tw9323711123129294354 : True := trivial
theorem DescLaw.top.tw7175795399379467705 : True := trivial
theorem DescLaw.top.tw3855335696849582161 : True := trivial
theorem DescLaw.top.tw14272874577703583598 : True := trivial
theorem DescLaw.top.tw2654770595438395184 : True := trivial
theorem DescLaw.top.tw6992387700461154627 : True := trivial
theorem DescLaw.top.tw9111775345734266000 : True := trivial
theorem DescLaw.top.tw6888115103865448142 : True := trivial
theorem DescLaw.top.tw144124612458402816 : True := trivial
theorem DescLaw.top.tw13586642168327139911 : True := trivial
theorem DescLaw.top.tw13414859036655520131 : True := trivial
theorem DescLaw.top.tw4728473979213528905 : True := trivial
theorem DescLaw.top.tw16631083256859378370 : True := trivial
theorem DescLaw.top.tw10195440137203992655 : True := trivial
theorem DescLaw.top.tw17912213389540916364 : True := trivial
theorem DescLaw.top.tw226445588910073133 : True := trivial
theorem DescLaw.top.tw495022180975079223 : True := trivial
theorem DescLaw.top.tw13289280021463959872 : True := trivial
theorem DescLaw.top.tw10759366563908601075 : True := trivial
theorem DescLaw.top.tw7048247703298452023 : True := trivial
theorem DescLaw.top.tw14874409217669293873 : True := trivial
theorem DescLaw.top.tw3135511871182195708 : True := trivial
theorem DescLaw.top.tw7336413269383866245 : True := trivial
theorem DescLaw.top.tw14287203583291721842 : True := trivial
theorem DescLaw.top.tw9387173187562019676 : True := trivial
theorem DescLaw.top.tw5586923768719009257 : True := trivial
theorem DescLaw.top.tw7751085310841356848 : True := trivial
theorem DescLaw.top.tw13783844647546125335 : True := trivial
theorem DescLaw.top.tw10002415698388057692 : True := trivial
theorem DescLaw.top.tw3023498928963790194 : True := trivial
theorem DescLaw.top.tw12326418717177005692 : True := trivial
theorem DescLaw.top.tw11970526204282377154 : True := trivial
theorem DescLaw.top.tw13241168257343963967 : True := trivial
theorem DescLaw.top.tw9292451969847921017 : True := trivial
theorem DescLaw.top.tw3811572570999888372 : True := trivial
theorem DescLaw.top.tw9750028302811926751 : True := trivial
theorem DescLaw.top.tw16715192228247651579 : True := trivial
theorem DescLaw.top.tw13818143456130264142 : True := trivial
theorem DescLaw.top.tw10985778820244857461 : True := trivial
theorem DescLaw.top.tw11637351615948827677 : True := trivial
theorem DescLaw.top.tw6674384357237867045 : True := trivial
theorem DescLaw.top.tw1348875578119859864 : True := trivial
theorem DescLaw.top.tw4776245620383160092 : True := trivial
theorem DescLaw.top.tw12849474489587438182 : True := trivial
theorem DescLaw.top.tw14658090533681712453 : True := trivial
theorem DescLaw.top.tw15367865008820561924 : True := trivial
theorem DescLaw.top.tw11341748612135435674 : True := trivial
theorem DescLaw.top.tw5510535662629636751 : True := trivial
theorem DescLaw.top.tw13175963274837420674 : True := trivial
theorem DescLaw.top.tw8600023626949870437 : True := trivial
theorem DescLaw.top.tw7791163856438622647 : True := trivial
theorem DescLaw.top.tw6206852015305272598 : True := trivial
theorem DescLaw.top.tw8639004113376390723 : True := trivial
theorem DescLaw.top.tw9455545902511171173 : True := trivial
theorem DescLaw.top.tw5273035708697459215 : True := trivial
theorem DescLaw.top.tw5323945674906334785 : True := trivial
theorem DescLaw.top.tw13531841391408216188 : True := trivial
theorem DescLaw.top.tw10398447853270539842 : True := trivial
theorem DescLaw.top.tw17537806183148877315 : True := trivial
theorem DescLaw.top.tw9664138021022851490 : True := trivial
theorem DescLaw.top.tw11560126227645323546 : True := trivial
theorem DescLaw.top.tw10647512329426150082 : True := trivial
theorem DescLaw.top.tw11565768549010187745 : True := trivial
theorem DescLaw.top.tw10828300357874243422 : True := trivial
theorem DescLaw.top.tw2835293053041095745 : True := trivial
theorem DescLaw.top.tw13277778482323545256 : True := trivial
theorem DescLaw.top.tw986789790354488055 : True := trivial
theorem DescLaw.top.tw1437858700027690829 : True := trivial
theorem DescLaw.top.tw6411082064199166618 : True := trivial
theorem DescLaw.top.tw4499399784031309059 : True := trivial
theorem DescLaw.top.tw1228926387539727406 : True := trivial
theorem DescLaw.top.tw1110879310716021501 : True := trivial
theorem DescLaw.top.tw16812247235137257611 : True := trivial
theorem DescLaw.top.tw6556946478427992712 : True := trivial
theorem DescLaw.top.tw10816074653789845017 : True := trivial
theorem DescLaw.top.tw5764133423895865863 : True := trivial
theorem DescLaw.top.tw11282110269561282427 : True := trivial
theorem DescLaw.top.tw8037058849002826563 : True := trivial
theorem DescLaw.top.tw9045667328071045348 : True := trivial
theorem DescLaw.top.tw13265402829614658990 : True := trivial
theorem DescLaw.top.tw8522573292806293757 : True := trivial
theorem DescLaw.top.tw731538180041051070 : True := trivial
theorem DescLaw.top.tw12397351241382129697 : True := trivial
theorem DescLaw.top.tw16511851335283513851 : True := trivial
theorem DescLaw.top.tw3372951437310156 : True := trivial
theorem DescLaw.top.tw13071964616757613035 : True := trivial
theorem DescLaw.top.tw928954394399223027 : True := trivial
theorem DescLaw.top.tw4840958140687775615 : True := trivial
theorem DescLaw.top.tw6877622911589194160 : True := trivial
theorem DescLaw.top.tw3266983421167541456 : True := trivial
theorem DescLaw.top.tw7634198246030471785 : True := trivial
theorem DescLaw.top.tw9533410586805085201 : True := trivial
theorem DescLaw.top.tw10988941615005900251 : True := trivial
theorem DescLaw.top.tw2500377718428743600 : True := trivial
theorem DescLaw.top.tw14395635058747191032 : True := trivial
theorem DescLaw.top.tw16195704848050609074 : True := trivial
theorem DescLaw.top.tw3060639522760112130 : True := trivial
theorem DescLaw.top.tw18229432522947742769 : True := trivial
theorem DescLaw.top.tw17308987345781261261 : True := trivial
theorem DescLaw.top.tw7916148594772969738 : True := trivial
theorem DescLaw.top.tw11669448307612684781 : True := trivial
theorem DescLaw.top.tw266688000741002637 : True := trivial
theorem DescLaw.top.tw17170367844734969472 : True := trivial
theorem DescLaw.top.tw17015447109063929952 : True := trivial
theorem DescLaw.top.tw10406083212398715928 : True := trivial
theorem DescLaw.top.tw16995608945620947865 : True := trivial
theorem DescLaw.top.tw8863227023144303729 : True := trivial
theorem DescLaw.top.tw16690977432746143018 : True := trivial
theorem DescLaw.top.tw4272864625874469096 : True := trivial
theorem DescLaw.top.tw15081573982713317840 : True := trivial
theorem DescLaw.top.tw13056397472100793243 : True := trivial
theorem DescLaw.top.tw12214252908418827125 : True := trivial
theorem DescLaw.top.tw6629095737613461675 : True := trivial
theorem DescLaw.top.tw17689897938394952826 : True := trivial
theorem DescLaw.top.tw2814152599913464510 : True := trivial
theorem DescLaw.top.tw14093139961747428987 : True := trivial
theorem DescLaw.top.tw2689026062777809661 : True := trivial
theorem DescLaw.top.tw11766255330900137714 : True := trivial
theorem DescLaw.top.tw3040052918734062474 : True := trivial
theorem DescLaw.top.tw4800369968494386110 : True := trivial
theorem DescLaw.top.tw11385990277314935348 : True := trivial
theorem DescLaw.top.tw12679885586532542647 : True := trivial
theorem DescLaw.top.tw10998496585657191468 : True := trivial
theorem DescLaw.top.tw6667398614314402717 : True := trivial
theorem DescLaw.top.tw7398359379320305447 : True := trivial
theorem DescLaw.top.tw9991029448752748214 : True := trivial
theorem DescLaw.top.tw8318487652602958032 : True := trivial
theorem DescLaw.top.tw2100649086971038688 : True := trivial
theorem DescLaw.top.tw790920665323753098 : True := trivial
theorem DescLaw.top.tw5463169365480051970 : True := trivial
theorem DescLaw.top.tw10836777435430095511 : True := trivial
theorem DescLaw.top.tw3059834832560952982 : True := trivial
theorem DescLaw.top.tw10724623226690320713 : True := trivial
theorem DescLaw.top.tw4361320422757408122 : True := trivial
theorem DescLaw.top.tw15993408295001375107 : True := trivial
theorem DescLaw.top.tw9308034297615323584 : True := trivial
theorem DescLaw.top.tw5621586796066745128 : True := trivial
theorem DescLaw.top.tw14476467120191262539 : True := trivial
theorem DescLaw.top.tw5937507601609545817 : True := trivial
theorem DescLaw.top.tw10337791758709610617 : True := trivial
theorem DescLaw.top.tw3219720846503488616 : True := trivial
theorem DescLaw.top.tw8540897092571564291 : True := trivial
theorem DescLaw.top.tw16173571897041656764 : True := trivial
theorem DescLaw.top.tw10299393865974898496 : True := trivial
theorem DescLaw.top.tw2860165853867109290 : True := trivial
theorem DescLaw.top.tw1856945565009406965 : True := trivial
theorem DescLaw.top.tw6484304777965605595 : True := trivial
theorem DescLaw.top.tw14575484190903365552 : True := trivial
theorem DescLaw.top.tw6029288267540633554 : True := trivial
theorem DescLaw.top.tw12179852133340263077 : True := trivial
theorem DescLaw.top.tw5136619520844186971 : True := trivial
theorem DescLaw.top.tw17235318922329915923 : True := trivial
theorem DescLaw.top.tw1634831107929359708 : True := trivial
theorem DescLaw.top.tw1018869087849734788 : True := trivial
theorem DescLaw.top.tw210303698570451732 : True := trivial
theorem DescLaw.top.tw17702125169769579510 : True := trivial
theorem DescLaw.top.tw5852397763438394780 : True := trivial
theorem DescLaw.top.tw10493603294595578076 : True := trivial
theorem DescLaw.top.tw15630589277806204090 : True := trivial
theorem DescLaw.top.tw11055765314370186243 : True := trivial
theorem DescLaw.top.tw1715729180987382146 : True := trivial
theorem DescLaw.top.tw10258847374234357408 : True := trivial
theorem DescLaw.top.tw12618694860443739060 : True := trivial
theorem DescLaw.top.tw13508106056583350575 : True := trivial
theorem DescLaw.top.tw8257831773091942627 : True := trivial
theorem DescLaw.top.tw6158787163399235908 : True := trivial
theorem DescLaw.top.tw4568459426517469316 : True := trivial
theorem DescLaw.top.tw3416346607899106979 : True := trivial
theorem DescLaw.top.tw6262853917954632805 : True := trivial
theorem DescLaw.top.tw6520993726253366628 : True := trivial
theorem DescLaw.top.tw11149520252105277754 : True := trivial
theorem DescLaw.top.tw18436219961391656175 : True := trivial
theorem DescLaw.top.tw12797879503368603097 : True := trivial
theorem DescLaw.top.tw15055856403162670348 : True := trivial
theorem DescLaw.top.tw15924550476242566365 : True := trivial
theorem DescLaw.top.tw16383441462052481302 : True := trivial
theorem DescLaw.top.tw891857165881885098 : True := trivial
theorem DescLaw.top.tw17779548871419120214 : True := trivial
theorem DescLaw.top.tw5611649623595246944 : True := trivial
theorem DescLaw.top.tw14450831684398793230 : True := trivial
theorem DescLaw.top.tw3204567096099866981 : True := trivial
theorem DescLaw.top.tw6717158458026597426 : True := trivial
theorem DescLaw.top.tw17442375997432417537 : True := trivial
theorem DescLaw.top.tw18024062023662974519 : True := trivial
theorem DescLaw.top.tw11553968871162596596 : True := trivial
theorem DescLaw.top.tw2099044070011967190 : True := trivial
theorem DescLaw.top.tw1172063004975927832 : True := trivial
theorem DescLaw.top.tw2677150186694574794 : True := trivial
theorem DescLaw.top.tw10850535616641006638 : True := trivial
theorem DescLaw.top.tw14715786200832854156 : True := trivial
theorem DescLaw.top.tw17722807220892496686 : True := trivial
theorem DescLaw.top.tw1938526204263166443 : True := trivial
theorem DescLaw.top.tw14151811749988947837 : True := trivial
theorem DescLaw.top.tw18208809137704525668 : True := trivial
theorem DescLaw.top.tw18359833836894293142 : True := trivial
theorem DescLaw.top.tw18103846939430712298 : True := trivial
theorem DescLaw.top.tw11432051819174300536 : True := trivial
theorem DescLaw.top.tw13470389563883588800 : True := trivial
theorem DescLaw.top.tw16021610466310264233 : True := trivial
theorem DescLaw.top.tw14372661658866665875 : True := trivial
theorem DescLaw.top.tw12163301642775738028 : True := trivial
theorem DescLaw.top.tw7903729984426475677 : True := trivial
theorem DescLaw.top.tw13234183118053417447 : True := trivial
theorem DescLaw.top.tw4539198511402270783 : True := trivial
theorem DescLaw.top.tw6065391152441221046 : True := trivial
theorem DescLaw.top.tw10402062138874646285 : True := trivial
theorem DescLaw.top.tw11534139890573899885 : True := trivial
theorem DescLaw.top.tw7853074835718436039 : True := trivial
theorem DescLaw.top.tw4603014148526099895 : True := trivial
theorem DescLaw.top.tw14592658732677843834 : True := trivial
theorem DescLaw.top.tw3218978281415738665 : True := trivial
theorem DescLaw.top.tw13605606409457604740 : True := trivial
theorem DescLaw.top.tw6758740086831368906 : True := trivial
theorem DescLaw.top.tw7439140884123838399 : True := trivial
theorem DescLaw.top.tw15421097370990911791 : True := trivial
theorem DescLaw.top.tw4871040392337351729 : True := trivial
theorem DescLaw.top.tw3062627548980663600 : True := trivial
theorem DescLaw.top.tw17002670203852265408 : True := trivial
theorem DescLaw.top.tw8315370156466923771 : True := trivial
theorem DescLaw.top.tw16319311292164437926 : True := trivial
theorem DescLaw.top.tw10844675093499811472 : True := trivial
theorem DescLaw.top.tw5192483484800170476 : True := trivial
theorem DescLaw.top.tw10681150410331821887 : True := trivial
theorem DescLaw.top.tw1620517449261185293 : True := trivial
theorem DescLaw.top.tw11309429758481341119 : True := trivial
theorem DescLaw.top.tw3797028244711020841 : True := trivial
theorem DescLaw.top.tw12436735770645569511 : True := trivial
theorem DescLaw.top.tw3600207367843276495 : True := trivial
theorem DescLaw.top.tw8730149517472356593 : True := trivial
theorem DescLaw.top.tw3803491323137351107 : True := trivial
theorem DescLaw.top.tw4687229460830663398 : True := trivial
theorem DescLaw.top.tw6682138875364105392 : True := trivial
theorem DescLaw.top.tw7997473579432128965 : True := trivial
theorem DescLaw.top.tw15413413972649829598 : True := trivial
theorem DescLaw.top.tw1853233581517799210 : True := trivial
theorem DescLaw.top.tw12247045336168870153 : True := trivial
theorem DescLaw.top.tw15413073243134354122 : True := trivial
theorem DescLaw.top.tw10692093342760351491 : True := trivial
theorem DescLaw.top.tw16949838595139213509 : True := trivial
theorem DescLaw.top.tw5844491434260564864 : True := trivial
theorem DescLaw.top.tw7499114205980217211 : True := trivial
theorem DescLaw.top.tw11163844876904557093 : True := trivial
theorem DescLaw.top.tw1956813306937129945 : True := trivial
theorem DescLaw.top.tw17023126717981383863 : True := trivial
theorem DescLaw.top.tw7727180318711305664 : True := trivial
theorem DescLaw.top.tw13682750715893067051 : True := trivial
theorem DescLaw.top.tw918569557201219317 : True := trivial
theorem DescLaw.top.tw10624512580416317546 : True := trivial
theorem DescLaw.top.tw12460487237316616658 : True := trivial
theorem DescLaw.top.tw6877731708711850238 : True := trivial
theorem DescLaw.top.tw11477648932504437030 : True := trivial
theorem DescLaw.top.tw8331873782253042095 : True := trivial
theorem DescLaw.top.tw3282654824908444904 : True := trivial
theorem DescLaw.top.tw9887935309704623549 : True := trivial
theorem DescLaw.top.tw10446865532510454137 : True := trivial
theorem DescLaw.top.tw1376130673112343434 : True := trivial
theorem DescLaw.top.tw15859123161736650442 : True := trivial
theorem DescLaw.top.tw14506112241886398219 : True := trivial
theorem DescLaw.top.tw4159121097856746484 : True := trivial
theorem DescLaw.top.tw14990359157153393247 : True := trivial
theorem DescLaw.top.tw6479562025914677674 : True := trivial
theorem DescLaw.top.tw14725934862855451784 : True := trivial
theorem DescLaw.top.tw17793776441861295366 : True := trivial
theorem DescLaw.top.tw17429660857763647568 : True := trivial
theorem DescLaw.top.tw3976067105484432923 : True := trivial
theorem DescLaw.top.tw6623874843129427597 : True := trivial
theorem DescLaw.top.tw6881379538245883241 : True := trivial
theorem DescLaw.top.tw12633986087929634757 : True := trivial
theorem DescLaw.top.tw4144862384484670537 : True := trivial
theorem DescLaw.top.tw14569178650345690623 : True := trivial
theorem DescLaw.top.tw5130246006344425990 : True := trivial
theorem DescLaw.top.tw5618395032191054366 : True := trivial
theorem DescLaw.top.tw11081073969863958600 : True := trivial
theorem DescLaw.top.tw18289172042766090742 : True := trivial
theorem DescLaw.top.tw7179158951462764246 : True := trivial
theorem DescLaw.top.tw8409738971140300756 : True := trivial
theorem DescLaw.top.tw4490703893782210789 : True := trivial
theorem DescLaw.top.tw11912073518028732259 : True := trivial
theorem DescLaw.top.tw1486391608925114889 : True := trivial
theorem DescLaw.top.tw1826843603980433159 : True := trivial
theorem DescLaw.top.tw8000315514570211812 : True := trivial
theorem DescLaw.top.tw11182083509769871806 : True := trivial
theorem DescLaw.top.tw13146129324429246495 : True := trivial
theorem DescLaw.top.tw12825275382527038291 : True := trivial
theorem DescLaw.top.tw6871996211671269190 : True := trivial
theorem DescLaw.top.tw17882058300383455676 : True := trivial
theorem DescLaw.top.tw2311711494124364454 : True := trivial
theorem DescLaw.top.tw3367567901097894189 : True := trivial
theorem DescLaw.top.tw9166820773637800258 : True := trivial
theorem DescLaw.top.tw16806509784964888522 : True := trivial
theorem DescLaw.top.tw17152004852646655858 : True := trivial
theorem DescLaw.top.tw133985789394453915 : True := trivial
theorem DescLaw.top.tw1804673801283047388 : True := trivial
theorem DescLaw.top.tw6897910087388625903 : True := trivial
theorem DescLaw.top.tw11049164950729155338 : True := trivial
theorem DescLaw.top.tw5771127570442368058 : True := trivial
theorem DescLaw.top.tw16949901731993396455 : True := trivial
theorem DescLaw.top.tw11014148495022354462 : True := trivial
theorem DescLaw.top.tw274275692929493731 : True := trivial
theorem DescLaw.top.tw8249391683091861445 : True := trivial
theorem DescLaw.top.tw13057562281003730944 : True := trivial
theorem DescLaw.top.tw17360091928191865641 : True := trivial
theorem DescLaw.top.tw14539269616649364510 : True := trivial
theorem DescLaw.top.tw9779873626733763358 : True := trivial
theorem DescLaw.top.tw18244927135238584244 : True := trivial
theorem DescLaw.top.tw8184381419472173063 : True := trivial
theorem DescLaw.top.tw18058699948796374866 : True := trivial
theorem DescLaw.top.tw2548409852148551960 : True := trivial
theorem DescLaw.top.tw10078448398092390239 : True := trivial
theorem DescLaw.top.tw1429963532854800261 : True := trivial
theorem DescLaw.top.tw12038125980503727180 : True := trivial
theorem DescLaw.top.tw4776022312731610290 : True := trivial
theorem DescLaw.top.tw12162403540946407562 : True := trivial
theorem DescLaw.top.tw9539346218438120361 : True := trivial
theorem DescLaw.top.tw13361938145445489876 : True := trivial
theorem DescLaw.top.tw8439524243942795015 : True := trivial
theorem DescLaw.top.tw753267831963881482 : True := trivial
theorem DescLaw.top.tw6789680103885492422 : True := trivial
theorem DescLaw.top.tw8975659133291832508 : True := trivial
theorem DescLaw.top.tw14553152757138828412 : True := trivial
theorem DescLaw.top.tw15815439683372855401 : True := trivial
theorem DescLaw.top.tw4195057380981067162 : True := trivial
theorem DescLaw.top.tw17076228946221803571 : True := trivial
theorem DescLaw.top.tw1104796195596693805 : True := trivial
theorem DescLaw.top.tw13546634876551262779 : True := trivial
theorem DescLaw.top.tw17793967218095297407 : True := trivial
theorem DescLaw.top.tw14186329505678288906 : True := trivial
theorem DescLaw.top.tw7603090134137841175 : True := trivial
theorem DescLaw.top.tw2627176595052445206 : True := trivial
theorem DescLaw.top.tw2199385108789143698 : True := trivial
theorem DescLaw.top.tw13858527048557758241 : True := trivial
theorem DescLaw.top.tw12566656700435558916 : True := trivial
theorem DescLaw.top.tw7120285358448358331 : True := trivial
theorem DescLaw.top.tw9964163796214196111 : True := trivial
theorem DescLaw.top.tw8352706336117880251 : True := trivial
theorem DescLaw.top.tw6512836961791949022 : True := trivial
theorem DescLaw.top.tw13964841156924723687 : True := trivial
theorem DescLaw.top.tw4971739701059070008 : True := trivial
theorem DescLaw.top.tw16045053374427062081 : True := trivial
theorem DescLaw.top.tw8282199358437824031 : True := trivial
theorem DescLaw.top.tw17167213042854658357 : True := trivial
theorem DescLaw.top.tw11089904735847000108 : True := trivial
theorem DescLaw.top.tw17951108301091779722 : True := trivial
theorem DescLaw.top.tw10855101584326956217 : True := trivial
theorem DescLaw.top.tw12732887614824117630 : True := trivial
theorem DescLaw.top.tw8420584375724510633 : True := trivial
theorem DescLaw.top.tw13078418795052782813 : True := trivial
theorem DescLaw.top.tw84316848919535436 : True := trivial
theorem DescLaw.top.tw1900616032699079293 : True := trivial
theorem DescLaw.top.tw1549896405492058860 : True := trivial
set_option maxHeartbeats 0 in
theorem DescLaw.top : PySem.Challenge.rw_eq0019_01.Holds := by
  w_on; o_law; o_head (kHook DescLaw.K2 DescLaw.as2 DescLaw.as2_ok); (case hw => w_witness2)
  k_fill
  intro w s₀ s₁ mg mb G Y fa o pm cd doc dV kV ho hd hcd hD hmg hg args vals as hpre hlay hrd hwl hlo
  have KX := kIn_of Y
  refine Ground.open G ?_
  intro T B D TE TW
  try (refine guard_noD D (by decide +kernel) ?_; clear D)
  obtain ⟨_, _, M⟩ := bmod_of_top T
  have TA := at_of_top T
  try (obtain ⟨_, _, he, B0⟩ := based_of_top T rfl hmg ho hd; have he' : cd = _ := he; subst he'; clear he)
  clear hmg
  wrow_args hpre hlay hrd hwl hlo
  all_goals first | refine callC_kw (enter_call ?_) | refine enter_call ?_
  all_goals w_top on
  all_goals have K0 := below_caller (Top.heap T)
  all_goals w_call any ho hd hcd hD T F
  all_goals refine DescLaw.law_top' KX (by kernel_rfl) (by kernel_rfl) (by kernel_rfl) (by kernel_rfl) (Top.g T) (Top.b T) (Top.builtins T) (Top.nolimit T) (Top.nodigits T) hg F rfl (by assumption) (by assumption) (by omega) fun s' hK hos hgs => ?_
  all_goals exact DescLaw.law_good (by kernel_rfl) (by kernel_rfl) hK hos hgs
end
theorem PySem.Challenge.cw_eq0019_01_holds : PySem.Challenge.rw_eq0019_01.Holds :=
  DescLaw.top
