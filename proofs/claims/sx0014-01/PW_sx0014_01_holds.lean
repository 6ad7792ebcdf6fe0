import PyProof.Rows.All
import Wide.All
import OpenK.AllK
import Wide.FinOn
import PySem.Challenge.RW_sx0014_01
open PySem PySem.W PyProof.Rows
set_option Elab.async false
set_option linter.unusedVariables false
set_option maxRecDepth 100000

namespace Mine
abbrev pw : Program := PySem.Challenge.pw_sx0014_01

def nth : List Stmt → Nat → Stmt
  | [], _ => .Pass default
  | s :: _, 0 => s
  | _ :: r, n + 1 => nth r n
def inner : Stmt → List Stmt
  | .ClassDef _ _ _ b _ _ _ _ _ _ _ => b
  | .FunctionDef _ _ b _ _ _ _ _ _ _ => b
  | _ => []
def stAt : List Stmt → List Nat → Stmt
  | _, [] => .Pass default
  | l, [i] => nth l i
  | l, i :: r => stAt (inner (nth l i)) r
def fnBody : Stmt → List Stmt
  | .FunctionDef _ _ b _ _ _ _ _ _ _ => b
  | _ => []
def fnParams : Stmt → Arguments
  | .FunctionDef _ a _ _ _ _ _ _ _ _ => a
  | _ => ⟨[], [], none, [], [], none, []⟩
def fnScope : Stmt → Scope
  | .FunctionDef _ _ _ _ _ _ sc _ _ _ => sc
  | _ => default
def fnName : Stmt → Str
  | .FunctionDef n _ _ _ _ _ _ _ _ _ => n
  | .ClassDef n _ _ _ _ _ _ _ _ _ _ => n
  | _ => Str.empty
abbrev fAt (p : List Nat) : Stmt := stAt pw.main.body p

def qv : Program := view pw [47]
def looseNames : List Str := pw.boundNames.filter fun n => n != ("law" : Str)
def o_1 (P : Params) : Obj := ⟨(.type "dict"), none, (.dict [⟨(PyData.keyHash P (Str.ofString "builtins")), (.str (Str.ofString "builtins") 162), (.ref 4)⟩, ⟨(PyData.keyHash P (Str.ofString "__main__")), (.str (Str.ofString "__main__") 163), (.ref 5)⟩, ⟨(PyData.keyHash P (Str.ofString "_collections")), (.str (Str.ofString "_collections") 246), (.ref 13)⟩].toArray 3), [].toArray⟩
def o_2 (P : Params) : Obj := ⟨.none, none, (.dict [⟨(PyData.keyHash P (Str.ofString "\x69mport.loaded._collections")), (.str (Str.ofString "\x69mport.loaded._collections") 185), (.bool true)⟩, ⟨(PyData.keyHash P (Str.ofString "class._frozen_importlib.BuiltinImporter")), (.str (Str.ofString "class._frozen_importlib.BuiltinImporter") 187), (.ref 15)⟩, ⟨(PyData.keyHash P (Str.ofString "watched.\x69mport")), (.str (Str.ofString "watched.\x69mport") 208), (.ref 19)⟩, ⟨(PyData.keyHash P (Str.ofString "class._frozen_importlib.ModuleSpec")), (.str (Str.ofString "class._frozen_importlib.ModuleSpec") 218), (.ref 23)⟩, ⟨(PyData.keyHash P (Str.ofString "sys.modules.booked-epoch")), (.str (Str.ofString "sys.modules.booked-epoch") 247), (.int (3) 0)⟩, ⟨(PyData.keyHash P (Str.ofString "sys.modules.landed._collections")), (.str (Str.ofString "sys.modules.landed._collections") 248), (.bool true)⟩, ⟨(PyData.keyHash P (Str.ofString "\x69mport.later-laid._collections")), (.str (Str.ofString "\x69mport.later-laid._collections") 263), (.bool true)⟩, ⟨(PyData.keyHash P (Str.ofString "watched.library")), (.str (Str.ofString "watched.library") 265), (.ref 28)⟩, ⟨(PyData.keyHash P (Str.ofString "watched.library-objects")), (.str (Str.ofString "watched.library-objects") 0), (.str (Str.ofString "\x0d") 0)⟩, ⟨(PyData.keyHash P (Str.ofString "watched.library-deep._collections")), (.str (Str.ofString "watched.library-deep._collections") 266), (.str (Str.ofString "\x04\x00\x00\x0c\x04\x00\x00\x0c\x04\x00\x00\x03\x04\x00\x00\x0c\x08\x04dict\x02") 0)⟩].toArray 10), [].toArray⟩
def o_3 (P : Params) : Obj := ⟨(.type "dict"), none, (.dict [⟨(PyData.keyHash P (Str.ofString "__name__")), (.str (Str.ofString "__name__") 165), (.str (Str.ofString "law_sx0014_01") 2069)⟩, ⟨(PyData.keyHash P (Str.ofString "__doc__")), (.str (Str.ofString "__doc__") 166), .none⟩, ⟨(PyData.keyHash P (Str.ofString "__package__")), (.str (Str.ofString "__package__") 167), .none⟩, ⟨(PyData.keyHash P (Str.ofString "__loader__")), (.str (Str.ofString "__loader__") 168), (.builtin "__main__.__loader__#opaque")⟩, ⟨(PyData.keyHash P (Str.ofString "__spec__")), (.str (Str.ofString "__spec__") 169), .none⟩, ⟨(PyData.keyHash P (Str.ofString "__annotations__")), (.str (Str.ofString "__annotations__") 170), (.ref 6)⟩, ⟨(PyData.keyHash P (Str.ofString "__builtins__")), (.str (Str.ofString "__builtins__") 171), (.ref 4)⟩, ⟨(PyData.keyHash P (Str.ofString "__file__")), (.str (Str.ofString "__file__") 173), (.str (Str.ofString "/claim/cut.py") 172)⟩, ⟨(PyData.keyHash P (Str.ofString "__cached__")), (.str (Str.ofString "__cached__") 174), .none⟩, ⟨(PyData.keyHash P (Str.ofString "deque")), (.str (Str.ofString "deque") 272), (.type "collections.deque")⟩, ⟨(PyData.keyHash P (Str.ofString "_wall")), (.str (Str.ofString "_wall") 285), (.ref 39)⟩, ⟨(PyData.keyHash P (Str.ofString "_pe_dict")), (.str (Str.ofString "_pe_dict") 293), (.ref 46)⟩, ⟨(PyData.keyHash P (Str.ofString "_pe_name")), (.str (Str.ofString "_pe_name") 300), (.ref 53)⟩, ⟨(PyData.keyHash P (Str.ofString "ABCMeta")), (.str (Str.ofString "ABCMeta") 326), (.ref 70)⟩, ⟨(PyData.keyHash P (Str.ofString "_ABCLike")), (.str (Str.ofString "_ABCLike") 369), (.ref 103)⟩, ⟨(PyData.keyHash P (Str.ofString "_abc_plain_meta")), (.str (Str.ofString "_abc_plain_meta") 376), (.ref 112)⟩, ⟨(PyData.keyHash P (Str.ofString "_abc_has_iter")), (.str (Str.ofString "_abc_has_iter") 383), (.ref 119)⟩, ⟨(PyData.keyHash P (Str.ofString "_abc_has_len")), (.str (Str.ofString "_abc_has_len") 390), (.ref 126)⟩, ⟨(PyData.keyHash P (Str.ofString "_abc_has_contains")), (.str (Str.ofString "_abc_has_contains") 397), (.ref 133)⟩, ⟨(PyData.keyHash P (Str.ofString "_abc_is_mappingproxy")), (.str (Str.ofString "_abc_is_mappingproxy") 404), (.ref 140)⟩, ⟨(PyData.keyHash P (Str.ofString "_abc_is_builtin_collection")), (.str (Str.ofString "_abc_is_builtin_collection") 411), (.ref 147)⟩, ⟨(PyData.keyHash P (Str.ofString "Iterable")), (.str (Str.ofString "Iterable") 452), (.ref 180)⟩, ⟨(PyData.keyHash P (Str.ofString "Sized")), (.str (Str.ofString "Sized") 489), (.ref 210)⟩, ⟨(PyData.keyHash P (Str.ofString "Container")), (.str (Str.ofString "Container") 536), (.ref 246)⟩, ⟨(PyData.keyHash P (Str.ofString "Collection")), (.str (Str.ofString "Collection") 566), (.ref 269)⟩, ⟨(PyData.keyHash P (Str.ofString "Set")), (.str (Str.ofString "Set") 723), (.ref 385)⟩, ⟨(PyData.keyHash P (Str.ofString "Mapping")), (.str (Str.ofString "Mapping") 811), (.ref 457)⟩, ⟨(PyData.keyHash P (Str.ofString "MappingView")), (.str (Str.ofString "MappingView") 879), (.ref 507)⟩, ⟨(PyData.keyHash P (Str.ofString "KeysView")), (.str (Str.ofString "KeysView") 939), (.ref 554)⟩, ⟨(PyData.keyHash P (Str.ofString "ItemsView")), (.str (Str.ofString "ItemsView") 1003), (.ref 599)⟩, ⟨(PyData.keyHash P (Str.ofString "ValuesView")), (.str (Str.ofString "ValuesView") 1046), (.ref 634)⟩, ⟨(PyData.keyHash P (Str.ofString "MutableMapping")), (.str (Str.ofString "MutableMapping") 1135), (.ref 709)⟩, ⟨(PyData.keyHash P (Str.ofString "Cache")), (.str (Str.ofString "Cache") 1321), (.ref 844)⟩, ⟨(PyData.keyHash P (Str.ofString "FIFOCache")), (.str (Str.ofString "FIFOCache") 1384), (.ref 896)⟩, ⟨(PyData.keyHash P (Str.ofString "LFUCache")), (.str (Str.ofString "LFUCache") 1523), (.ref 993)⟩, ⟨(PyData.keyHash P (Str.ofString "LRUCache")), (.str (Str.ofString "LRUCache") 1605), (.ref 1058)⟩, ⟨(PyData.keyHash P (Str.ofString "RRCache")), (.str (Str.ofString "RRCache") 1682), (.ref 1116)⟩, ⟨(PyData.keyHash P (Str.ofString "_TimedCache")), (.str (Str.ofString "_TimedCache") 1859), (.ref 1262)⟩, ⟨(PyData.keyHash P (Str.ofString "monotonic")), (.str (Str.ofString "monotonic") 1869), (.ref 1271)⟩, ⟨(PyData.keyHash P (Str.ofString "TTLCache")), (.str (Str.ofString "TTLCache") 2068), (.ref 1404)⟩, ⟨(PyData.keyHash P (Str.ofString "_law_at")), (.str (Str.ofString "_law_at") 2079), (.ref 1413)⟩, ⟨(PyData.keyHash P (Str.ofString "_law_line")), (.str (Str.ofString "_law_line") 2090), (.ref 1420)⟩, ⟨(PyData.keyHash P (Str.ofString "_law_next")), (.str (Str.ofString "_law_next") 2096), (.ref 1425)⟩, ⟨(PyData.keyHash P (Str.ofString "law")), (.str (Str.ofString "law") 2102), (.ref 1430)⟩].toArray 44), [].toArray⟩
def o_4 (P : Params) : Obj := ⟨(.type "module"), (some 0), .plain, [].toArray⟩
def o_69 (P : Params) : Obj := ⟨(.type "dict"), none, (.dict [⟨(PyData.keyHash P (Str.ofString "__module__")), (.str (Str.ofString "__module__") 310), (.str (Str.ofString "abc") 301)⟩, ⟨(PyData.keyHash P (Str.ofString "__firstlineno__")), (.str (Str.ofString "__firstlineno__") 314), (.int (15) 313)⟩, ⟨(PyData.keyHash P (Str.ofString "register")), (.str (Str.ofString "register") 322), (.ref 67)⟩, ⟨(PyData.keyHash P (Str.ofString "__static_attributes__")), (.str (Str.ofString "__static_attributes__") 323), (.ref 68)⟩, ⟨(PyData.keyHash P (Str.ofString "__doc__")), (.str (Str.ofString "__doc__") 324), .none⟩].toArray 2), [].toArray⟩
def o_70 (P : Params) : Obj := ⟨(.type "type"), none, (.cls ⟨(Str.ofString "ABCMeta"), [(.type "type")], [(.ref 70), (.type "type"), (.type "object")], 69, (Str.ofString "ABCMeta"), true, [], [(.ref 103)], false, none, false⟩), [(some (.ref 54)), none, (some (.str (Str.ofString "ABCMeta") 303)), (some (.str (Str.ofString "ABCMeta") 311)), (some (.builtin "type.__new__")), (some (.bool true))].toArray⟩
def o_102 (P : Params) : Obj := ⟨(.type "dict"), none, (.dict [⟨(PyData.keyHash P (Str.ofString "__module__")), (.str (Str.ofString "__module__") 336), (.str (Str.ofString "collections.abc") 327)⟩, ⟨(PyData.keyHash P (Str.ofString "__firstlineno__")), (.str (Str.ofString "__firstlineno__") 340), (.int (20) 339)⟩, ⟨(PyData.keyHash P (Str.ofString "__instancecheck__")), (.str (Str.ofString "__instancecheck__") 349), (.ref 86)⟩, ⟨(PyData.keyHash P (Str.ofString "__subclasscheck__")), (.str (Str.ofString "__subclasscheck__") 357), (.ref 93)⟩, ⟨(PyData.keyHash P (Str.ofString "register")), (.str (Str.ofString "register") 365), (.ref 100)⟩, ⟨(PyData.keyHash P (Str.ofString "__static_attributes__")), (.str (Str.ofString "__static_attributes__") 366), (.ref 101)⟩, ⟨(PyData.keyHash P (Str.ofString "__doc__")), (.str (Str.ofString "__doc__") 367), .none⟩].toArray 2), [].toArray⟩
def o_103 (P : Params) : Obj := ⟨(.type "type"), none, (.cls ⟨(Str.ofString "_ABCLike"), [(.ref 70)], [(.ref 103), (.ref 70), (.type "type"), (.type "object")], 102, (Str.ofString "_ABCLike"), true, [], [], false, none, false⟩), [(some (.ref 73)), none, (some (.str (Str.ofString "_ABCLike") 329)), (some (.str (Str.ofString "_ABCLike") 337)), (some (.builtin "type.__new__")), (some (.bool true))].toArray⟩
def o_179 (P : Params) : Obj := ⟨(.type "dict"), none, (.dict [⟨(PyData.keyHash P (Str.ofString "__module__")), (.str (Str.ofString "__module__") 419), (.str (Str.ofString "collections.abc") 327)⟩, ⟨(PyData.keyHash P (Str.ofString "__firstlineno__")), (.str (Str.ofString "__firstlineno__") 423), (.int (51) 422)⟩, ⟨(PyData.keyHash P (Str.ofString "__slots__")), (.str (Str.ofString "__slots__") 424), (.ref 155)⟩, ⟨(PyData.keyHash P (Str.ofString "__iter__")), (.str (Str.ofString "__iter__") 431), (.ref 162)⟩, ⟨(PyData.keyHash P (Str.ofString "_abc_kind")), (.str (Str.ofString "_abc_kind") 439), (.ref 169)⟩, ⟨(PyData.keyHash P (Str.ofString "__class_getitem__")), (.str (Str.ofString "__class_getitem__") 447), (.ref 181)⟩, ⟨(PyData.keyHash P (Str.ofString "__static_attributes__")), (.str (Str.ofString "__static_attributes__") 448), (.ref 177)⟩, ⟨(PyData.keyHash P (Str.ofString "__doc__")), (.str (Str.ofString "__doc__") 450), .none⟩, ⟨(PyData.keyHash P (Str.ofString "__abstractmethods__")), (.str (Str.ofString "__abstractmethods__") 457), (.ref 184)⟩].toArray 3), [].toArray⟩
def o_180 (P : Params) : Obj := ⟨(.ref 103), none, (.cls ⟨(Str.ofString "Iterable"), [(.type "object")], [(.ref 180), (.type "object")], 179, (Str.ofString "Iterable"), false, [], [(.ref 269)], true, none, false⟩), [none, none, (some (.str (Str.ofString "Iterable") 412)), (some (.str (Str.ofString "Iterable") 420)), (some (.builtin "object.__new__")), (some (.bool false))].toArray⟩
def o_209 (P : Params) : Obj := ⟨(.type "dict"), none, (.dict [⟨(PyData.keyHash P (Str.ofString "__module__")), (.str (Str.ofString "__module__") 465), (.str (Str.ofString "collections.abc") 327)⟩, ⟨(PyData.keyHash P (Str.ofString "__firstlineno__")), (.str (Str.ofString "__firstlineno__") 469), (.int (67) 468)⟩, ⟨(PyData.keyHash P (Str.ofString "__slots__")), (.str (Str.ofString "__slots__") 470), (.ref 192)⟩, ⟨(PyData.keyHash P (Str.ofString "__len__")), (.str (Str.ofString "__len__") 477), (.ref 199)⟩, ⟨(PyData.keyHash P (Str.ofString "_abc_kind")), (.str (Str.ofString "_abc_kind") 485), (.ref 206)⟩, ⟨(PyData.keyHash P (Str.ofString "__static_attributes__")), (.str (Str.ofString "__static_attributes__") 486), (.ref 207)⟩, ⟨(PyData.keyHash P (Str.ofString "__doc__")), (.str (Str.ofString "__doc__") 487), .none⟩, ⟨(PyData.keyHash P (Str.ofString "__abstractmethods__")), (.str (Str.ofString "__abstractmethods__") 494), (.ref 213)⟩].toArray 3), [].toArray⟩
def o_210 (P : Params) : Obj := ⟨(.ref 103), none, (.cls ⟨(Str.ofString "Sized"), [(.type "object")], [(.ref 210), (.type "object")], 209, (Str.ofString "Sized"), false, [], [(.ref 269), (.ref 507)], true, none, false⟩), [none, none, (some (.str (Str.ofString "Sized") 458)), (some (.str (Str.ofString "Sized") 466)), (some (.builtin "object.__new__")), (some (.bool false))].toArray⟩
def o_245 (P : Params) : Obj := ⟨(.type "dict"), none, (.dict [⟨(PyData.keyHash P (Str.ofString "__module__")), (.str (Str.ofString "__module__") 502), (.str (Str.ofString "collections.abc") 327)⟩, ⟨(PyData.keyHash P (Str.ofString "__firstlineno__")), (.str (Str.ofString "__firstlineno__") 506), (.int (79) 505)⟩, ⟨(PyData.keyHash P (Str.ofString "__slots__")), (.str (Str.ofString "__slots__") 507), (.ref 221)⟩, ⟨(PyData.keyHash P (Str.ofString "__contains__")), (.str (Str.ofString "__contains__") 515), (.ref 228)⟩, ⟨(PyData.keyHash P (Str.ofString "_abc_kind")), (.str (Str.ofString "_abc_kind") 523), (.ref 235)⟩, ⟨(PyData.keyHash P (Str.ofString "__class_getitem__")), (.str (Str.ofString "__class_getitem__") 531), (.ref 247)⟩, ⟨(PyData.keyHash P (Str.ofString "__static_attributes__")), (.str (Str.ofString "__static_attributes__") 532), (.ref 243)⟩, ⟨(PyData.keyHash P (Str.ofString "__doc__")), (.str (Str.ofString "__doc__") 534), .none⟩, ⟨(PyData.keyHash P (Str.ofString "__abstractmethods__")), (.str (Str.ofString "__abstractmethods__") 541), (.ref 250)⟩].toArray 3), [].toArray⟩
def o_246 (P : Params) : Obj := ⟨(.ref 103), none, (.cls ⟨(Str.ofString "Container"), [(.type "object")], [(.ref 246), (.type "object")], 245, (Str.ofString "Container"), false, [], [(.ref 269)], true, none, false⟩), [none, none, (some (.str (Str.ofString "Container") 495)), (some (.str (Str.ofString "Container") 503)), (some (.builtin "object.__new__")), (some (.bool false))].toArray⟩
def o_268 (P : Params) : Obj := ⟨(.type "dict"), none, (.dict [⟨(PyData.keyHash P (Str.ofString "__module__")), (.str (Str.ofString "__module__") 549), (.str (Str.ofString "collections.abc") 327)⟩, ⟨(PyData.keyHash P (Str.ofString "__firstlineno__")), (.str (Str.ofString "__firstlineno__") 553), (.int (94) 552)⟩, ⟨(PyData.keyHash P (Str.ofString "__slots__")), (.str (Str.ofString "__slots__") 554), (.ref 258)⟩, ⟨(PyData.keyHash P (Str.ofString "_abc_kind")), (.str (Str.ofString "_abc_kind") 562), (.ref 265)⟩, ⟨(PyData.keyHash P (Str.ofString "__static_attributes__")), (.str (Str.ofString "__static_attributes__") 563), (.ref 266)⟩, ⟨(PyData.keyHash P (Str.ofString "__doc__")), (.str (Str.ofString "__doc__") 564), .none⟩, ⟨(PyData.keyHash P (Str.ofString "__abstractmethods__")), (.str (Str.ofString "__abstractmethods__") 573), (.ref 272)⟩].toArray 3), [].toArray⟩
def o_269 (P : Params) : Obj := ⟨(.ref 103), none, (.cls ⟨(Str.ofString "Collection"), [(.ref 210), (.ref 180), (.ref 246)], [(.ref 269), (.ref 210), (.ref 180), (.ref 246), (.type "object")], 268, (Str.ofString "Collection"), false, [], [(.ref 385), (.ref 457), (.ref 634)], true, none, false⟩), [(some (.ref 251)), none, (some (.str (Str.ofString "Collection") 542)), (some (.str (Str.ofString "Collection") 550)), (some (.builtin "object.__new__")), (some (.bool false))].toArray⟩
def o_456 (P : Params) : Obj := ⟨(.type "dict"), none, (.dict [⟨(PyData.keyHash P (Str.ofString "__module__")), (.str (Str.ofString "__module__") 738), (.str (Str.ofString "collections.abc") 327)⟩, ⟨(PyData.keyHash P (Str.ofString "__firstlineno__")), (.str (Str.ofString "__firstlineno__") 742), (.int (194) 741)⟩, ⟨(PyData.keyHash P (Str.ofString "__slots__")), (.str (Str.ofString "__slots__") 743), (.ref 396)⟩, ⟨(PyData.keyHash P (Str.ofString "__getitem__")), (.str (Str.ofString "__getitem__") 751), (.ref 403)⟩, ⟨(PyData.keyHash P (Str.ofString "get")), (.str (Str.ofString "get") 760), (.ref 411)⟩, ⟨(PyData.keyHash P (Str.ofString "__contains__")), (.str (Str.ofString "__contains__") 768), (.ref 418)⟩, ⟨(PyData.keyHash P (Str.ofString "keys")), (.str (Str.ofString "keys") 775), (.ref 425)⟩, ⟨(PyData.keyHash P (Str.ofString "items")), (.str (Str.ofString "items") 782), (.ref 432)⟩, ⟨(PyData.keyHash P (Str.ofString "values")), (.str (Str.ofString "values") 789), (.ref 439)⟩, ⟨(PyData.keyHash P (Str.ofString "__eq__")), (.str (Str.ofString "__eq__") 797), (.ref 446)⟩, ⟨(PyData.keyHash P (Str.ofString "__reversed__")), (.str (Str.ofString "__reversed__") 798), .none⟩, ⟨(PyData.keyHash P (Str.ofString "_abc_kind")), (.str (Str.ofString "_abc_kind") 806), (.ref 453)⟩, ⟨(PyData.keyHash P (Str.ofString "__static_attributes__")), (.str (Str.ofString "__static_attributes__") 807), (.ref 454)⟩, ⟨(PyData.keyHash P (Str.ofString "__doc__")), (.str (Str.ofString "__doc__") 808), .none⟩, ⟨(PyData.keyHash P (Str.ofString "__hash__")), (.str (Str.ofString "__hash__") 809), .none⟩, ⟨(PyData.keyHash P (Str.ofString "__abstractmethods__")), (.str (Str.ofString "__abstractmethods__") 818), (.ref 460)⟩].toArray 4), [].toArray⟩
def o_457 (P : Params) : Obj := ⟨(.ref 103), none, (.cls ⟨(Str.ofString "Mapping"), [(.ref 269)], [(.ref 457), (.ref 269), (.ref 210), (.ref 180), (.ref 246), (.type "object")], 456, (Str.ofString "Mapping"), false, [], [(.ref 709)], true, none, false⟩), [(some (.ref 389)), none, (some (.str (Str.ofString "Mapping") 731)), (some (.str (Str.ofString "Mapping") 739)), (some (.builtin "object.__new__")), (some (.bool false))].toArray⟩
def o_659 (P : Params) : Obj := ⟨(.type "object"), none, .plain, [].toArray⟩
def o_673 (P : Params) : Obj := ⟨(.type "code"), none, (.fields [(.str (Str.ofString "popitem") 1088), (.str (Str.ofString "MutableMapping.popitem") 1089), (.str (Str.ofString "/claim/cut.py") 1090), (.int (339) 0), (.int (1) 0), (.int (0) 0), (.int (0) 0), (.int (3) 0), (.ref 668), (.bool true), (.int (273) 0), (.ref 669), .none, (.ref 670), (.ref 671), (.ref 672), (.int (1094) 0), (.int (339) 0), (.str (Str.ofString "/claim/cut.py") 1095)].toArray), [].toArray⟩
def o_674 (P : Params) : Obj := ⟨(.type "function"), none, (.func ⟨(Str.ofString "popitem"), (Str.ofString "MutableMapping.popitem"), fnParams (fAt [30, 5]), .stmts (fnBody (fAt [30, 5])), fnScope (fAt [30, 5]), 3, [], .none, .none, .none, (.str (Str.ofString "collections.abc") 327), none, (.ref 673), .none, 0⟩), [].toArray⟩
def o_708 (P : Params) : Obj := ⟨(.type "dict"), none, (.dict [⟨(PyData.keyHash P (Str.ofString "__module__")), (.str (Str.ofString "__module__") 1054), (.str (Str.ofString "collections.abc") 327)⟩, ⟨(PyData.keyHash P (Str.ofString "__firstlineno__")), (.str (Str.ofString "__firstlineno__") 1058), (.int (318) 1057)⟩, ⟨(PyData.keyHash P (Str.ofString "__slots__")), (.str (Str.ofString "__slots__") 1059), (.ref 644)⟩, ⟨(PyData.keyHash P (Str.ofString "__setitem__")), (.str (Str.ofString "__setitem__") 1068), (.ref 651)⟩, ⟨(PyData.keyHash P (Str.ofString "__delitem__")), (.str (Str.ofString "__delitem__") 1076), (.ref 658)⟩, ⟨(PyData.keyHash P (Str.ofString "_MutableMapping__marker")), (.str (Str.ofString "_MutableMapping__marker") 1077), (.ref 659)⟩, ⟨(PyData.keyHash P (Str.ofString "pop")), (.str (Str.ofString "pop") 1087), (.ref 667)⟩, ⟨(PyData.keyHash P (Str.ofString "popitem")), (.str (Str.ofString "popitem") 1096), (.ref 674)⟩, ⟨(PyData.keyHash P (Str.ofString "clear")), (.str (Str.ofString "clear") 1103), (.ref 681)⟩, ⟨(PyData.keyHash P (Str.ofString "update")), (.str (Str.ofString "update") 1114), (.ref 690)⟩, ⟨(PyData.keyHash P (Str.ofString "setdefault")), (.str (Str.ofString "setdefault") 1123), (.ref 698)⟩, ⟨(PyData.keyHash P (Str.ofString "_abc_kind")), (.str (Str.ofString "_abc_kind") 1131), (.ref 705)⟩, ⟨(PyData.keyHash P (Str.ofString "__static_attributes__")), (.str (Str.ofString "__static_attributes__") 1132), (.ref 706)⟩, ⟨(PyData.keyHash P (Str.ofString "__doc__")), (.str (Str.ofString "__doc__") 1133), .none⟩, ⟨(PyData.keyHash P (Str.ofString "__abstractmethods__")), (.str (Str.ofString "__abstractmethods__") 1144), (.ref 712)⟩].toArray 3), [].toArray⟩
def o_709 (P : Params) : Obj := ⟨(.ref 103), none, (.cls ⟨(Str.ofString "MutableMapping"), [(.ref 457)], [(.ref 709), (.ref 457), (.ref 269), (.ref 210), (.ref 180), (.ref 246), (.type "object")], 708, (Str.ofString "MutableMapping"), false, [], [(.ref 844)], true, none, false⟩), [(some (.ref 637)), none, (some (.str (Str.ofString "MutableMapping") 1047)), (some (.str (Str.ofString "MutableMapping") 1055)), (some (.builtin "object.__new__")), (some (.bool false))].toArray⟩
def o_720 (P : Params) : Obj := ⟨(.type "object"), none, .plain, [].toArray⟩
def o_721 (P : Params) : Obj := ⟨(.type "tuple"), none, (.seq [.none].toArray 0), [].toArray⟩
def o_727 (P : Params) : Obj := ⟨(.type "code"), none, (.fields [(.str (Str.ofString "__init__") 1161), (.str (Str.ofString "Cache.__init__") 1162), (.str (Str.ofString "/claim/cut.py") 1163), (.int (378) 0), (.int (3) 0), (.int (0) 0), (.int (0) 0), (.int (3) 0), (.ref 722), (.bool true), (.int (273) 0), (.ref 723), .none, (.ref 724), (.ref 725), (.ref 726), (.int (1167) 0), (.int (378) 0), (.str (Str.ofString "/claim/cut.py") 1168)].toArray), [].toArray⟩
def o_728 (P : Params) : Obj := ⟨(.type "function"), none, (.func ⟨(Str.ofString "__init__"), (Str.ofString "Cache.__init__"), fnParams (fAt [33, 2]), .stmts (fnBody (fAt [33, 2])), fnScope (fAt [33, 2]), 3, [], (.ref 721), .none, .none, (.str (Str.ofString "cachetools") 1145), none, (.ref 727), .none, 0⟩), [].toArray⟩
def o_741 (P : Params) : Obj := ⟨(.type "code"), none, (.fields [(.str (Str.ofString "__getitem__") 1177), (.str (Str.ofString "Cache.__getitem__") 1178), (.str (Str.ofString "/claim/cut.py") 1179), (.int (392) 0), (.int (2) 0), (.int (0) 0), (.int (0) 0), (.int (3) 0), (.ref 736), (.bool true), (.int (273) 0), (.ref 737), .none, (.ref 738), (.ref 739), (.ref 740), (.int (1182) 0), (.int (392) 0), (.str (Str.ofString "/claim/cut.py") 1183)].toArray), [].toArray⟩
def o_742 (P : Params) : Obj := ⟨(.type "function"), none, (.func ⟨(Str.ofString "__getitem__"), (Str.ofString "Cache.__getitem__"), fnParams (fAt [33, 4]), .stmts (fnBody (fAt [33, 4])), fnScope (fAt [33, 4]), 3, [], .none, .none, .none, (.str (Str.ofString "cachetools") 1145), none, (.ref 741), .none, 0⟩), [].toArray⟩
def o_748 (P : Params) : Obj := ⟨(.type "code"), none, (.fields [(.str (Str.ofString "__setitem__") 1185), (.str (Str.ofString "Cache.__setitem__") 1186), (.str (Str.ofString "/claim/cut.py") 1187), (.int (398) 0), (.int (3) 0), (.int (0) 0), (.int (0) 0), (.int (3) 0), (.ref 743), (.bool true), (.int (273) 0), (.ref 744), .none, (.ref 745), (.ref 746), (.ref 747), (.int (1196) 0), (.int (398) 0), (.str (Str.ofString "/claim/cut.py") 1197)].toArray), [].toArray⟩
def o_749 (P : Params) : Obj := ⟨(.type "function"), none, (.func ⟨(Str.ofString "__setitem__"), (Str.ofString "Cache.__setitem__"), fnParams (fAt [33, 5]), .stmts (fnBody (fAt [33, 5])), fnScope (fAt [33, 5]), 3, [], .none, .none, .none, (.str (Str.ofString "cachetools") 1145), none, (.ref 748), .none, 0⟩), [].toArray⟩
def o_755 (P : Params) : Obj := ⟨(.type "code"), none, (.fields [(.str (Str.ofString "__delitem__") 1199), (.str (Str.ofString "Cache.__delitem__") 1200), (.str (Str.ofString "/claim/cut.py") 1201), (.int (432) 0), (.int (2) 0), (.int (0) 0), (.int (0) 0), (.int (3) 0), (.ref 750), (.bool true), (.int (273) 0), (.ref 751), .none, (.ref 752), (.ref 753), (.ref 754), (.int (1206) 0), (.int (432) 0), (.str (Str.ofString "/claim/cut.py") 1207)].toArray), [].toArray⟩
def o_756 (P : Params) : Obj := ⟨(.type "function"), none, (.func ⟨(Str.ofString "__delitem__"), (Str.ofString "Cache.__delitem__"), fnParams (fAt [33, 6]), .stmts (fnBody (fAt [33, 6])), fnScope (fAt [33, 6]), 3, [], .none, .none, .none, (.str (Str.ofString "cachetools") 1145), none, (.ref 755), .none, 0⟩), [].toArray⟩
def o_762 (P : Params) : Obj := ⟨(.type "code"), none, (.fields [(.str (Str.ofString "__contains__") 1209), (.str (Str.ofString "Cache.__contains__") 1210), (.str (Str.ofString "/claim/cut.py") 1211), (.int (442) 0), (.int (2) 0), (.int (0) 0), (.int (0) 0), (.int (3) 0), (.ref 757), (.bool true), (.int (273) 0), (.ref 758), .none, (.ref 759), (.ref 760), (.ref 761), (.int (1214) 0), (.int (442) 0), (.str (Str.ofString "/claim/cut.py") 1215)].toArray), [].toArray⟩
def o_763 (P : Params) : Obj := ⟨(.type "function"), none, (.func ⟨(Str.ofString "__contains__"), (Str.ofString "Cache.__contains__"), fnParams (fAt [33, 7]), .stmts (fnBody (fAt [33, 7])), fnScope (fAt [33, 7]), 3, [], .none, .none, .none, (.str (Str.ofString "cachetools") 1145), none, (.ref 762), .none, 0⟩), [].toArray⟩
def o_776 (P : Params) : Obj := ⟨(.type "code"), none, (.fields [(.str (Str.ofString "__iter__") 1225), (.str (Str.ofString "Cache.__iter__") 1226), (.str (Str.ofString "/claim/cut.py") 1227), (.int (448) 0), (.int (1) 0), (.int (0) 0), (.int (0) 0), (.int (3) 0), (.ref 771), (.bool true), (.int (273) 0), (.ref 772), .none, (.ref 773), (.ref 774), (.ref 775), (.int (1229) 0), (.int (448) 0), (.str (Str.ofString "/claim/cut.py") 1230)].toArray), [].toArray⟩
def o_777 (P : Params) : Obj := ⟨(.type "function"), none, (.func ⟨(Str.ofString "__iter__"), (Str.ofString "Cache.__iter__"), fnParams (fAt [33, 9]), .stmts (fnBody (fAt [33, 9])), fnScope (fAt [33, 9]), 3, [], .none, .none, .none, (.str (Str.ofString "cachetools") 1145), none, (.ref 776), .none, 0⟩), [].toArray⟩
def o_783 (P : Params) : Obj := ⟨(.type "code"), none, (.fields [(.str (Str.ofString "__len__") 1232), (.str (Str.ofString "Cache.__len__") 1233), (.str (Str.ofString "/claim/cut.py") 1234), (.int (451) 0), (.int (1) 0), (.int (0) 0), (.int (0) 0), (.int (3) 0), (.ref 778), (.bool true), (.int (273) 0), (.ref 779), .none, (.ref 780), (.ref 781), (.ref 782), (.int (1236) 0), (.int (451) 0), (.str (Str.ofString "/claim/cut.py") 1237)].toArray), [].toArray⟩
def o_784 (P : Params) : Obj := ⟨(.type "function"), none, (.func ⟨(Str.ofString "__len__"), (Str.ofString "Cache.__len__"), fnParams (fAt [33, 10]), .stmts (fnBody (fAt [33, 10])), fnScope (fAt [33, 10]), 3, [], .none, .none, .none, (.str (Str.ofString "cachetools") 1145), none, (.ref 783), .none, 0⟩), [].toArray⟩
def o_785 (P : Params) : Obj := ⟨(.type "tuple"), none, (.seq [.none].toArray 0), [].toArray⟩
def o_791 (P : Params) : Obj := ⟨(.type "code"), none, (.fields [(.str (Str.ofString "get") 1239), (.str (Str.ofString "Cache.get") 1240), (.str (Str.ofString "/claim/cut.py") 1241), (.int (454) 0), (.int (3) 0), (.int (0) 0), (.int (0) 0), (.int (3) 0), (.ref 786), (.bool true), (.int (273) 0), (.ref 787), .none, (.ref 788), (.ref 789), (.ref 790), (.int (1245) 0), (.int (454) 0), (.str (Str.ofString "/claim/cut.py") 1246)].toArray), [].toArray⟩
def o_792 (P : Params) : Obj := ⟨(.type "function"), none, (.func ⟨(Str.ofString "get"), (Str.ofString "Cache.get"), fnParams (fAt [33, 11]), .stmts (fnBody (fAt [33, 11])), fnScope (fAt [33, 11]), 3, [], (.ref 785), .none, .none, (.str (Str.ofString "cachetools") 1145), none, (.ref 791), .none, 0⟩), [].toArray⟩
def o_793 (P : Params) : Obj := ⟨(.type "tuple"), none, (.seq [(.ref 720)].toArray 0), [].toArray⟩
def o_799 (P : Params) : Obj := ⟨(.type "code"), none, (.fields [(.str (Str.ofString "pop") 1248), (.str (Str.ofString "Cache.pop") 1249), (.str (Str.ofString "/claim/cut.py") 1250), (.int (460) 0), (.int (3) 0), (.int (0) 0), (.int (0) 0), (.int (3) 0), (.ref 794), (.bool true), (.int (273) 0), (.ref 795), .none, (.ref 796), (.ref 797), (.ref 798), (.int (1255) 0), (.int (460) 0), (.str (Str.ofString "/claim/cut.py") 1256)].toArray), [].toArray⟩
def o_800 (P : Params) : Obj := ⟨(.type "function"), none, (.func ⟨(Str.ofString "pop"), (Str.ofString "Cache.pop"), fnParams (fAt [33, 12]), .stmts (fnBody (fAt [33, 12])), fnScope (fAt [33, 12]), 3, [], (.ref 793), .none, .none, (.str (Str.ofString "cachetools") 1145), none, (.ref 799), .none, 0⟩), [].toArray⟩
def o_823 (P : Params) : Obj := ⟨(.type "property"), none, (.fields [(.ref 822), .none, .none, .none, (.str (Str.ofString "maxsize") 1281), (.bool false)].toArray), [].toArray⟩
def o_831 (P : Params) : Obj := ⟨(.type "property"), none, (.fields [(.ref 830), .none, .none, .none, (.str (Str.ofString "currsize") 1289), (.bool false)].toArray), [].toArray⟩
def o_837 (P : Params) : Obj := ⟨(.type "code"), none, (.fields [(.str (Str.ofString "getsizeof") 1290), (.str (Str.ofString "Cache.getsizeof") 1291), (.str (Str.ofString "/claim/cut.py") 1292), (.int (484) 0), (.int (1) 0), (.int (0) 0), (.int (0) 0), (.int (3) 0), (.ref 832), (.bool true), (.int (273) 0), (.ref 833), .none, (.ref 834), (.ref 835), (.ref 836), (.int (1294) 0), (.int (484) 0), (.str (Str.ofString "/claim/cut.py") 1295)].toArray), [].toArray⟩
def o_838 (P : Params) : Obj := ⟨(.type "function"), none, (.func ⟨(Str.ofString "getsizeof"), (Str.ofString "Cache.getsizeof"), fnParams (fAt [33, 17]), .stmts (fnBody (fAt [33, 17])), fnScope (fAt [33, 17]), 3, [], .none, .none, .none, (.str (Str.ofString "cachetools") 1145), (some 841), (.ref 837), .none, 0⟩), [].toArray⟩
def o_840 (P : Params) : Obj := ⟨(.type "staticmethod"), (some 839), (.fields [(.ref 838), (.bool false)].toArray), [].toArray⟩
def o_843 (P : Params) : Obj := ⟨(.type "dict"), none, (.dict [⟨(PyData.keyHash P (Str.ofString "__module__")), (.str (Str.ofString "__module__") 1154), (.str (Str.ofString "cachetools") 1145)⟩, ⟨(PyData.keyHash P (Str.ofString "__firstlineno__")), (.str (Str.ofString "__firstlineno__") 1158), (.int (374) 1157)⟩, ⟨(PyData.keyHash P (Str.ofString "_Cache__marker")), (.str (Str.ofString "_Cache__marker") 1159), (.ref 720)⟩, ⟨(PyData.keyHash P (Str.ofString "_Cache__size")), (.str (Str.ofString "_Cache__size") 1160), .none⟩, ⟨(PyData.keyHash P (Str.ofString "__init__")), (.str (Str.ofString "__init__") 1169), (.ref 728)⟩, ⟨(PyData.keyHash P (Str.ofString "__repr__")), (.str (Str.ofString "__repr__") 1176), (.ref 735)⟩, ⟨(PyData.keyHash P (Str.ofString "__getitem__")), (.str (Str.ofString "__getitem__") 1184), (.ref 742)⟩, ⟨(PyData.keyHash P (Str.ofString "__setitem__")), (.str (Str.ofString "__setitem__") 1198), (.ref 749)⟩, ⟨(PyData.keyHash P (Str.ofString "__delitem__")), (.str (Str.ofString "__delitem__") 1208), (.ref 756)⟩, ⟨(PyData.keyHash P (Str.ofString "__contains__")), (.str (Str.ofString "__contains__") 1216), (.ref 763)⟩, ⟨(PyData.keyHash P (Str.ofString "__missing__")), (.str (Str.ofString "__missing__") 1224), (.ref 770)⟩, ⟨(PyData.keyHash P (Str.ofString "__iter__")), (.str (Str.ofString "__iter__") 1231), (.ref 777)⟩, ⟨(PyData.keyHash P (Str.ofString "__len__")), (.str (Str.ofString "__len__") 1238), (.ref 784)⟩, ⟨(PyData.keyHash P (Str.ofString "get")), (.str (Str.ofString "get") 1247), (.ref 792)⟩, ⟨(PyData.keyHash P (Str.ofString "pop")), (.str (Str.ofString "pop") 1257), (.ref 800)⟩, ⟨(PyData.keyHash P (Str.ofString "setdefault")), (.str (Str.ofString "setdefault") 1266), (.ref 808)⟩, ⟨(PyData.keyHash P (Str.ofString "clear")), (.str (Str.ofString "clear") 1273), (.ref 815)⟩, ⟨(PyData.keyHash P (Str.ofString "maxsize")), (.str (Str.ofString "maxsize") 1281), (.ref 823)⟩, ⟨(PyData.keyHash P (Str.ofString "currsize")), (.str (Str.ofString "currsize") 1289), (.ref 831)⟩, ⟨(PyData.keyHash P (Str.ofString "getsizeof")), (.str (Str.ofString "getsizeof") 1308), (.ref 840)⟩, ⟨(PyData.keyHash P (Str.ofString "__static_attributes__")), (.str (Str.ofString "__static_attributes__") 1314), (.ref 842)⟩, ⟨(PyData.keyHash P (Str.ofString "__dict__")), (.str (Str.ofString "__dict__") 1316), (.ref 845)⟩, ⟨(PyData.keyHash P (Str.ofString "__weakref__")), (.str (Str.ofString "__weakref__") 1318), (.ref 846)⟩, ⟨(PyData.keyHash P (Str.ofString "__doc__")), (.str (Str.ofString "__doc__") 1319), .none⟩].toArray 4), [].toArray⟩
def o_844 (P : Params) : Obj := ⟨(.ref 103), none, (.cls ⟨(Str.ofString "Cache"), [(.ref 709)], [(.ref 844), (.ref 709), (.ref 457), (.ref 269), (.ref 210), (.ref 180), (.ref 246), (.type "object")], 843, (Str.ofString "Cache"), true, [], [(.ref 896), (.ref 993), (.ref 1058), (.ref 1116), (.ref 1262)], false, none, false⟩), [(some (.ref 713)), none, (some (.str (Str.ofString "Cache") 1147)), (some (.str (Str.ofString "Cache") 1155)), (some (.builtin "object.__new__")), (some (.bool true))].toArray⟩
def o_856 (P : Params) : Obj := ⟨(.type "tuple"), none, (.seq [.none].toArray 0), [].toArray⟩
def o_862 (P : Params) : Obj := ⟨(.type "code"), none, (.fields [(.str (Str.ofString "__init__") 1334), (.str (Str.ofString "FIFOCache.__init__") 1335), (.str (Str.ofString "/claim/cut.py") 1336), (.int (489) 0), (.int (3) 0), (.int (0) 0), (.int (0) 0), (.int (3) 0), (.ref 857), (.bool true), (.int (273) 0), (.ref 858), .none, (.ref 859), (.ref 860), (.ref 861), (.int (1340) 0), (.int (489) 0), (.str (Str.ofString "/claim/cut.py") 1341)].toArray), [].toArray⟩
def o_863 (P : Params) : Obj := ⟨(.type "function"), none, (.func ⟨(Str.ofString "__init__"), (Str.ofString "FIFOCache.__init__"), fnParams (fAt [34, 0]), .stmts (fnBody (fAt [34, 0])), fnScope (fAt [34, 0]), 3, [], (.ref 856), .none, .none, (.str (Str.ofString "cachetools") 1145), none, (.ref 862), .none, 0⟩), [].toArray⟩
def o_864 (P : Params) : Obj := ⟨(.type "tuple"), none, (.seq [(.ref 749)].toArray 0), [].toArray⟩
def o_870 (P : Params) : Obj := ⟨(.type "code"), none, (.fields [(.str (Str.ofString "__setitem__") 1344), (.str (Str.ofString "FIFOCache.__setitem__") 1345), (.str (Str.ofString "/claim/cut.py") 1346), (.int (493) 0), (.int (4) 0), (.int (0) 0), (.int (0) 0), (.int (3) 0), (.ref 865), (.bool true), (.int (273) 0), (.ref 866), .none, (.ref 867), (.ref 868), (.ref 869), (.int (1351) 0), (.int (493) 0), (.str (Str.ofString "/claim/cut.py") 1352)].toArray), [].toArray⟩
def o_871 (P : Params) : Obj := ⟨(.type "function"), none, (.func ⟨(Str.ofString "__setitem__"), (Str.ofString "FIFOCache.__setitem__"), fnParams (fAt [34, 1]), .stmts (fnBody (fAt [34, 1])), fnScope (fAt [34, 1]), 3, [], (.ref 864), .none, .none, (.str (Str.ofString "cachetools") 1145), none, (.ref 870), .none, 0⟩), [].toArray⟩
def o_872 (P : Params) : Obj := ⟨(.type "tuple"), none, (.seq [(.ref 756)].toArray 0), [].toArray⟩
def o_878 (P : Params) : Obj := ⟨(.type "code"), none, (.fields [(.str (Str.ofString "__delitem__") 1355), (.str (Str.ofString "FIFOCache.__delitem__") 1356), (.str (Str.ofString "/claim/cut.py") 1357), (.int (500) 0), (.int (3) 0), (.int (0) 0), (.int (0) 0), (.int (3) 0), (.ref 873), (.bool true), (.int (273) 0), (.ref 874), .none, (.ref 875), (.ref 876), (.ref 877), (.int (1361) 0), (.int (500) 0), (.str (Str.ofString "/claim/cut.py") 1362)].toArray), [].toArray⟩
def o_879 (P : Params) : Obj := ⟨(.type "function"), none, (.func ⟨(Str.ofString "__delitem__"), (Str.ofString "FIFOCache.__delitem__"), fnParams (fAt [34, 2]), .stmts (fnBody (fAt [34, 2])), fnScope (fAt [34, 2]), 3, [], (.ref 872), .none, .none, (.str (Str.ofString "cachetools") 1145), none, (.ref 878), .none, 0⟩), [].toArray⟩
def o_885 (P : Params) : Obj := ⟨(.type "code"), none, (.fields [(.str (Str.ofString "popitem") 1364), (.str (Str.ofString "FIFOCache.popitem") 1365), (.str (Str.ofString "/claim/cut.py") 1366), (.int (504) 0), (.int (1) 0), (.int (0) 0), (.int (0) 0), (.int (3) 0), (.ref 880), (.bool true), (.int (273) 0), (.ref 881), .none, (.ref 882), (.ref 883), (.ref 884), (.int (1370) 0), (.int (504) 0), (.str (Str.ofString "/claim/cut.py") 1371)].toArray), [].toArray⟩
def o_886 (P : Params) : Obj := ⟨(.type "function"), none, (.func ⟨(Str.ofString "popitem"), (Str.ofString "FIFOCache.popitem"), fnParams (fAt [34, 3]), .stmts (fnBody (fAt [34, 3])), fnScope (fAt [34, 3]), 3, [], .none, .none, .none, (.str (Str.ofString "cachetools") 1145), none, (.ref 885), .none, 0⟩), [].toArray⟩
def o_895 (P : Params) : Obj := ⟨(.type "dict"), none, (.dict [⟨(PyData.keyHash P (Str.ofString "__module__")), (.str (Str.ofString "__module__") 1329), (.str (Str.ofString "cachetools") 1145)⟩, ⟨(PyData.keyHash P (Str.ofString "__firstlineno__")), (.str (Str.ofString "__firstlineno__") 1333), (.int (487) 1332)⟩, ⟨(PyData.keyHash P (Str.ofString "__init__")), (.str (Str.ofString "__init__") 1342), (.ref 863)⟩, ⟨(PyData.keyHash P (Str.ofString "__setitem__")), (.str (Str.ofString "__setitem__") 1353), (.ref 871)⟩, ⟨(PyData.keyHash P (Str.ofString "__delitem__")), (.str (Str.ofString "__delitem__") 1363), (.ref 879)⟩, ⟨(PyData.keyHash P (Str.ofString "popitem")), (.str (Str.ofString "popitem") 1372), (.ref 886)⟩, ⟨(PyData.keyHash P (Str.ofString "clear")), (.str (Str.ofString "clear") 1379), (.ref 893)⟩, ⟨(PyData.keyHash P (Str.ofString "__static_attributes__")), (.str (Str.ofString "__static_attributes__") 1381), (.ref 894)⟩, ⟨(PyData.keyHash P (Str.ofString "__doc__")), (.str (Str.ofString "__doc__") 1382), .none⟩].toArray 2), [].toArray⟩
def o_896 (P : Params) : Obj := ⟨(.ref 103), none, (.cls ⟨(Str.ofString "FIFOCache"), [(.ref 844)], [(.ref 896), (.ref 844), (.ref 709), (.ref 457), (.ref 269), (.ref 210), (.ref 180), (.ref 246), (.type "object")], 895, (Str.ofString "FIFOCache"), true, [], [], false, none, false⟩), [(some (.ref 849)), none, (some (.str (Str.ofString "FIFOCache") 1322)), (some (.str (Str.ofString "FIFOCache") 1330)), (some (.builtin "object.__new__")), (some (.bool true))].toArray⟩
def o_919 (P : Params) : Obj := ⟨(.type "code"), none, (.fields [(.str (Str.ofString "__init__") 1414), (.str (Str.ofString "LFUCache._Link.__init__") 1415), (.str (Str.ofString "/claim/cut.py") 1416), (.int (521) 0), (.int (2) 0), (.int (0) 0), (.int (0) 0), (.int (3) 0), (.ref 914), (.bool true), (.int (273) 0), (.ref 915), .none, (.ref 916), (.ref 917), (.ref 918), (.int (1419) 0), (.int (521) 0), (.str (Str.ofString "/claim/cut.py") 1420)].toArray), [].toArray⟩
def o_920 (P : Params) : Obj := ⟨(.type "function"), none, (.func ⟨(Str.ofString "__init__"), (Str.ofString "LFUCache._Link.__init__"), fnParams (fAt [35, 0, 1]), .stmts (fnBody (fAt [35, 0, 1])), fnScope (fAt [35, 0, 1]), 3, [], .none, .none, .none, (.str (Str.ofString "cachetools") 1145), none, (.ref 919), .none, 0⟩), [].toArray⟩
def o_926 (P : Params) : Obj := ⟨(.type "code"), none, (.fields [(.str (Str.ofString "unlink") 1422), (.str (Str.ofString "LFUCache._Link.unlink") 1423), (.str (Str.ofString "/claim/cut.py") 1424), (.int (525) 0), (.int (1) 0), (.int (0) 0), (.int (0) 0), (.int (3) 0), (.ref 921), (.bool true), (.int (273) 0), (.ref 922), .none, (.ref 923), (.ref 924), (.ref 925), (.int (1428) 0), (.int (525) 0), (.str (Str.ofString "/claim/cut.py") 1429)].toArray), [].toArray⟩
def o_927 (P : Params) : Obj := ⟨(.type "function"), none, (.func ⟨(Str.ofString "unlink"), (Str.ofString "LFUCache._Link.unlink"), fnParams (fAt [35, 0, 2]), .stmts (fnBody (fAt [35, 0, 2])), fnScope (fAt [35, 0, 2]), 3, [], .none, .none, .none, (.str (Str.ofString "cachetools") 1145), none, (.ref 926), .none, 0⟩), [].toArray⟩
def o_930 (P : Params) : Obj := ⟨(.type "dict"), none, (.dict [⟨(PyData.keyHash P (Str.ofString "__module__")), (.str (Str.ofString "__module__") 1404), (.str (Str.ofString "cachetools") 1145)⟩, ⟨(PyData.keyHash P (Str.ofString "__firstlineno__")), (.str (Str.ofString "__firstlineno__") 1408), (.int (518) 1407)⟩, ⟨(PyData.keyHash P (Str.ofString "__slots__")), (.str (Str.ofString "__slots__") 1413), (.ref 913)⟩, ⟨(PyData.keyHash P (Str.ofString "__init__")), (.str (Str.ofString "__init__") 1421), (.ref 920)⟩, ⟨(PyData.keyHash P (Str.ofString "unlink")), (.str (Str.ofString "unlink") 1430), (.ref 927)⟩, ⟨(PyData.keyHash P (Str.ofString "__static_attributes__")), (.str (Str.ofString "__static_attributes__") 1433), (.ref 928)⟩, ⟨(PyData.keyHash P (Str.ofString "count")), (.str (Str.ofString "count") 1435), (.ref 932)⟩, ⟨(PyData.keyHash P (Str.ofString "keys")), (.str (Str.ofString "keys") 1437), (.ref 933)⟩, ⟨(PyData.keyHash P (Str.ofString "next")), (.str (Str.ofString "next") 1439), (.ref 934)⟩, ⟨(PyData.keyHash P (Str.ofString "prev")), (.str (Str.ofString "prev") 1441), (.ref 935)⟩, ⟨(PyData.keyHash P (Str.ofString "__doc__")), (.str (Str.ofString "__doc__") 1442), .none⟩].toArray 6), [].toArray⟩
def o_931 (P : Params) : Obj := ⟨(.type "type"), none, (.cls ⟨(Str.ofString "_Link"), [(.type "object")], [(.ref 931), (.type "object")], 930, (Str.ofString "LFUCache._Link"), false, [(Str.ofString "count"), (Str.ofString "keys"), (Str.ofString "next"), (Str.ofString "prev")], [], false, none, false⟩), [none, none, (some (.str (Str.ofString "_Link") 1397)), (some (.str (Str.ofString "LFUCache._Link") 1405)), (some (.builtin "object.__new__")), (some (.bool false))].toArray⟩
def o_932 (P : Params) : Obj := ⟨(.type "member_descriptor"), none, (.fields [(.str (Str.ofString "count") 1434), (.ref 931), (.builtin "proto.slot"), (.builtin "proto.slot#set"), (.int (3) 0)].toArray), [].toArray⟩
def o_933 (P : Params) : Obj := ⟨(.type "member_descriptor"), none, (.fields [(.str (Str.ofString "keys") 1436), (.ref 931), (.builtin "proto.slot"), (.builtin "proto.slot#set"), (.int (2) 0)].toArray), [].toArray⟩
def o_934 (P : Params) : Obj := ⟨(.type "member_descriptor"), none, (.fields [(.str (Str.ofString "next") 1438), (.ref 931), (.builtin "proto.slot"), (.builtin "proto.slot#set"), (.int (1) 0)].toArray), [].toArray⟩
def o_935 (P : Params) : Obj := ⟨(.type "member_descriptor"), none, (.fields [(.str (Str.ofString "prev") 1440), (.ref 931), (.builtin "proto.slot"), (.builtin "proto.slot#set"), (.int (0) 0)].toArray), [].toArray⟩
def o_938 (P : Params) : Obj := ⟨(.type "tuple"), none, (.seq [.none].toArray 0), [].toArray⟩
def o_944 (P : Params) : Obj := ⟨(.type "code"), none, (.fields [(.str (Str.ofString "__init__") 1445), (.str (Str.ofString "LFUCache.__init__") 1446), (.str (Str.ofString "/claim/cut.py") 1447), (.int (531) 0), (.int (3) 0), (.int (0) 0), (.int (0) 0), (.int (3) 0), (.ref 939), (.bool true), (.int (273) 0), (.ref 940), .none, (.ref 941), (.ref 942), (.ref 943), (.int (1452) 0), (.int (531) 0), (.str (Str.ofString "/claim/cut.py") 1453)].toArray), [].toArray⟩
def o_945 (P : Params) : Obj := ⟨(.type "function"), none, (.func ⟨(Str.ofString "__init__"), (Str.ofString "LFUCache.__init__"), fnParams (fAt [35, 1]), .stmts (fnBody (fAt [35, 1])), fnScope (fAt [35, 1]), 3, [], (.ref 938), .none, .none, (.str (Str.ofString "cachetools") 1145), none, (.ref 944), .none, 0⟩), [].toArray⟩
def o_946 (P : Params) : Obj := ⟨(.type "tuple"), none, (.seq [(.ref 742)].toArray 0), [].toArray⟩
def o_952 (P : Params) : Obj := ⟨(.type "code"), none, (.fields [(.str (Str.ofString "__getitem__") 1456), (.str (Str.ofString "LFUCache.__getitem__") 1457), (.str (Str.ofString "/claim/cut.py") 1458), (.int (537) 0), (.int (3) 0), (.int (0) 0), (.int (0) 0), (.int (3) 0), (.ref 947), (.bool true), (.int (273) 0), (.ref 948), .none, (.ref 949), (.ref 950), (.ref 951), (.int (1463) 0), (.int (537) 0), (.str (Str.ofString "/claim/cut.py") 1464)].toArray), [].toArray⟩
def o_953 (P : Params) : Obj := ⟨(.type "function"), none, (.func ⟨(Str.ofString "__getitem__"), (Str.ofString "LFUCache.__getitem__"), fnParams (fAt [35, 2]), .stmts (fnBody (fAt [35, 2])), fnScope (fAt [35, 2]), 3, [], (.ref 946), .none, .none, (.str (Str.ofString "cachetools") 1145), none, (.ref 952), .none, 0⟩), [].toArray⟩
def o_954 (P : Params) : Obj := ⟨(.type "tuple"), none, (.seq [(.ref 749)].toArray 0), [].toArray⟩
def o_960 (P : Params) : Obj := ⟨(.type "code"), none, (.fields [(.str (Str.ofString "__setitem__") 1467), (.str (Str.ofString "LFUCache.__setitem__") 1468), (.str (Str.ofString "/claim/cut.py") 1469), (.int (543) 0), (.int (4) 0), (.int (0) 0), (.int (0) 0), (.int (3) 0), (.ref 955), (.bool true), (.int (273) 0), (.ref 956), .none, (.ref 957), (.ref 958), (.ref 959), (.int (1476) 0), (.int (543) 0), (.str (Str.ofString "/claim/cut.py") 1477)].toArray), [].toArray⟩
def o_961 (P : Params) : Obj := ⟨(.type "function"), none, (.func ⟨(Str.ofString "__setitem__"), (Str.ofString "LFUCache.__setitem__"), fnParams (fAt [35, 3]), .stmts (fnBody (fAt [35, 3])), fnScope (fAt [35, 3]), 3, [], (.ref 954), .none, .none, (.str (Str.ofString "cachetools") 1145), none, (.ref 960), .none, 0⟩), [].toArray⟩
def o_962 (P : Params) : Obj := ⟨(.type "tuple"), none, (.seq [(.ref 756)].toArray 0), [].toArray⟩
def o_968 (P : Params) : Obj := ⟨(.type "code"), none, (.fields [(.str (Str.ofString "__delitem__") 1480), (.str (Str.ofString "LFUCache.__delitem__") 1481), (.str (Str.ofString "/claim/cut.py") 1482), (.int (558) 0), (.int (3) 0), (.int (0) 0), (.int (0) 0), (.int (3) 0), (.ref 963), (.bool true), (.int (273) 0), (.ref 964), .none, (.ref 965), (.ref 966), (.ref 967), (.int (1487) 0), (.int (558) 0), (.str (Str.ofString "/claim/cut.py") 1488)].toArray), [].toArray⟩
def o_969 (P : Params) : Obj := ⟨(.type "function"), none, (.func ⟨(Str.ofString "__delitem__"), (Str.ofString "LFUCache.__delitem__"), fnParams (fAt [35, 4]), .stmts (fnBody (fAt [35, 4])), fnScope (fAt [35, 4]), 3, [], (.ref 962), .none, .none, (.str (Str.ofString "cachetools") 1145), none, (.ref 968), .none, 0⟩), [].toArray⟩
def o_975 (P : Params) : Obj := ⟨(.type "code"), none, (.fields [(.str (Str.ofString "popitem") 1490), (.str (Str.ofString "LFUCache.popitem") 1491), (.str (Str.ofString "/claim/cut.py") 1492), (.int (565) 0), (.int (1) 0), (.int (0) 0), (.int (0) 0), (.int (3) 0), (.ref 970), (.bool true), (.int (273) 0), (.ref 971), .none, (.ref 972), (.ref 973), (.ref 974), (.int (1498) 0), (.int (565) 0), (.str (Str.ofString "/claim/cut.py") 1499)].toArray), [].toArray⟩
def o_976 (P : Params) : Obj := ⟨(.type "function"), none, (.func ⟨(Str.ofString "popitem"), (Str.ofString "LFUCache.popitem"), fnParams (fAt [35, 5]), .stmts (fnBody (fAt [35, 5])), fnScope (fAt [35, 5]), 3, [], .none, .none, .none, (.str (Str.ofString "cachetools") 1145), none, (.ref 975), .none, 0⟩), [].toArray⟩
def o_989 (P : Params) : Obj := ⟨(.type "code"), none, (.fields [(.str (Str.ofString "__touch") 1508), (.str (Str.ofString "LFUCache.__touch") 1509), (.str (Str.ofString "/claim/cut.py") 1510), (.int (578) 0), (.int (2) 0), (.int (0) 0), (.int (0) 0), (.int (3) 0), (.ref 984), (.bool true), (.int (273) 0), (.ref 985), .none, (.ref 986), (.ref 987), (.ref 988), (.int (1515) 0), (.int (578) 0), (.str (Str.ofString "/claim/cut.py") 1516)].toArray), [].toArray⟩
def o_990 (P : Params) : Obj := ⟨(.type "function"), none, (.func ⟨(Str.ofString "__touch"), (Str.ofString "LFUCache.__touch"), fnParams (fAt [35, 7]), .stmts (fnBody (fAt [35, 7])), fnScope (fAt [35, 7]), 3, [], .none, .none, .none, (.str (Str.ofString "cachetools") 1145), none, (.ref 989), .none, 0⟩), [].toArray⟩
def o_992 (P : Params) : Obj := ⟨(.type "dict"), none, (.dict [⟨(PyData.keyHash P (Str.ofString "__module__")), (.str (Str.ofString "__module__") 1392), (.str (Str.ofString "cachetools") 1145)⟩, ⟨(PyData.keyHash P (Str.ofString "__firstlineno__")), (.str (Str.ofString "__firstlineno__") 1396), (.int (516) 1395)⟩, ⟨(PyData.keyHash P (Str.ofString "_Link")), (.str (Str.ofString "_Link") 1444), (.ref 931)⟩, ⟨(PyData.keyHash P (Str.ofString "__init__")), (.str (Str.ofString "__init__") 1454), (.ref 945)⟩, ⟨(PyData.keyHash P (Str.ofString "__getitem__")), (.str (Str.ofString "__getitem__") 1465), (.ref 953)⟩, ⟨(PyData.keyHash P (Str.ofString "__setitem__")), (.str (Str.ofString "__setitem__") 1478), (.ref 961)⟩, ⟨(PyData.keyHash P (Str.ofString "__delitem__")), (.str (Str.ofString "__delitem__") 1489), (.ref 969)⟩, ⟨(PyData.keyHash P (Str.ofString "popitem")), (.str (Str.ofString "popitem") 1500), (.ref 976)⟩, ⟨(PyData.keyHash P (Str.ofString "clear")), (.str (Str.ofString "clear") 1507), (.ref 983)⟩, ⟨(PyData.keyHash P (Str.ofString "_LFUCache__touch")), (.str (Str.ofString "_LFUCache__touch") 1517), (.ref 990)⟩, ⟨(PyData.keyHash P (Str.ofString "__static_attributes__")), (.str (Str.ofString "__static_attributes__") 1520), (.ref 991)⟩, ⟨(PyData.keyHash P (Str.ofString "__doc__")), (.str (Str.ofString "__doc__") 1521), .none⟩].toArray 2), [].toArray⟩
def o_993 (P : Params) : Obj := ⟨(.ref 103), none, (.cls ⟨(Str.ofString "LFUCache"), [(.ref 844)], [(.ref 993), (.ref 844), (.ref 709), (.ref 457), (.ref 269), (.ref 210), (.ref 180), (.ref 246), (.type "object")], 992, (Str.ofString "LFUCache"), true, [], [], false, none, false⟩), [(some (.ref 899)), none, (some (.str (Str.ofString "LFUCache") 1385)), (some (.str (Str.ofString "LFUCache") 1393)), (some (.builtin "object.__new__")), (some (.bool true))].toArray⟩
def o_1003 (P : Params) : Obj := ⟨(.type "tuple"), none, (.seq [.none].toArray 0), [].toArray⟩
def o_1009 (P : Params) : Obj := ⟨(.type "code"), none, (.fields [(.str (Str.ofString "__init__") 1536), (.str (Str.ofString "LRUCache.__init__") 1537), (.str (Str.ofString "/claim/cut.py") 1538), (.int (596) 0), (.int (3) 0), (.int (0) 0), (.int (0) 0), (.int (3) 0), (.ref 1004), (.bool true), (.int (273) 0), (.ref 1005), .none, (.ref 1006), (.ref 1007), (.ref 1008), (.int (1542) 0), (.int (596) 0), (.str (Str.ofString "/claim/cut.py") 1543)].toArray), [].toArray⟩
def o_1010 (P : Params) : Obj := ⟨(.type "function"), none, (.func ⟨(Str.ofString "__init__"), (Str.ofString "LRUCache.__init__"), fnParams (fAt [36, 0]), .stmts (fnBody (fAt [36, 0])), fnScope (fAt [36, 0]), 3, [], (.ref 1003), .none, .none, (.str (Str.ofString "cachetools") 1145), none, (.ref 1009), .none, 0⟩), [].toArray⟩
def o_1011 (P : Params) : Obj := ⟨(.type "tuple"), none, (.seq [(.ref 742)].toArray 0), [].toArray⟩
def o_1017 (P : Params) : Obj := ⟨(.type "code"), none, (.fields [(.str (Str.ofString "__getitem__") 1546), (.str (Str.ofString "LRUCache.__getitem__") 1547), (.str (Str.ofString "/claim/cut.py") 1548), (.int (600) 0), (.int (3) 0), (.int (0) 0), (.int (0) 0), (.int (3) 0), (.ref 1012), (.bool true), (.int (273) 0), (.ref 1013), .none, (.ref 1014), (.ref 1015), (.ref 1016), (.int (1553) 0), (.int (600) 0), (.str (Str.ofString "/claim/cut.py") 1554)].toArray), [].toArray⟩
def o_1018 (P : Params) : Obj := ⟨(.type "function"), none, (.func ⟨(Str.ofString "__getitem__"), (Str.ofString "LRUCache.__getitem__"), fnParams (fAt [36, 1]), .stmts (fnBody (fAt [36, 1])), fnScope (fAt [36, 1]), 3, [], (.ref 1011), .none, .none, (.str (Str.ofString "cachetools") 1145), none, (.ref 1017), .none, 0⟩), [].toArray⟩
def o_1019 (P : Params) : Obj := ⟨(.type "tuple"), none, (.seq [(.ref 749)].toArray 0), [].toArray⟩
def o_1025 (P : Params) : Obj := ⟨(.type "code"), none, (.fields [(.str (Str.ofString "__setitem__") 1557), (.str (Str.ofString "LRUCache.__setitem__") 1558), (.str (Str.ofString "/claim/cut.py") 1559), (.int (608) 0), (.int (4) 0), (.int (0) 0), (.int (0) 0), (.int (3) 0), (.ref 1020), (.bool true), (.int (273) 0), (.ref 1021), .none, (.ref 1022), (.ref 1023), (.ref 1024), (.int (1564) 0), (.int (608) 0), (.str (Str.ofString "/claim/cut.py") 1565)].toArray), [].toArray⟩
def o_1026 (P : Params) : Obj := ⟨(.type "function"), none, (.func ⟨(Str.ofString "__setitem__"), (Str.ofString "LRUCache.__setitem__"), fnParams (fAt [36, 2]), .stmts (fnBody (fAt [36, 2])), fnScope (fAt [36, 2]), 3, [], (.ref 1019), .none, .none, (.str (Str.ofString "cachetools") 1145), none, (.ref 1025), .none, 0⟩), [].toArray⟩
def o_1027 (P : Params) : Obj := ⟨(.type "tuple"), none, (.seq [(.ref 756)].toArray 0), [].toArray⟩
def o_1033 (P : Params) : Obj := ⟨(.type "code"), none, (.fields [(.str (Str.ofString "__delitem__") 1568), (.str (Str.ofString "LRUCache.__delitem__") 1569), (.str (Str.ofString "/claim/cut.py") 1570), (.int (612) 0), (.int (3) 0), (.int (0) 0), (.int (0) 0), (.int (3) 0), (.ref 1028), (.bool true), (.int (273) 0), (.ref 1029), .none, (.ref 1030), (.ref 1031), (.ref 1032), (.int (1574) 0), (.int (612) 0), (.str (Str.ofString "/claim/cut.py") 1575)].toArray), [].toArray⟩
def o_1034 (P : Params) : Obj := ⟨(.type "function"), none, (.func ⟨(Str.ofString "__delitem__"), (Str.ofString "LRUCache.__delitem__"), fnParams (fAt [36, 3]), .stmts (fnBody (fAt [36, 3])), fnScope (fAt [36, 3]), 3, [], (.ref 1027), .none, .none, (.str (Str.ofString "cachetools") 1145), none, (.ref 1033), .none, 0⟩), [].toArray⟩
def o_1040 (P : Params) : Obj := ⟨(.type "code"), none, (.fields [(.str (Str.ofString "popitem") 1577), (.str (Str.ofString "LRUCache.popitem") 1578), (.str (Str.ofString "/claim/cut.py") 1579), (.int (616) 0), (.int (1) 0), (.int (0) 0), (.int (0) 0), (.int (3) 0), (.ref 1035), (.bool true), (.int (273) 0), (.ref 1036), .none, (.ref 1037), (.ref 1038), (.ref 1039), (.int (1583) 0), (.int (616) 0), (.str (Str.ofString "/claim/cut.py") 1584)].toArray), [].toArray⟩
def o_1041 (P : Params) : Obj := ⟨(.type "function"), none, (.func ⟨(Str.ofString "popitem"), (Str.ofString "LRUCache.popitem"), fnParams (fAt [36, 4]), .stmts (fnBody (fAt [36, 4])), fnScope (fAt [36, 4]), 3, [], .none, .none, .none, (.str (Str.ofString "cachetools") 1145), none, (.ref 1040), .none, 0⟩), [].toArray⟩
def o_1054 (P : Params) : Obj := ⟨(.type "code"), none, (.fields [(.str (Str.ofString "__touch") 1593), (.str (Str.ofString "LRUCache.__touch") 1594), (.str (Str.ofString "/claim/cut.py") 1595), (.int (629) 0), (.int (2) 0), (.int (0) 0), (.int (0) 0), (.int (3) 0), (.ref 1049), (.bool true), (.int (273) 0), (.ref 1050), .none, (.ref 1051), (.ref 1052), (.ref 1053), (.int (1598) 0), (.int (629) 0), (.str (Str.ofString "/claim/cut.py") 1599)].toArray), [].toArray⟩
def o_1055 (P : Params) : Obj := ⟨(.type "function"), none, (.func ⟨(Str.ofString "__touch"), (Str.ofString "LRUCache.__touch"), fnParams (fAt [36, 6]), .stmts (fnBody (fAt [36, 6])), fnScope (fAt [36, 6]), 3, [], .none, .none, .none, (.str (Str.ofString "cachetools") 1145), none, (.ref 1054), .none, 0⟩), [].toArray⟩
def o_1057 (P : Params) : Obj := ⟨(.type "dict"), none, (.dict [⟨(PyData.keyHash P (Str.ofString "__module__")), (.str (Str.ofString "__module__") 1531), (.str (Str.ofString "cachetools") 1145)⟩, ⟨(PyData.keyHash P (Str.ofString "__firstlineno__")), (.str (Str.ofString "__firstlineno__") 1535), (.int (594) 1534)⟩, ⟨(PyData.keyHash P (Str.ofString "__init__")), (.str (Str.ofString "__init__") 1544), (.ref 1010)⟩, ⟨(PyData.keyHash P (Str.ofString "__getitem__")), (.str (Str.ofString "__getitem__") 1555), (.ref 1018)⟩, ⟨(PyData.keyHash P (Str.ofString "__setitem__")), (.str (Str.ofString "__setitem__") 1566), (.ref 1026)⟩, ⟨(PyData.keyHash P (Str.ofString "__delitem__")), (.str (Str.ofString "__delitem__") 1576), (.ref 1034)⟩, ⟨(PyData.keyHash P (Str.ofString "popitem")), (.str (Str.ofString "popitem") 1585), (.ref 1041)⟩, ⟨(PyData.keyHash P (Str.ofString "clear")), (.str (Str.ofString "clear") 1592), (.ref 1048)⟩, ⟨(PyData.keyHash P (Str.ofString "_LRUCache__touch")), (.str (Str.ofString "_LRUCache__touch") 1600), (.ref 1055)⟩, ⟨(PyData.keyHash P (Str.ofString "__static_attributes__")), (.str (Str.ofString "__static_attributes__") 1602), (.ref 1056)⟩, ⟨(PyData.keyHash P (Str.ofString "__doc__")), (.str (Str.ofString "__doc__") 1603), .none⟩].toArray 2), [].toArray⟩
def o_1058 (P : Params) : Obj := ⟨(.ref 103), none, (.cls ⟨(Str.ofString "LRUCache"), [(.ref 844)], [(.ref 1058), (.ref 844), (.ref 709), (.ref 457), (.ref 269), (.ref 210), (.ref 180), (.ref 246), (.type "object")], 1057, (Str.ofString "LRUCache"), true, [], [], false, none, false⟩), [(some (.ref 996)), none, (some (.str (Str.ofString "LRUCache") 1524)), (some (.str (Str.ofString "LRUCache") 1532)), (some (.builtin "object.__new__")), (some (.bool true))].toArray⟩
def o_1068 (P : Params) : Obj := ⟨(.type "tuple"), none, (.seq [.none, .none].toArray 0), [].toArray⟩
def o_1074 (P : Params) : Obj := ⟨(.type "code"), none, (.fields [(.str (Str.ofString "__init__") 1618), (.str (Str.ofString "RRCache.__init__") 1619), (.str (Str.ofString "/claim/cut.py") 1620), (.int (636) 0), (.int (4) 0), (.int (0) 0), (.int (0) 0), (.int (3) 0), (.ref 1069), (.bool true), (.int (273) 0), (.ref 1070), .none, (.ref 1071), (.ref 1072), (.ref 1073), (.int (1625) 0), (.int (636) 0), (.str (Str.ofString "/claim/cut.py") 1626)].toArray), [].toArray⟩
def o_1075 (P : Params) : Obj := ⟨(.type "function"), none, (.func ⟨(Str.ofString "__init__"), (Str.ofString "RRCache.__init__"), fnParams (fAt [37, 0]), .stmts (fnBody (fAt [37, 0])), fnScope (fAt [37, 0]), 3, [], (.ref 1068), .none, .none, (.str (Str.ofString "cachetools") 1145), none, (.ref 1074), .none, 0⟩), [].toArray⟩
def o_1083 (P : Params) : Obj := ⟨(.type "property"), none, (.fields [(.ref 1082), .none, .none, .none, (.str (Str.ofString "choice") 1635), (.bool false)].toArray), [].toArray⟩
def o_1084 (P : Params) : Obj := ⟨(.type "tuple"), none, (.seq [(.ref 749)].toArray 0), [].toArray⟩
def o_1090 (P : Params) : Obj := ⟨(.type "code"), none, (.fields [(.str (Str.ofString "__setitem__") 1637), (.str (Str.ofString "RRCache.__setitem__") 1638), (.str (Str.ofString "/claim/cut.py") 1639), (.int (646) 0), (.int (4) 0), (.int (0) 0), (.int (0) 0), (.int (3) 0), (.ref 1085), (.bool true), (.int (273) 0), (.ref 1086), .none, (.ref 1087), (.ref 1088), (.ref 1089), (.int (1644) 0), (.int (646) 0), (.str (Str.ofString "/claim/cut.py") 1645)].toArray), [].toArray⟩
def o_1091 (P : Params) : Obj := ⟨(.type "function"), none, (.func ⟨(Str.ofString "__setitem__"), (Str.ofString "RRCache.__setitem__"), fnParams (fAt [37, 2]), .stmts (fnBody (fAt [37, 2])), fnScope (fAt [37, 2]), 3, [], (.ref 1084), .none, .none, (.str (Str.ofString "cachetools") 1145), none, (.ref 1090), .none, 0⟩), [].toArray⟩
def o_1092 (P : Params) : Obj := ⟨(.type "tuple"), none, (.seq [(.ref 756)].toArray 0), [].toArray⟩
def o_1098 (P : Params) : Obj := ⟨(.type "code"), none, (.fields [(.str (Str.ofString "__delitem__") 1648), (.str (Str.ofString "RRCache.__delitem__") 1649), (.str (Str.ofString "/claim/cut.py") 1650), (.int (652) 0), (.int (3) 0), (.int (0) 0), (.int (0) 0), (.int (3) 0), (.ref 1093), (.bool true), (.int (273) 0), (.ref 1094), .none, (.ref 1095), (.ref 1096), (.ref 1097), (.int (1656) 0), (.int (652) 0), (.str (Str.ofString "/claim/cut.py") 1657)].toArray), [].toArray⟩
def o_1099 (P : Params) : Obj := ⟨(.type "function"), none, (.func ⟨(Str.ofString "__delitem__"), (Str.ofString "RRCache.__delitem__"), fnParams (fAt [37, 3]), .stmts (fnBody (fAt [37, 3])), fnScope (fAt [37, 3]), 3, [], (.ref 1092), .none, .none, (.str (Str.ofString "cachetools") 1145), none, (.ref 1098), .none, 0⟩), [].toArray⟩
def o_1105 (P : Params) : Obj := ⟨(.type "code"), none, (.fields [(.str (Str.ofString "popitem") 1659), (.str (Str.ofString "RRCache.popitem") 1660), (.str (Str.ofString "/claim/cut.py") 1661), (.int (661) 0), (.int (1) 0), (.int (0) 0), (.int (0) 0), (.int (3) 0), (.ref 1100), (.bool true), (.int (273) 0), (.ref 1101), .none, (.ref 1102), (.ref 1103), (.ref 1104), (.int (1666) 0), (.int (661) 0), (.str (Str.ofString "/claim/cut.py") 1667)].toArray), [].toArray⟩
def o_1106 (P : Params) : Obj := ⟨(.type "function"), none, (.func ⟨(Str.ofString "popitem"), (Str.ofString "RRCache.popitem"), fnParams (fAt [37, 4]), .stmts (fnBody (fAt [37, 4])), fnScope (fAt [37, 4]), 3, [], .none, .none, .none, (.str (Str.ofString "cachetools") 1145), none, (.ref 1105), .none, 0⟩), [].toArray⟩
def o_1115 (P : Params) : Obj := ⟨(.type "dict"), none, (.dict [⟨(PyData.keyHash P (Str.ofString "__module__")), (.str (Str.ofString "__module__") 1613), (.str (Str.ofString "cachetools") 1145)⟩, ⟨(PyData.keyHash P (Str.ofString "__firstlineno__")), (.str (Str.ofString "__firstlineno__") 1617), (.int (634) 1616)⟩, ⟨(PyData.keyHash P (Str.ofString "__init__")), (.str (Str.ofString "__init__") 1627), (.ref 1075)⟩, ⟨(PyData.keyHash P (Str.ofString "choice")), (.str (Str.ofString "choice") 1635), (.ref 1083)⟩, ⟨(PyData.keyHash P (Str.ofString "__setitem__")), (.str (Str.ofString "__setitem__") 1646), (.ref 1091)⟩, ⟨(PyData.keyHash P (Str.ofString "__delitem__")), (.str (Str.ofString "__delitem__") 1658), (.ref 1099)⟩, ⟨(PyData.keyHash P (Str.ofString "popitem")), (.str (Str.ofString "popitem") 1668), (.ref 1106)⟩, ⟨(PyData.keyHash P (Str.ofString "clear")), (.str (Str.ofString "clear") 1675), (.ref 1113)⟩, ⟨(PyData.keyHash P (Str.ofString "__static_attributes__")), (.str (Str.ofString "__static_attributes__") 1679), (.ref 1114)⟩, ⟨(PyData.keyHash P (Str.ofString "__doc__")), (.str (Str.ofString "__doc__") 1680), .none⟩].toArray 2), [].toArray⟩
def o_1116 (P : Params) : Obj := ⟨(.ref 103), none, (.cls ⟨(Str.ofString "RRCache"), [(.ref 844)], [(.ref 1116), (.ref 844), (.ref 709), (.ref 457), (.ref 269), (.ref 210), (.ref 180), (.ref 246), (.type "object")], 1115, (Str.ofString "RRCache"), true, [], [], false, none, false⟩), [(some (.ref 1061)), none, (some (.str (Str.ofString "RRCache") 1606)), (some (.str (Str.ofString "RRCache") 1614)), (some (.builtin "object.__new__")), (some (.bool true))].toArray⟩
def o_1139 (P : Params) : Obj := ⟨(.type "code"), none, (.fields [(.str (Str.ofString "__init__") 1707), (.str (Str.ofString "_TimedCache._Timer.__init__") 1708), (.str (Str.ofString "/claim/cut.py") 1709), (.int (676) 0), (.int (2) 0), (.int (0) 0), (.int (0) 0), (.int (3) 0), (.ref 1134), (.bool true), (.int (273) 0), (.ref 1135), .none, (.ref 1136), (.ref 1137), (.ref 1138), (.int (1712) 0), (.int (676) 0), (.str (Str.ofString "/claim/cut.py") 1713)].toArray), [].toArray⟩
def o_1140 (P : Params) : Obj := ⟨(.type "function"), none, (.func ⟨(Str.ofString "__init__"), (Str.ofString "_TimedCache._Timer.__init__"), fnParams (fAt [38, 0, 0]), .stmts (fnBody (fAt [38, 0, 0])), fnScope (fAt [38, 0, 0]), 3, [], .none, .none, .none, (.str (Str.ofString "cachetools") 1145), none, (.ref 1139), .none, 0⟩), [].toArray⟩
def o_1146 (P : Params) : Obj := ⟨(.type "code"), none, (.fields [(.str (Str.ofString "__call__") 1715), (.str (Str.ofString "_TimedCache._Timer.__call__") 1716), (.str (Str.ofString "/claim/cut.py") 1717), (.int (680) 0), (.int (1) 0), (.int (0) 0), (.int (0) 0), (.int (3) 0), (.ref 1141), (.bool true), (.int (273) 0), (.ref 1142), .none, (.ref 1143), (.ref 1144), (.ref 1145), (.int (1719) 0), (.int (680) 0), (.str (Str.ofString "/claim/cut.py") 1720)].toArray), [].toArray⟩
def o_1147 (P : Params) : Obj := ⟨(.type "function"), none, (.func ⟨(Str.ofString "__call__"), (Str.ofString "_TimedCache._Timer.__call__"), fnParams (fAt [38, 0, 1]), .stmts (fnBody (fAt [38, 0, 1])), fnScope (fAt [38, 0, 1]), 3, [], .none, .none, .none, (.str (Str.ofString "cachetools") 1145), none, (.ref 1146), .none, 0⟩), [].toArray⟩
def o_1153 (P : Params) : Obj := ⟨(.type "code"), none, (.fields [(.str (Str.ofString "__enter__") 1722), (.str (Str.ofString "_TimedCache._Timer.__enter__") 1723), (.str (Str.ofString "/claim/cut.py") 1724), (.int (686) 0), (.int (1) 0), (.int (0) 0), (.int (0) 0), (.int (3) 0), (.ref 1148), (.bool true), (.int (273) 0), (.ref 1149), .none, (.ref 1150), (.ref 1151), (.ref 1152), (.int (1727) 0), (.int (686) 0), (.str (Str.ofString "/claim/cut.py") 1728)].toArray), [].toArray⟩
def o_1154 (P : Params) : Obj := ⟨(.type "function"), none, (.func ⟨(Str.ofString "__enter__"), (Str.ofString "_TimedCache._Timer.__enter__"), fnParams (fAt [38, 0, 2]), .stmts (fnBody (fAt [38, 0, 2])), fnScope (fAt [38, 0, 2]), 3, [], .none, .none, .none, (.str (Str.ofString "cachetools") 1145), none, (.ref 1153), .none, 0⟩), [].toArray⟩
def o_1160 (P : Params) : Obj := ⟨(.type "code"), none, (.fields [(.str (Str.ofString "__exit__") 1730), (.str (Str.ofString "_TimedCache._Timer.__exit__") 1731), (.str (Str.ofString "/claim/cut.py") 1732), (.int (694) 0), (.int (1) 0), (.int (0) 0), (.int (0) 0), (.int (7) 0), (.ref 1155), (.bool true), (.int (273) 0), (.ref 1156), .none, (.ref 1157), (.ref 1158), (.ref 1159), (.int (1735) 0), (.int (694) 0), (.str (Str.ofString "/claim/cut.py") 1736)].toArray), [].toArray⟩
def o_1161 (P : Params) : Obj := ⟨(.type "function"), none, (.func ⟨(Str.ofString "__exit__"), (Str.ofString "_TimedCache._Timer.__exit__"), fnParams (fAt [38, 0, 3]), .stmts (fnBody (fAt [38, 0, 3])), fnScope (fAt [38, 0, 3]), 3, [], .none, .none, .none, (.str (Str.ofString "cachetools") 1145), none, (.ref 1160), .none, 0⟩), [].toArray⟩
def o_1174 (P : Params) : Obj := ⟨(.type "code"), none, (.fields [(.str (Str.ofString "__getattr__") 1745), (.str (Str.ofString "_TimedCache._Timer.__getattr__") 1746), (.str (Str.ofString "/claim/cut.py") 1747), (.int (700) 0), (.int (2) 0), (.int (0) 0), (.int (0) 0), (.int (3) 0), (.ref 1169), (.bool true), (.int (273) 0), (.ref 1170), .none, (.ref 1171), (.ref 1172), (.ref 1173), (.int (1750) 0), (.int (700) 0), (.str (Str.ofString "/claim/cut.py") 1751)].toArray), [].toArray⟩
def o_1175 (P : Params) : Obj := ⟨(.type "function"), none, (.func ⟨(Str.ofString "__getattr__"), (Str.ofString "_TimedCache._Timer.__getattr__"), fnParams (fAt [38, 0, 5]), .stmts (fnBody (fAt [38, 0, 5])), fnScope (fAt [38, 0, 5]), 3, [], .none, .none, .none, (.str (Str.ofString "cachetools") 1145), none, (.ref 1174), .none, 0⟩), [].toArray⟩
def o_1177 (P : Params) : Obj := ⟨(.type "dict"), none, (.dict [⟨(PyData.keyHash P (Str.ofString "__module__")), (.str (Str.ofString "__module__") 1702), (.str (Str.ofString "cachetools") 1145)⟩, ⟨(PyData.keyHash P (Str.ofString "__firstlineno__")), (.str (Str.ofString "__firstlineno__") 1706), (.int (674) 1705)⟩, ⟨(PyData.keyHash P (Str.ofString "__init__")), (.str (Str.ofString "__init__") 1714), (.ref 1140)⟩, ⟨(PyData.keyHash P (Str.ofString "__call__")), (.str (Str.ofString "__call__") 1721), (.ref 1147)⟩, ⟨(PyData.keyHash P (Str.ofString "__enter__")), (.str (Str.ofString "__enter__") 1729), (.ref 1154)⟩, ⟨(PyData.keyHash P (Str.ofString "__exit__")), (.str (Str.ofString "__exit__") 1737), (.ref 1161)⟩, ⟨(PyData.keyHash P (Str.ofString "__reduce__")), (.str (Str.ofString "__reduce__") 1744), (.ref 1168)⟩, ⟨(PyData.keyHash P (Str.ofString "__getattr__")), (.str (Str.ofString "__getattr__") 1752), (.ref 1175)⟩, ⟨(PyData.keyHash P (Str.ofString "__static_attributes__")), (.str (Str.ofString "__static_attributes__") 1756), (.ref 1176)⟩, ⟨(PyData.keyHash P (Str.ofString "__dict__")), (.str (Str.ofString "__dict__") 1758), (.ref 1179)⟩, ⟨(PyData.keyHash P (Str.ofString "__weakref__")), (.str (Str.ofString "__weakref__") 1760), (.ref 1180)⟩, ⟨(PyData.keyHash P (Str.ofString "__doc__")), (.str (Str.ofString "__doc__") 1761), .none⟩].toArray 4), [].toArray⟩
def o_1178 (P : Params) : Obj := ⟨(.type "type"), none, (.cls ⟨(Str.ofString "_Timer"), [(.type "object")], [(.ref 1178), (.type "object")], 1177, (Str.ofString "_TimedCache._Timer"), true, [], [], false, none, false⟩), [none, none, (some (.str (Str.ofString "_Timer") 1695)), (some (.str (Str.ofString "_TimedCache._Timer") 1703)), (some (.builtin "object.__new__")), (some (.bool true))].toArray⟩
def o_1183 (P : Params) : Obj := ⟨(.type "tuple"), none, (.seq [.none].toArray 0), [].toArray⟩
def o_1189 (P : Params) : Obj := ⟨(.type "code"), none, (.fields [(.str (Str.ofString "__init__") 1764), (.str (Str.ofString "_TimedCache.__init__") 1765), (.str (Str.ofString "/claim/cut.py") 1766), (.int (703) 0), (.int (4) 0), (.int (0) 0), (.int (0) 0), (.int (3) 0), (.ref 1184), (.bool true), (.int (273) 0), (.ref 1185), .none, (.ref 1186), (.ref 1187), (.ref 1188), (.int (1771) 0), (.int (703) 0), (.str (Str.ofString "/claim/cut.py") 1772)].toArray), [].toArray⟩
def o_1190 (P : Params) : Obj := ⟨(.type "function"), none, (.func ⟨(Str.ofString "__init__"), (Str.ofString "_TimedCache.__init__"), fnParams (fAt [38, 1]), .stmts (fnBody (fAt [38, 1])), fnScope (fAt [38, 1]), 3, [], (.ref 1183), .none, .none, (.str (Str.ofString "cachetools") 1145), none, (.ref 1189), .none, 0⟩), [].toArray⟩
def o_1215 (P : Params) : Obj := ⟨(.type "property"), none, (.fields [(.ref 1214), .none, .none, .none, (.str (Str.ofString "currsize") 1803), (.bool false)].toArray), [].toArray⟩
def o_1221 (P : Params) : Obj := ⟨(.type "code"), none, (.fields [(.str (Str.ofString "timer") 1804), (.str (Str.ofString "_TimedCache.timer") 1805), (.str (Str.ofString "/claim/cut.py") 1806), (.int (723) 0), (.int (1) 0), (.int (0) 0), (.int (0) 0), (.int (3) 0), (.ref 1216), (.bool true), (.int (273) 0), (.ref 1217), .none, (.ref 1218), (.ref 1219), (.ref 1220), (.int (1808) 0), (.int (723) 0), (.str (Str.ofString "/claim/cut.py") 1809)].toArray), [].toArray⟩
def o_1222 (P : Params) : Obj := ⟨(.type "function"), none, (.func ⟨(Str.ofString "timer"), (Str.ofString "_TimedCache.timer"), fnParams (fAt [38, 5]), .stmts (fnBody (fAt [38, 5])), fnScope (fAt [38, 5]), 3, [], .none, .none, .none, (.str (Str.ofString "cachetools") 1145), none, (.ref 1221), .none, 0⟩), [].toArray⟩
def o_1223 (P : Params) : Obj := ⟨(.type "property"), none, (.fields [(.ref 1222), .none, .none, .none, (.str (Str.ofString "timer") 1811), (.bool false)].toArray), [].toArray⟩
def o_1261 (P : Params) : Obj := ⟨(.type "dict"), none, (.dict [⟨(PyData.keyHash P (Str.ofString "__module__")), (.str (Str.ofString "__module__") 1690), (.str (Str.ofString "cachetools") 1145)⟩, ⟨(PyData.keyHash P (Str.ofString "__firstlineno__")), (.str (Str.ofString "__firstlineno__") 1694), (.int (672) 1693)⟩, ⟨(PyData.keyHash P (Str.ofString "_Timer")), (.str (Str.ofString "_Timer") 1763), (.ref 1178)⟩, ⟨(PyData.keyHash P (Str.ofString "__init__")), (.str (Str.ofString "__init__") 1773), (.ref 1190)⟩, ⟨(PyData.keyHash P (Str.ofString "__repr__")), (.str (Str.ofString "__repr__") 1783), (.ref 1198)⟩, ⟨(PyData.keyHash P (Str.ofString "__len__")), (.str (Str.ofString "__len__") 1793), (.ref 1206)⟩, ⟨(PyData.keyHash P (Str.ofString "currsize")), (.str (Str.ofString "currsize") 1803), (.ref 1215)⟩, ⟨(PyData.keyHash P (Str.ofString "timer")), (.str (Str.ofString "timer") 1811), (.ref 1223)⟩, ⟨(PyData.keyHash P (Str.ofString "get")), (.str (Str.ofString "get") 1820), (.ref 1230)⟩, ⟨(PyData.keyHash P (Str.ofString "pop")), (.str (Str.ofString "pop") 1829), (.ref 1237)⟩, ⟨(PyData.keyHash P (Str.ofString "setdefault")), (.str (Str.ofString "setdefault") 1838), (.ref 1244)⟩, ⟨(PyData.keyHash P (Str.ofString "clear")), (.str (Str.ofString "clear") 1845), (.ref 1251)⟩, ⟨(PyData.keyHash P (Str.ofString "expire")), (.str (Str.ofString "expire") 1853), (.ref 1259)⟩, ⟨(PyData.keyHash P (Str.ofString "__static_attributes__")), (.str (Str.ofString "__static_attributes__") 1855), (.ref 1260)⟩, ⟨(PyData.keyHash P (Str.ofString "__doc__")), (.str (Str.ofString "__doc__") 1857), .none⟩].toArray 3), [].toArray⟩
def o_1262 (P : Params) : Obj := ⟨(.ref 103), none, (.cls ⟨(Str.ofString "_TimedCache"), [(.ref 844)], [(.ref 1262), (.ref 844), (.ref 709), (.ref 457), (.ref 269), (.ref 210), (.ref 180), (.ref 246), (.type "object")], 1261, (Str.ofString "_TimedCache"), true, [], [(.ref 1404)], false, none, false⟩), [(some (.ref 1119)), none, (some (.str (Str.ofString "_TimedCache") 1683)), (some (.str (Str.ofString "_TimedCache") 1691)), (some (.builtin "object.__new__")), (some (.bool true))].toArray⟩
def o_1287 (P : Params) : Obj := ⟨(.type "tuple"), none, (.seq [.none, .none].toArray 0), [].toArray⟩
def o_1293 (P : Params) : Obj := ⟨(.type "code"), none, (.fields [(.str (Str.ofString "__init__") 1901), (.str (Str.ofString "TTLCache._Link.__init__") 1902), (.str (Str.ofString "/claim/cut.py") 1903), (.int (752) 0), (.int (3) 0), (.int (0) 0), (.int (0) 0), (.int (3) 0), (.ref 1288), (.bool true), (.int (273) 0), (.ref 1289), .none, (.ref 1290), (.ref 1291), (.ref 1292), (.int (1907) 0), (.int (752) 0), (.str (Str.ofString "/claim/cut.py") 1908)].toArray), [].toArray⟩
def o_1294 (P : Params) : Obj := ⟨(.type "function"), none, (.func ⟨(Str.ofString "__init__"), (Str.ofString "TTLCache._Link.__init__"), fnParams (fAt [42, 0, 1]), .stmts (fnBody (fAt [42, 0, 1])), fnScope (fAt [42, 0, 1]), 3, [], (.ref 1287), .none, .none, (.str (Str.ofString "cachetools") 1870), none, (.ref 1293), .none, 0⟩), [].toArray⟩
def o_1307 (P : Params) : Obj := ⟨(.type "code"), none, (.fields [(.str (Str.ofString "unlink") 1917), (.str (Str.ofString "TTLCache._Link.unlink") 1918), (.str (Str.ofString "/claim/cut.py") 1919), (.int (759) 0), (.int (1) 0), (.int (0) 0), (.int (0) 0), (.int (3) 0), (.ref 1302), (.bool true), (.int (273) 0), (.ref 1303), .none, (.ref 1304), (.ref 1305), (.ref 1306), (.int (1923) 0), (.int (759) 0), (.str (Str.ofString "/claim/cut.py") 1924)].toArray), [].toArray⟩
def o_1308 (P : Params) : Obj := ⟨(.type "function"), none, (.func ⟨(Str.ofString "unlink"), (Str.ofString "TTLCache._Link.unlink"), fnParams (fAt [42, 0, 3]), .stmts (fnBody (fAt [42, 0, 3])), fnScope (fAt [42, 0, 3]), 3, [], .none, .none, .none, (.str (Str.ofString "cachetools") 1870), none, (.ref 1307), .none, 0⟩), [].toArray⟩
def o_1311 (P : Params) : Obj := ⟨(.type "dict"), none, (.dict [⟨(PyData.keyHash P (Str.ofString "__module__")), (.str (Str.ofString "__module__") 1891), (.str (Str.ofString "cachetools") 1870)⟩, ⟨(PyData.keyHash P (Str.ofString "__firstlineno__")), (.str (Str.ofString "__firstlineno__") 1895), (.int (749) 1894)⟩, ⟨(PyData.keyHash P (Str.ofString "__slots__")), (.str (Str.ofString "__slots__") 1900), (.ref 1286)⟩, ⟨(PyData.keyHash P (Str.ofString "__init__")), (.str (Str.ofString "__init__") 1909), (.ref 1294)⟩, ⟨(PyData.keyHash P (Str.ofString "__reduce__")), (.str (Str.ofString "__reduce__") 1916), (.ref 1301)⟩, ⟨(PyData.keyHash P (Str.ofString "unlink")), (.str (Str.ofString "unlink") 1925), (.ref 1308)⟩, ⟨(PyData.keyHash P (Str.ofString "__static_attributes__")), (.str (Str.ofString "__static_attributes__") 1928), (.ref 1309)⟩, ⟨(PyData.keyHash P (Str.ofString "expires")), (.str (Str.ofString "expires") 1930), (.ref 1313)⟩, ⟨(PyData.keyHash P (Str.ofString "key")), (.str (Str.ofString "key") 1932), (.ref 1314)⟩, ⟨(PyData.keyHash P (Str.ofString "next")), (.str (Str.ofString "next") 1934), (.ref 1315)⟩, ⟨(PyData.keyHash P (Str.ofString "prev")), (.str (Str.ofString "prev") 1936), (.ref 1316)⟩, ⟨(PyData.keyHash P (Str.ofString "__doc__")), (.str (Str.ofString "__doc__") 1937), .none⟩].toArray 6), [].toArray⟩
def o_1312 (P : Params) : Obj := ⟨(.type "type"), none, (.cls ⟨(Str.ofString "_Link"), [(.type "object")], [(.ref 1312), (.type "object")], 1311, (Str.ofString "TTLCache._Link"), false, [(Str.ofString "expires"), (Str.ofString "key"), (Str.ofString "next"), (Str.ofString "prev")], [], false, none, false⟩), [none, none, (some (.str (Str.ofString "_Link") 1884)), (some (.str (Str.ofString "TTLCache._Link") 1892)), (some (.builtin "object.__new__")), (some (.bool false))].toArray⟩
def o_1313 (P : Params) : Obj := ⟨(.type "member_descriptor"), none, (.fields [(.str (Str.ofString "expires") 1929), (.ref 1312), (.builtin "proto.slot"), (.builtin "proto.slot#set"), (.int (3) 0)].toArray), [].toArray⟩
def o_1314 (P : Params) : Obj := ⟨(.type "member_descriptor"), none, (.fields [(.str (Str.ofString "key") 1931), (.ref 1312), (.builtin "proto.slot"), (.builtin "proto.slot#set"), (.int (2) 0)].toArray), [].toArray⟩
def o_1315 (P : Params) : Obj := ⟨(.type "member_descriptor"), none, (.fields [(.str (Str.ofString "next") 1933), (.ref 1312), (.builtin "proto.slot"), (.builtin "proto.slot#set"), (.int (1) 0)].toArray), [].toArray⟩
def o_1316 (P : Params) : Obj := ⟨(.type "member_descriptor"), none, (.fields [(.str (Str.ofString "prev") 1935), (.ref 1312), (.builtin "proto.slot"), (.builtin "proto.slot#set"), (.int (0) 0)].toArray), [].toArray⟩
def o_1319 (P : Params) : Obj := ⟨(.type "tuple"), none, (.seq [(.ref 1271), .none].toArray 0), [].toArray⟩
def o_1325 (P : Params) : Obj := ⟨(.type "code"), none, (.fields [(.str (Str.ofString "__init__") 1940), (.str (Str.ofString "TTLCache.__init__") 1941), (.str (Str.ofString "/claim/cut.py") 1942), (.int (765) 0), (.int (5) 0), (.int (0) 0), (.int (0) 0), (.int (3) 0), (.ref 1320), (.bool true), (.int (273) 0), (.ref 1321), .none, (.ref 1322), (.ref 1323), (.ref 1324), (.int (1949) 0), (.int (765) 0), (.str (Str.ofString "/claim/cut.py") 1950)].toArray), [].toArray⟩
def o_1326 (P : Params) : Obj := ⟨(.type "function"), none, (.func ⟨(Str.ofString "__init__"), (Str.ofString "TTLCache.__init__"), fnParams (fAt [42, 1]), .stmts (fnBody (fAt [42, 1])), fnScope (fAt [42, 1]), 3, [], (.ref 1319), .none, .none, (.str (Str.ofString "cachetools") 1870), none, (.ref 1325), .none, 0⟩), [].toArray⟩
def o_1342 (P : Params) : Obj := ⟨(.type "tuple"), none, (.seq [(.ref 749)].toArray 0), [].toArray⟩
def o_1348 (P : Params) : Obj := ⟨(.type "code"), none, (.fields [(.str (Str.ofString "__setitem__") 1974), (.str (Str.ofString "TTLCache.__setitem__") 1975), (.str (Str.ofString "/claim/cut.py") 1976), (.int (792) 0), (.int (4) 0), (.int (0) 0), (.int (0) 0), (.int (3) 0), (.ref 1343), (.bool true), (.int (273) 0), (.ref 1344), .none, (.ref 1345), (.ref 1346), (.ref 1347), (.int (1987) 0), (.int (792) 0), (.str (Str.ofString "/claim/cut.py") 1988)].toArray), [].toArray⟩
def o_1349 (P : Params) : Obj := ⟨(.type "function"), none, (.func ⟨(Str.ofString "__setitem__"), (Str.ofString "TTLCache.__setitem__"), fnParams (fAt [42, 4]), .stmts (fnBody (fAt [42, 4])), fnScope (fAt [42, 4]), 3, [], (.ref 1342), .none, .none, (.str (Str.ofString "cachetools") 1870), none, (.ref 1348), .none, 0⟩), [].toArray⟩
def o_1379 (P : Params) : Obj := ⟨(.type "property"), none, (.fields [(.ref 1378), .none, .none, .none, (.str (Str.ofString "ttl") 2029), (.bool false)].toArray), [].toArray⟩
def o_1380 (P : Params) : Obj := ⟨(.type "tuple"), none, (.seq [.none].toArray 0), [].toArray⟩
def o_1386 (P : Params) : Obj := ⟨(.type "code"), none, (.fields [(.str (Str.ofString "expire") 2030), (.str (Str.ofString "TTLCache.expire") 2031), (.str (Str.ofString "/claim/cut.py") 2032), (.int (839) 0), (.int (2) 0), (.int (0) 0), (.int (0) 0), (.int (3) 0), (.ref 1381), (.bool true), (.int (273) 0), (.ref 1382), .none, (.ref 1383), (.ref 1384), (.ref 1385), (.int (2042) 0), (.int (839) 0), (.str (Str.ofString "/claim/cut.py") 2043)].toArray), [].toArray⟩
def o_1387 (P : Params) : Obj := ⟨(.type "function"), none, (.func ⟨(Str.ofString "expire"), (Str.ofString "TTLCache.expire"), fnParams (fAt [42, 9]), .stmts (fnBody (fAt [42, 9])), fnScope (fAt [42, 9]), 3, [], (.ref 1380), .none, .none, (.str (Str.ofString "cachetools") 1870), none, (.ref 1386), .none, 0⟩), [].toArray⟩
def o_1403 (P : Params) : Obj := ⟨(.type "dict"), none, (.dict [⟨(PyData.keyHash P (Str.ofString "__module__")), (.str (Str.ofString "__module__") 1879), (.str (Str.ofString "cachetools") 1870)⟩, ⟨(PyData.keyHash P (Str.ofString "__firstlineno__")), (.str (Str.ofString "__firstlineno__") 1883), (.int (747) 1882)⟩, ⟨(PyData.keyHash P (Str.ofString "_Link")), (.str (Str.ofString "_Link") 1939), (.ref 1312)⟩, ⟨(PyData.keyHash P (Str.ofString "__init__")), (.str (Str.ofString "__init__") 1951), (.ref 1326)⟩, ⟨(PyData.keyHash P (Str.ofString "__contains__")), (.str (Str.ofString "__contains__") 1960), (.ref 1333)⟩, ⟨(PyData.keyHash P (Str.ofString "__getitem__")), (.str (Str.ofString "__getitem__") 1972), (.ref 1341)⟩, ⟨(PyData.keyHash P (Str.ofString "__setitem__")), (.str (Str.ofString "__setitem__") 1989), (.ref 1349)⟩, ⟨(PyData.keyHash P (Str.ofString "__delitem__")), (.str (Str.ofString "__delitem__") 2000), (.ref 1357)⟩, ⟨(PyData.keyHash P (Str.ofString "__iter__")), (.str (Str.ofString "__iter__") 2010), (.ref 1364)⟩, ⟨(PyData.keyHash P (Str.ofString "__setstate__")), (.str (Str.ofString "__setstate__") 2021), (.ref 1371)⟩, ⟨(PyData.keyHash P (Str.ofString "ttl")), (.str (Str.ofString "ttl") 2029), (.ref 1379)⟩, ⟨(PyData.keyHash P (Str.ofString "expire")), (.str (Str.ofString "expire") 2044), (.ref 1387)⟩, ⟨(PyData.keyHash P (Str.ofString "popitem")), (.str (Str.ofString "popitem") 2054), (.ref 1394)⟩, ⟨(PyData.keyHash P (Str.ofString "clear")), (.str (Str.ofString "clear") 2061), (.ref 1401)⟩, ⟨(PyData.keyHash P (Str.ofString "__static_attributes__")), (.str (Str.ofString "__static_attributes__") 2065), (.ref 1402)⟩, ⟨(PyData.keyHash P (Str.ofString "__doc__")), (.str (Str.ofString "__doc__") 2066), .none⟩].toArray 2), [].toArray⟩
def o_1404 (P : Params) : Obj := ⟨(.ref 103), none, (.cls ⟨(Str.ofString "TTLCache"), [(.ref 1262)], [(.ref 1404), (.ref 1262), (.ref 844), (.ref 709), (.ref 457), (.ref 269), (.ref 210), (.ref 180), (.ref 246), (.type "object")], 1403, (Str.ofString "TTLCache"), true, [], [], false, none, false⟩), [(some (.ref 1272)), none, (some (.str (Str.ofString "TTLCache") 1872)), (some (.str (Str.ofString "TTLCache") 1880)), (some (.builtin "object.__new__")), (some (.bool true))].toArray⟩
def o_1412 (P : Params) : Obj := ⟨(.type "code"), none, (.fields [(.str (Str.ofString "_law_at") 2071), (.str (Str.ofString "_law_at") 2072), (.str (Str.ofString "/claim/cut.py") 2073), (.int (874) 0), (.int (3) 0), (.int (0) 0), (.int (0) 0), (.int (3) 0), (.ref 1407), (.bool true), (.int (273) 0), (.ref 1408), .none, (.ref 1409), (.ref 1410), (.ref 1411), (.int (2077) 0), (.int (874) 0), (.str (Str.ofString "/claim/cut.py") 2078)].toArray), [].toArray⟩
def o_1413 (P : Params) : Obj := ⟨(.type "function"), none, (.func ⟨(Str.ofString "_law_at"), (Str.ofString "_law_at"), fnParams (fAt [44]), .stmts (fnBody (fAt [44])), fnScope (fAt [44]), 3, [], .none, .none, .none, (.str (Str.ofString "law_sx0014_01") 2069), none, (.ref 1412), .none, 0⟩), [].toArray⟩
def o_1419 (P : Params) : Obj := ⟨(.type "code"), none, (.fields [(.str (Str.ofString "_law_line") 2080), (.str (Str.ofString "_law_line") 2081), (.str (Str.ofString "/claim/cut.py") 2082), (.int (876) 0), (.int (3) 0), (.int (0) 0), (.int (0) 0), (.int (3) 0), (.ref 1414), (.bool true), (.int (273) 0), (.ref 1415), .none, (.ref 1416), (.ref 1417), (.ref 1418), (.int (2088) 0), (.int (876) 0), (.str (Str.ofString "/claim/cut.py") 2089)].toArray), [].toArray⟩
def o_1420 (P : Params) : Obj := ⟨(.type "function"), none, (.func ⟨(Str.ofString "_law_line"), (Str.ofString "_law_line"), fnParams (fAt [45]), .stmts (fnBody (fAt [45])), fnScope (fAt [45]), 3, [], .none, .none, .none, (.str (Str.ofString "law_sx0014_01") 2069), none, (.ref 1419), .none, 0⟩), [].toArray⟩
def o_1424 (P : Params) : Obj := ⟨(.type "code"), none, (.fields [(.str (Str.ofString "_law_next") 2091), (.str (Str.ofString "_law_next") 2092), (.str (Str.ofString "/claim/cut.py") 2093), (.int (889) 0), (.int (3) 0), (.int (0) 0), (.int (0) 0), (.int (3) 0), (.ref 1421), (.bool true), (.int (273) 0), (.ref 1422), .none, .none, .none, (.ref 1423), (.int (2094) 0), (.int (889) 0), (.str (Str.ofString "/claim/cut.py") 2095)].toArray), [].toArray⟩
def o_1425 (P : Params) : Obj := ⟨(.type "function"), none, (.func ⟨(Str.ofString "_law_next"), (Str.ofString "_law_next"), fnParams (fAt [46]), .stmts (fnBody (fAt [46])), fnScope (fAt [46]), 3, [], .none, .none, .none, (.str (Str.ofString "law_sx0014_01") 2069), none, (.ref 1424), .none, 0⟩), [].toArray⟩
def o_1429 (P : Params) : Obj := ⟨(.type "code"), none, (.fields [(.str (Str.ofString "law") 2097), (.str (Str.ofString "law") 2098), (.str (Str.ofString "/claim/cut.py") 2099), (.int (897) 0), (.int (1) 0), (.int (0) 0), (.int (0) 0), (.int (3) 0), (.ref 1426), (.bool true), (.int (273) 0), (.ref 1427), .none, .none, .none, (.ref 1428), (.int (2100) 0), (.int (897) 0), (.str (Str.ofString "/claim/cut.py") 2101)].toArray), [].toArray⟩
def o_1430 (P : Params) : Obj := ⟨(.type "function"), none, (.func ⟨(Str.ofString "law"), (Str.ofString "law"), fnParams (fAt [47]), .stmts (fnBody (fAt [47])), fnScope (fAt [47]), 3, [], .none, .none, .none, (.str (Str.ofString "law_sx0014_01") 2069), none, (.ref 1429), .none, 0⟩), [].toArray⟩
def asK : List Addr := [1, 2, 3, 4, 69, 70, 102, 103, 179, 180, 209, 210, 245, 246, 268, 269, 456, 457, 659, 673, 674, 708, 709, 720, 721, 727, 728, 741, 742, 748, 749, 755, 756, 762, 763, 776, 777, 783, 784, 785, 791, 792, 793, 799, 800, 823, 831, 837, 838, 840, 843, 844, 856, 862, 863, 864, 870, 871, 872, 878, 879, 885, 886, 895, 896, 919, 920, 926, 927, 930, 931, 932, 933, 934, 935, 938, 944, 945, 946, 952, 953, 954, 960, 961, 962, 968, 969, 975, 976, 989, 990, 992, 993, 1003, 1009, 1010, 1011, 1017, 1018, 1019, 1025, 1026, 1027, 1033, 1034, 1040, 1041, 1054, 1055, 1057, 1058, 1068, 1074, 1075, 1083, 1084, 1090, 1091, 1092, 1098, 1099, 1105, 1106, 1115, 1116, 1139, 1140, 1146, 1147, 1153, 1154, 1160, 1161, 1174, 1175, 1177, 1178, 1183, 1189, 1190, 1215, 1221, 1222, 1223, 1261, 1262, 1287, 1293, 1294, 1307, 1308, 1311, 1312, 1313, 1314, 1315, 1316, 1319, 1325, 1326, 1342, 1348, 1349, 1379, 1380, 1386, 1387, 1403, 1404, 1412, 1413, 1419, 1420, 1424, 1425, 1429, 1430, 1415, 1427]
def KF (P : Params) : Frag := [(1, o_1 P), (2, o_2 P), (3, o_3 P), (4, o_4 P), (69, o_69 P), (70, o_70 P), (102, o_102 P), (103, o_103 P), (179, o_179 P), (180, o_180 P), (209, o_209 P), (210, o_210 P), (245, o_245 P), (246, o_246 P), (268, o_268 P), (269, o_269 P), (456, o_456 P), (457, o_457 P), (659, o_659 P), (673, o_673 P), (674, o_674 P), (708, o_708 P), (709, o_709 P), (720, o_720 P), (721, o_721 P), (727, o_727 P), (728, o_728 P), (741, o_741 P), (742, o_742 P), (748, o_748 P), (749, o_749 P), (755, o_755 P), (756, o_756 P), (762, o_762 P), (763, o_763 P), (776, o_776 P), (777, o_777 P), (783, o_783 P), (784, o_784 P), (785, o_785 P), (791, o_791 P), (792, o_792 P), (793, o_793 P), (799, o_799 P), (800, o_800 P), (823, o_823 P), (831, o_831 P), (837, o_837 P), (838, o_838 P), (840, o_840 P), (843, o_843 P), (844, o_844 P), (856, o_856 P), (862, o_862 P), (863, o_863 P), (864, o_864 P), (870, o_870 P), (871, o_871 P), (872, o_872 P), (878, o_878 P), (879, o_879 P), (885, o_885 P), (886, o_886 P), (895, o_895 P), (896, o_896 P), (919, o_919 P), (920, o_920 P), (926, o_926 P), (927, o_927 P), (930, o_930 P), (931, o_931 P), (932, o_932 P), (933, o_933 P), (934, o_934 P), (935, o_935 P), (938, o_938 P), (944, o_944 P), (945, o_945 P), (946, o_946 P), (952, o_952 P), (953, o_953 P), (954, o_954 P), (960, o_960 P), (961, o_961 P), (962, o_962 P), (968, o_968 P), (969, o_969 P), (975, o_975 P), (976, o_976 P), (989, o_989 P), (990, o_990 P), (992, o_992 P), (993, o_993 P), (1003, o_1003 P), (1009, o_1009 P), (1010, o_1010 P), (1011, o_1011 P), (1017, o_1017 P), (1018, o_1018 P), (1019, o_1019 P), (1025, o_1025 P), (1026, o_1026 P), (1027, o_1027 P), (1033, o_1033 P), (1034, o_1034 P), (1040, o_1040 P), (1041, o_1041 P), (1054, o_1054 P), (1055, o_1055 P), (1057, o_1057 P), (1058, o_1058 P), (1068, o_1068 P), (1074, o_1074 P), (1075, o_1075 P), (1083, o_1083 P), (1084, o_1084 P), (1090, o_1090 P), (1091, o_1091 P), (1092, o_1092 P), (1098, o_1098 P), (1099, o_1099 P), (1105, o_1105 P), (1106, o_1106 P), (1115, o_1115 P), (1116, o_1116 P), (1139, o_1139 P), (1140, o_1140 P), (1146, o_1146 P), (1147, o_1147 P), (1153, o_1153 P), (1154, o_1154 P), (1160, o_1160 P), (1161, o_1161 P), (1174, o_1174 P), (1175, o_1175 P), (1177, o_1177 P), (1178, o_1178 P), (1183, o_1183 P), (1189, o_1189 P), (1190, o_1190 P), (1215, o_1215 P), (1221, o_1221 P), (1222, o_1222 P), (1223, o_1223 P), (1261, o_1261 P), (1262, o_1262 P), (1287, o_1287 P), (1293, o_1293 P), (1294, o_1294 P), (1307, o_1307 P), (1308, o_1308 P), (1311, o_1311 P), (1312, o_1312 P), (1313, o_1313 P), (1314, o_1314 P), (1315, o_1315 P), (1316, o_1316 P), (1319, o_1319 P), (1325, o_1325 P), (1326, o_1326 P), (1342, o_1342 P), (1348, o_1348 P), (1349, o_1349 P), (1379, o_1379 P), (1380, o_1380 P), (1386, o_1386 P), (1387, o_1387 P), (1403, o_1403 P), (1404, o_1404 P), (1412, o_1412 P), (1413, o_1413 P), (1419, o_1419 P), (1420, o_1420 P), (1424, o_1424 P), (1425, o_1425 P), (1429, o_1429 P), (1430, o_1430 P)]

def KY (P : Params) : Frag := KF P ++ [(1415, ⟨.none, none, .fields [].toArray, [].toArray⟩), (1427, ⟨.none, none, .fields [].toArray, [].toArray⟩)]
def Yf (s : Shared) : List (Option Obj) := asK.map s.heap.get?
def Ya (w : World) : List (Option Obj) := (KY w.params).map fun p => some p.2
theorem kf_ok (P : Params) : (KY P).all (fun p => Nat.blt p.1 1431 && match p.2.data with | .freed => false | _ => true) = true := by kernel_rfl
theorem kf_as (P : Params) : asK = (KY P).map (·.1) := by kernel_rfl
end Mine

namespace Mine

def topRunT (stp : SharedT → Thread → Option (SharedT × Thread)) (ok : Thread → Bool) : Nat → SharedT → Thread → Option SharedT
  | 0, _, _ => none
  | n + 1, s, t => match through t with
    | true => some s
    | false => match ok t with
      | false => none
      | true => match stp s t with
        | some (s', t') => topRunT stp ok n s' t'
        | none => none

theorem topRunT_spec {tb : String → Option Builtin} {p : Program} {w : World} {n₀ : Nat} {ann : Option Value} : ∀ {n : Nat} {s s' : SharedT} {t : Thread},
    topRunT (stepT (denote tb) p w) (stepOk n₀ ann) n s t = some s' → topRun tb p w n₀ ann n s.abs t = some s'.abs
  | 0, _, _, _, h => by cases h
  | n + 1, s, s', t, h => by
    unfold topRunT at h
    unfold topRun
    cases he : through t with
    | true => rw [he] at h; cases h; rfl
    | false =>
      rw [he] at h
      cases hk : stepOk n₀ ann t with
      | false => rw [hk] at h; cases h
      | true =>
        rw [hk] at h
        cases hs : stepT (denote tb) p w s t with
        | none => rw [hs] at h; cases h
        | some r => obtain ⟨s₂, t₂⟩ := r; rw [hs] at h; rw [stepT_spec hs]; exact topRunT_spec h

def toT : List Obj → BT → Nat → Option (BT × Nat)
  | [], T, n => some (T, n)
  | o :: r, T, n => match ((T.ins n o).get n).isSome with
    | true => toT r (T.ins n o) (n + 1)
    | false => none
theorem toT_spec {life : Life} : ∀ {l : List Obj} {T : BT} {n : Nat} {r : BT × Nat}, toT l T n = some r → absHeap r.1 r.2 life = ⟨(absHeap T n life).objs ++ l.toArray, life⟩
  | [], T, n, r, h => by
    cases h
    show absHeap T n life = _
    simp [absHeap]
  | o :: l, T, n, r, h => by
    unfold toT at h
    split at h
    · rename_i g
      rw [toT_spec h, absHeap_ins g]
      simp [absHeap, Heap.push]
    · cases h
def sharedT (s : Shared) : Option SharedT := match toT s.heap.objs.toList .nil 0 with
  | some r => some ⟨r.1, r.2, s.heap.life, s.gens, s.drawn, s.toks, s.os⟩
  | none => none
theorem sharedT_spec {s : Shared} {r : SharedT} (h : sharedT s = some r) : r.abs = s := by
  unfold sharedT at h
  split at h
  · rename_i r' e
    cases h
    have z := toT_spec (life := s.heap.life) e
    obtain ⟨⟨objs, life⟩, g, d, t, os⟩ := s
    simp only [SharedT.abs, z]
    simp [absHeap, BT.list]
  · cases h

def openEndsT (imp : Option Shared) (fence : Shared → Option Shared) (nsm : Heap → Addr → Str → Option Value) (stp : SharedT → Thread → Option (SharedT × Thread)) (ok : Nat → Option Value → Thread → Bool) (mods : List Str) (p : Program) (N : Nat) : Option SharedT :=
  (imp.bind fence).bind fun s₀ => match s₀.heap.isNs mainGlobals && s₀.gens.size == 0 with
  | true => (sharedT s₀).bind fun t₀ => (topRunT stp (ok s₀.heap.objs.size (nsm s₀.heap mainGlobals "__annotations__")) N t₀ (topStub p)).bind fun s₁ =>
      match staticsOk mods s₀.heap s₁.abs.heap && namesBound p s₁.abs.heap && gensDone s₁.abs && laidKept s₀.heap s₁.abs.heap with
      | true => some s₁
      | false => none
  | false => none
theorem openEndsT_spec {p : Program} {w : World} {N : Nat} {s : SharedT}
    (h : openEndsT (importEnds treeTable (opening p) w N (start (opening p)).1 (start (opening p)).2) (fenceModules? p) Heap.nsMap (stepT (denote treeTable) p w) stepOk (importedModules p.main.body) p N = some s) :
    openEnds treeTable p w N = some s.abs := by
  unfold openEndsT at h
  unfold openEnds fencedOpening
  obtain ⟨s₀, h0, h⟩ := Option.bind_eq_some_iff.mp h
  rw [h0]
  show topFrom treeTable p w N s₀ = _
  unfold topFrom
  split at h
  · rename_i e
    rw [e]
    obtain ⟨t₀, h1, h⟩ := Option.bind_eq_some_iff.mp h
    obtain ⟨s₁, h2, h⟩ := Option.bind_eq_some_iff.mp h
    have e1 := sharedT_spec h1
    have e2 := topRunT_spec h2
    rw [e1] at e2
    dsimp only
    rw [e2]
    show (match staticsOk (importedModules p.main.body) s₀.heap s₁.abs.heap && namesBound p s₁.abs.heap && gensDone s₁.abs && laidKept s₀.heap s₁.abs.heap with | true => some s₁.abs | false => none) = _
    split at h
    · rename_i e3; cases h; rfl
    · cases h
  · cases h

noncomputable def obsT (s : SharedT) := (PySem.W.Fast.tw4187177175401517315 qv looseNames (PySem.W.Fast.tw5923862056798008813 pw.main.body) (fun _ => true) true s.abs, s.n, asK.map s.tree.get)
theorem big : ∀ w : World, (openEndsT (PySem.W.Fast.tw10274390034422433532 PySem.W.Fast.tw14364793385576792824 (opening pw) w 30000 (start (opening pw)).1 (start (opening pw)).2) (PySem.W.Fast.tw14289696077712309145 pw) PySem.W.Fast.tw8920871248978507458
   (PySem.W.Fast.tw10156331382660048174 (PySem.W.Fast.tw11892475500146522536 PySem.W.Fast.tw14364793385576792824) pw w) PySem.W.Fast.tw6613529449190102663 (PySem.W.Fast.tw5923862056798008813 pw.main.body) pw 30000).map obsT = some (openGood qv looseNames, 1431, (KY w.params).map fun p => some p.2) := by
  intro w
  kernel_rfl
theorem look_ok {T : BT} {life : Life} : ∀ {l : Frag}, (l.map (·.1)).map T.get = l.map (fun p => some p.2) → l.all (fun p => Nat.blt p.1 1431 && match p.2.data with | .freed => false | _ => true) = true →
    (l.map (·.1)).map (absHeap T 1431 life).get? = l.map fun p => some p.2
  | [], _, _ => rfl
  | p :: l, h, k => by
    simp only [List.map_cons, List.cons.injEq, List.all_cons, Bool.and_eq_true] at h k ⊢
    refine ⟨?_, look_ok h.2 k.2⟩
    have lt : p.1 < 1431 := Nat.le_of_ble_eq_true k.1.1
    rw [abs_get lt h.1]
    obtain ⟨a, c, d, dt, sl⟩ := p
    have k2 := k.1.2
    cases dt <;> first | rfl | cases k2
theorem left : LeftO pw qv looseNames (fun _ => true) Yf Ya 30000 := by
  intro w
  have b := big w
  rw [← PySem.W.Fast.te10274390034422433532, ← PySem.W.Fast.te14364793385576792824, ← PySem.W.Fast.te14289696077712309145, ← PySem.W.Fast.te8920871248978507458, ← PySem.W.Fast.te10156331382660048174, ← PySem.W.Fast.te11892475500146522536, ← PySem.W.Fast.te6613529449190102663, ← PySem.W.Fast.te5923862056798008813] at b
  obtain ⟨s, hs, ho⟩ := Option.map_eq_some_iff.mp b
  unfold obsT at ho
  rw [← PySem.W.Fast.te4187177175401517315, ← PySem.W.Fast.te5923862056798008813] at ho
  simp only [Prod.mk.injEq] at ho
  rw [openEndsT_spec hs]
  show some (_, _) = some (_, _)
  rw [ho.1]
  refine congrArg some (congrArg (Prod.mk _) ?_)
  obtain ⟨T, n, life, g, d, tk, os⟩ := s
  obtain ⟨_, hn, hk⟩ := ho
  dsimp only at hn hk
  subst hn
  unfold Yf Ya
  rw [kf_as w.params] at hk ⊢
  exact look_ok hk (kf_ok w.params)
end Mine

namespace Mine
def lawRec : DefRec := match recsOf qv with | d :: _ => d | [] => ⟨Str.empty, ⟨[], [], none, [], [], none, []⟩, [], default, default⟩
theorem hdef : defOf qv ("law" : Str) = some (lawRec, []) := by kernel_rfl
theorem hdefp : pw.theDef ("law" : Str) = some (lawRec.params, lawRec.body, lawRec.scope) := by kernel_rfl
theorem hchain : chainsOk qv = true := by kernel_rfl
abbrev rowQ : OpenRow := OpenLaw.row PySem.Challenge.rw_sx0014_01
theorem hopens : opensWell pw = true := by kernel_rfl
theorem hfrees : (frees rowQ.toRowW && rowQ.within.isEmpty) = true := by kernel_rfl
set_option maxHeartbeats 0 in
theorem head (call : WalkX qv looseNames (fun _ _ => True) Yf Ya rowQ.toRowW lawRec [] (fun f vs => PySem.call f vs)) : PySem.Challenge.rw_sx0014_01.Holds := by
  o_law
  refine holds_openX (q := qv) (loose := looseNames) (Xt := fun _ => true) (XP := fun _ _ => True) (Yf := Yf) (Ya := Ya) (d := lawRec) (kwd := []) (N := 30000) left (fun _ _ => trivial) (fun _ _ _ h _ => h) hdef hdefp rfl (fun s _ => recFacts_nil rfl) rfl (by assumption) ?_ ⟨rfl, rfl, rfl, rfl, rfl, by decide +kernel⟩ ?hw call
  · rw [hchain, hfrees]
    show (true && opensWell pw && true) = true
    rw [hopens]; rfl
  case hw => w_witness2
end Mine

open PySem.Calls

namespace Mine

def loc : List Str → List (Option Value) → Str → Option Value
  | x :: T, v :: vs, y => if y = x then v else loc T vs y
  | _, _, _ => none
inductive Lget (x : Str) (v : Value) : List Str → List (Option Value) → Prop
  | here {T vs} : Lget x v (x :: T) (some v :: vs)
  | there {y u T vs} : Lget x v T vs → Lget x v (y :: T) (u :: vs)
inductive Lset (x : Str) (v : Value) : List Str → List (Option Value) → List (Option Value) → Prop
  | here {T u vs} : Lset x v (x :: T) (u :: vs) (some v :: vs)
  | there {y u T vs vs'} : Lset x v T vs vs' → Lset x v (y :: T) (u :: vs) (u :: vs')
theorem Lget.mem {x v} : ∀ {T vs}, Lget x v T vs → x ∈ T
  | _, _, .here => .head _
  | _, _, .there h => .tail _ h.mem
theorem Lset.mem {x v} : ∀ {T vs vs'}, Lset x v T vs vs' → x ∈ T
  | _, _, _, .here => .head _
  | _, _, _, .there h => .tail _ h.mem
theorem Lget.loc {x : Str} {v : Value} {T : List Str} {vs : List (Option Value)} (nd : T.Nodup) (h : Lget x v T vs) : loc T vs x = some v := by
  induction h with
  | here => unfold Mine.loc; rw [if_pos rfl]
  | there h ih =>
    unfold Mine.loc
    rename_i y u T vs
    have hn := List.nodup_cons.mp nd
    have hx : ¬ x = y := fun e => hn.1 (e ▸ h.mem)
    rw [if_neg hx]
    exact ih hn.2
theorem Lset.loc {x : Str} {v : Value} {T : List Str} {vs vs' : List (Option Value)} (nd : T.Nodup) (h : Lset x v T vs vs') : loc T vs' = fun y => if y = x then some v else loc T vs y := by
  induction h with
  | here =>
    funext z
    simp only [Mine.loc]
    by_cases h : z = x <;> simp [h]
  | there h ih =>
    rename_i y u T vs vs'
    have hn := List.nodup_cons.mp nd
    have hx : y ≠ x := fun e => hn.1 (e ▸ h.mem)
    funext z
    simp only [Mine.loc]
    rw [ih hn.2]
    by_cases h1 : z = y
    · subst h1; simp [hx]
    · simp [h1]

abbrev Led := List (Addr × (Obj → Prop))
inductive Sat : List (Addr × Obj) → Led → Prop
  | nil : Sat [] []
  | cons {a o P n l} : P o → Sat n l → Sat ((a, o) :: n) ((a, P) :: l)
theorem Sat.fst : ∀ {n l}, Sat n l → n.map (·.1) = l.map (·.1)
  | _, _, .nil => rfl
  | _, _, .cons _ h => by simp only [List.map_cons, h.fst]
theorem Sat.app : ∀ {n l n' l'}, Sat n l → Sat n' l' → Sat (n ++ n') (l ++ l')
  | _, _, _, _, .nil, k => k
  | _, _, _, _, .cons p h, k => .cons p (h.app k)
theorem Sat.split : ∀ {n} {l l' : Led}, Sat n (l ++ l') → ∃ a b, n = a ++ b ∧ Sat a l ∧ Sat b l'
  | n, [], l', h => ⟨[], n, rfl, .nil, h⟩
  | _, (a, P) :: l, l', .cons (o := o) p h =>
    let ⟨x, y, e, hx, hy⟩ := h.split
    ⟨(a, o) :: x, y, by rw [e]; rfl, .cons p hx, hy⟩
inductive Up (a : Addr) (P P' : Obj → Prop) : Led → Led → Prop
  | head {r} : Up a P P' ((a, P) :: r) ((a, P') :: r)
  | tail {p r r'} : Up a P P' r r' → Up a P P' (p :: r) (p :: r')
theorem Up.split {a P P'} : ∀ {l l' : Led}, Up a P P' l l' → ∃ pre post, l = pre ++ (a, P) :: post ∧ l' = pre ++ (a, P') :: post
  | _, _, .head => ⟨[], _, rfl, rfl⟩
  | _, _, .tail (p := p) h => let ⟨x, y, e1, e2⟩ := h.split; ⟨p :: x, y, by rw [e1]; rfl, by rw [e2]; rfl⟩
inductive Has (a : Addr) (P : Obj → Prop) : Led → Prop
  | head {r} : Has a P ((a, P) :: r)
  | tail {p r} : Has a P r → Has a P (p :: r)
theorem Has.mem {a P} : ∀ {l}, Has a P l → (a, P) ∈ l
  | _, .head => .head _
  | _, .tail h => .tail _ h.mem
theorem Has.split {a P} : ∀ {l : Led}, Has a P l → ∃ pre post, l = pre ++ (a, P) :: post
  | _, .head => ⟨[], _, rfl⟩
  | _, .tail (p := p) h => let ⟨x, y, e1⟩ := h.split; ⟨p :: x, y, by rw [e1]; rfl⟩
inductive Take (p : Addr × (Obj → Prop)) : Led → Led → Prop
  | head {r} : Take p (p :: r) r
  | tail {q r r'} : Take p r r' → Take p (q :: r) (q :: r')
theorem Take.perm {p} : ∀ {l l'}, Take p l l' → l.Perm (p :: l')
  | _, _, .head => .refl _
  | _, _, .tail (q := q) h => (h.perm.cons q).trans (.swap _ _ _)
inductive Pick : Led → Led → Led → Prop
  | nil {l} : Pick [] l l
  | cons {p fp l l' r} : Take p l l' → Pick fp l' r → Pick (p :: fp) l r
theorem Pick.perm : ∀ {fp l r}, Pick fp l r → l.Perm (fp ++ r)
  | _, _, _, .nil => .refl _
  | _, _, _, .cons t h => t.perm.trans (h.perm.cons _)

structure Cx where
  B : Heap
  frs : List (Addr × (Str → Option Value))
  g : Array GenState
  os : OsState
def NsObj (m : Str → Option Value) (o : Obj) : Prop := ∃ es ep, o.data = .dict es ep ∧ StrKeys es ∧ ∀ n, nsFind es n = m n
def Cx.fl (c : Cx) : Led := c.frs.map fun p => (p.1, NsObj p.2)
structure Fx (env : Env) (T : List Str) : Prop where
  fn : env.scope.kind = .function
  loc : ∀ x ∈ T, env.kindOf x = some .local
  nd : T.Nodup
  nodebug : ∀ x ∈ T, (x == ("__debug__" : Str)) = false
structure Own (c : Cx) (l : Led) (s : Shared) : Prop where
  base : c.B.StaysIn s.heap
  led : ∀ p ∈ l ++ c.fl, ∃ o, s.heap.get? p.1 = some o ∧ p.2 o
  off : ∀ p ∈ l ++ c.fl, c.B.get? p.1 = none
  nd : ((l ++ c.fl).map (·.1)).Nodup
  gens : s.gens = c.g
  os : s.os = c.os
  size : c.B.objs.size ≤ s.heap.objs.size
structure W (c : Cx) (env : Env) (T : List Str) (vs : List (Option Value)) (l : Led) (s : Shared) : Prop where
  own : Own c l s
  fr : Fr c.B env.locals s.heap (loc T vs)
  offL : ∀ p ∈ l ++ c.fl, p.1 ≠ env.locals
  fx : Fx env T

theorem Own.perm {c l l' s} (o : Own c l s) (p : l.Perm l') : Own c l' s :=
  have p := p.append_right c.fl
  ⟨o.base, fun q hq => o.led q (p.mem_iff.mpr hq), fun q hq => o.off q (p.mem_iff.mpr hq), (p.map (·.1)).nodup o.nd, o.gens, o.os, o.size⟩
theorem W.perm {c env T vs l l' s} (w : W c env T vs l s) (p : l.Perm l') : W c env T vs l' s :=
  ⟨w.own.perm p, w.fr, fun q hq => w.offL q ((p.append_right c.fl).mem_iff.mpr hq), w.fx⟩
theorem Own.sub {c l l' s} (o : Own c l s) (p : l'.Sublist l) : Own c l' s :=
  have p := p.append (List.Sublist.refl c.fl)
  ⟨o.base, fun q hq => o.led q (p.mem hq), fun q hq => o.off q (p.mem hq), (p.map (·.1)).nodup o.nd, o.gens, o.os, o.size⟩
theorem W.sub {c env T vs l l' s} (w : W c env T vs l s) (p : l'.Sublist l) : W c env T vs l' s :=
  ⟨w.own.sub p, w.fr, fun q hq => w.offL q ((p.append (List.Sublist.refl c.fl)).mem hq), w.fx⟩
theorem Own.toks {c l s} (o : Own c l s) (t : Nat) : Own c l { s with toks := t } := ⟨o.base, o.led, o.off, o.nd, o.gens, o.os, o.size⟩
theorem W.toks {c env T vs l s} (w : W c env T vs l s) (t : Nat) : W c env T vs l { s with toks := t } := ⟨w.own.toks t, w.fr, w.offL, w.fx⟩
theorem Own.get {c l s a P} (o : Own c l s) (h : Has a P l) : ∃ x, s.heap.get? a = some x ∧ P x := o.led _ (List.mem_append_left _ h.mem)
theorem Own.away {c l s a P} (o : Own c l s) (h : Has a P l) : c.B.get? a = none := o.off _ (List.mem_append_left _ h.mem)
theorem Own.toNews {c : Cx} {s : Shared} : ∀ {l : Led}, (∀ p ∈ l, ∃ o, s.heap.get? p.1 = some o ∧ p.2 o) → ∃ n, Sat n l ∧ ∀ p ∈ n, s.heap.get? p.1 = some p.2
  | [], _ => ⟨[], .nil, fun _ h => nomatch h⟩
  | (a, P) :: l, h =>
    let ⟨o, ho, hP⟩ := h _ (.head _)
    let ⟨n, hs, hn⟩ := toNews (c := c) fun p hp => h p (.tail _ hp)
    ⟨(a, o) :: n, .cons hP hs, fun p hp => by
      rcases List.mem_cons.mp hp with rfl | hp
      · exact ho
      · exact hn p hp⟩
theorem W.news {c env T vs s} {pre post : Led} {a : Addr} {P : Obj → Prop} (w : W c env T vs (pre ++ (a, P) :: post) s) :
    ∃ n o n', News c.B env.locals s.heap (n ++ (a, o) :: n') ∧ P o ∧ Sat n pre ∧ Sat n' (post ++ c.fl) ∧ (∀ p ∈ n, p.1 ≠ a) ∧ (∀ p ∈ n', p.1 ≠ a) := by
  have ea : (pre ++ (a, P) :: post) ++ c.fl = pre ++ (a, P) :: (post ++ c.fl) := by rw [List.append_assoc]; rfl
  have wled := w.own.led
  have woff := w.own.off
  have woffL := w.offL
  have nd := w.own.nd
  rw [ea] at wled woff woffL nd
  obtain ⟨x, hs, hx⟩ := Own.toNews (c := c) wled
  obtain ⟨n, y, rfl, h1, h2⟩ := hs.split
  cases h2 with
  | cons hP h2 =>
    rename_i o n'
    simp only [List.map_append, List.map_cons] at nd
    rw [List.nodup_append] at nd
    obtain ⟨nd1, nd2, nd3⟩ := nd
    rw [List.nodup_cons] at nd2
    refine ⟨n, o, n', fun p hp => ⟨hx p hp, ?_, ?_⟩, hP, h1, h2, fun p hp e => ?_, fun p hp e => ?_⟩
    · have : p.1 ∈ (pre ++ (a, P) :: (post ++ c.fl)).map (·.1) := by
        have e : (n ++ (a, o) :: n').map (·.1) = (pre ++ (a, P) :: (post ++ c.fl)).map (·.1) := (h1.app (.cons hP h2)).fst
        rw [← e]; exact List.mem_map_of_mem hp
      obtain ⟨q, hq, e⟩ := List.mem_map.mp this
      rw [← e]; exact woffL q hq
    · have : p.1 ∈ (pre ++ (a, P) :: (post ++ c.fl)).map (·.1) := by
        have e : (n ++ (a, o) :: n').map (·.1) = (pre ++ (a, P) :: (post ++ c.fl)).map (·.1) := (h1.app (.cons hP h2)).fst
        rw [← e]; exact List.mem_map_of_mem hp
      obtain ⟨q, hq, e⟩ := List.mem_map.mp this
      rw [← e]; exact woff q hq
    · have : p.1 ∈ pre.map (·.1) := by rw [← h1.fst]; exact List.mem_map_of_mem hp
      exact nd3 _ this _ (.head _) e
    · have : p.1 ∈ (post ++ c.fl).map (·.1) := by rw [← h2.fst]; exact List.mem_map_of_mem hp
      rw [List.map_append] at this
      exact nd2.1 (e ▸ this)
theorem W.back {c env T vs vs' s} {pre post : Led} {a : Addr} {P P' : Obj → Prop} {n n' : List (Addr × Obj)} {o : Obj} {h' : Heap} {tk : Nat} (w : W c env T vs (pre ++ (a, P) :: post) s)
    (F : Fr c.B env.locals h' (loc T vs')) (N : News c.B env.locals h' (n ++ (a, o) :: n')) (hP : P' o) (h1 : Sat n pre) (h2 : Sat n' (post ++ c.fl)) : W c env T vs' (pre ++ (a, P') :: post) { s with heap := h', toks := tk } := by
  have ea : ∀ R, (pre ++ (a, R) :: post) ++ c.fl = pre ++ (a, R) :: (post ++ c.fl) := fun R => by rw [List.append_assoc]; rfl
  have e : (n ++ (a, o) :: n').map (·.1) = (pre ++ (a, P') :: (post ++ c.fl)).map (·.1) := (h1.app (.cons hP h2)).fst
  have e' : (pre ++ (a, P') :: (post ++ c.fl)).map (·.1) = (pre ++ (a, P) :: (post ++ c.fl)).map (·.1) := by simp
  have S : Sat (n ++ (a, o) :: n') (pre ++ (a, P') :: (post ++ c.fl)) := h1.app (.cons hP h2)
  have led : ∀ {x : List (Addr × Obj)} {y : Led}, Sat x y → (∀ p ∈ x, h'.get? p.1 = some p.2) → ∀ p ∈ y, ∃ o, h'.get? p.1 = some o ∧ p.2 o := by
    intro x y hs
    induction hs with
    | nil => intro _ p hp; cases hp
    | cons hp hs ih =>
      intro hx p hp'
      rcases List.mem_cons.mp hp' with rfl | hp'
      · exact ⟨_, hx _ (.head _), hp⟩
      · exact ih (fun q hq => hx q (.tail _ hq)) p hp'
  refine ⟨⟨F.keep, by rw [ea]; exact led S fun p hp => (N p hp).1, fun p hp => ?_, by rw [ea, e', ← ea]; exact w.own.nd, w.own.gens, w.own.os, Nat.le_of_lt (Nat.lt_of_le_of_lt F.above F.ns.lt)⟩, F, fun p hp => ?_, w.fx⟩
  · have : p.1 ∈ (n ++ (a, o) :: n').map (·.1) := by rw [e, ← ea]; exact List.mem_map_of_mem hp
    obtain ⟨q, hq, e2⟩ := List.mem_map.mp this
    rw [← e2]; exact (N q hq).2.2
  · have : p.1 ∈ (n ++ (a, o) :: n').map (·.1) := by rw [e, ← ea]; exact List.mem_map_of_mem hp
    obtain ⟨q, hq, e2⟩ := List.mem_map.mp this
    rw [← e2]; exact (N q hq).2.1
theorem W.upd {c env T vs l l' s} {a : Addr} {P P' : Obj → Prop} {h' : Heap} {o' : Obj} {tk : Nat} (w : W c env T vs l s) (u : Up a P P' l l') (hs : Heap.SameBut a s.heap h') (ho : h'.get? a = some o') (hP : P' o') :
    W c env T vs l' { s with heap := h', toks := tk } := by
  obtain ⟨pre, post, rfl, rfl⟩ := u.split
  obtain ⟨n, o, n', N, hPo, h1, h2, d1, d2⟩ := w.news
  have hm := N (a, o) (by simp)
  refine w.back ⟨?_, fun b x e => (hs.2 b fun q => ?_).trans (w.fr.keep b x e), w.fr.above⟩ (fun p hp => ?_) hP h1 h2
  · obtain ⟨oL, es, ep, hL, r⟩ := w.fr.ns
    exact ⟨oL, es, ep, (hs.2 _ (Ne.symm hm.2.1)).trans hL, r⟩
  · have := hm.2.2; rw [← q, e] at this; cases this
  · rcases List.mem_append.mp hp with q | q
    · have z := N p (List.mem_append_left _ q)
      exact ⟨(hs.2 _ (d1 p q)).trans z.1, z.2⟩
    · rcases List.mem_cons.mp q with rfl | q
      · exact ⟨ho, hm.2⟩
      · have z := N p (List.mem_append_right _ (.tail _ q))
        exact ⟨(hs.2 _ (d2 p q)).trans z.1, z.2⟩
theorem W.alloc {c env T vs l s} {P : Obj → Prop} {o : Obj} {tk : Nat} (w : W c env T vs l s) (hf : o.isFreed = false) (hP : P o) : W c env T vs ((s.heap.objs.size, P) :: l) { s with heap := s.heap.push o, toks := tk } := by
  have nb : c.B.get? s.heap.objs.size = none := by
    cases q : c.B.get? s.heap.objs.size with
    | none => rfl
    | some x => exact absurd (Heap.lt_size (w.own.base _ _ q)) (Nat.lt_irrefl _)
  have nl : s.heap.objs.size ≠ env.locals := by
    obtain ⟨oL, _, _, hL, _⟩ := w.fr.ns
    exact Nat.ne_of_gt (Heap.lt_size hL)
  refine ⟨⟨fun b x e => Heap.get?_push_of_some _ (w.own.base b x e), fun p hp => ?_, fun p hp => ?_, ?_, w.own.gens, w.own.os, by rw [Heap.size_push]; exact Nat.le_succ_of_le w.own.size⟩, w.fr.push o, fun p hp => ?_, w.fx⟩
  · rcases List.mem_cons.mp hp with rfl | hp
    · exact ⟨o, Heap.get?_push_size _ hf, hP⟩
    · obtain ⟨x, hx, hx'⟩ := w.own.led p hp
      exact ⟨x, Heap.get?_push_of_some _ hx, hx'⟩
  · rcases List.mem_cons.mp hp with rfl | hp
    · exact nb
    · exact w.own.off p hp
  · rw [List.cons_append, List.map_cons, List.nodup_cons]
    refine ⟨fun hm => ?_, w.own.nd⟩
    obtain ⟨q, hq, e⟩ := List.mem_map.mp hm
    obtain ⟨x, hx, _⟩ := w.own.led q hq
    have e' : q.1 = s.heap.objs.size := e
    rw [e'] at hx
    exact absurd (Heap.lt_size hx) (Nat.lt_irrefl _)
  · rcases List.mem_cons.mp hp with rfl | hp
    · exact nl
    · exact w.offL p hp
theorem W.store {c env T vs vs' l s} {x : Str} {v : Value} {h' : Heap} {tk : Nat} (w : W c env T vs l s) (u : Lset x v T vs vs') (hn : h'.Ns env.locals fun y => if y = x then some v else loc T vs y) (hs : Heap.SameBut env.locals s.heap h') :
    W c env T vs' l { s with heap := h', toks := tk } := by
  rw [← u.loc w.fx.nd] at hn
  have F := w.fr.set hn hs
  refine ⟨⟨F.keep, fun p hp => ?_, w.own.off, w.own.nd, w.own.gens, w.own.os, Nat.le_of_lt (Nat.lt_of_le_of_lt F.above F.ns.lt)⟩, F, w.offL, w.fx⟩
  obtain ⟨o, ho, hP⟩ := w.own.led p hp
  exact ⟨o, (hs.2 _ (w.offL p hp)).trans ho, hP⟩
end Mine

namespace Mine
structure BaseOk (wd : World) (B : Heap) : Prop where
  K : (KF wd.params).In B
  lim : B.NoLimit
  g : ∃ mg, B.Ns mainGlobals mg
  b : ∃ mb, B.Ns builtinsNs mb ∧ ∀ x : Str, x ≠ "__name__" → mb x = bootBuiltins x
theorem BaseOk.keeps {wd B B'} (b : BaseOk wd B) (k : ∀ a o, B.get? a = some o → B'.get? a = some o) : BaseOk wd B' :=
  ⟨b.K.keeps k, b.lim.keeps k, let ⟨m, h⟩ := b.g; ⟨m, h.keeps k⟩, let ⟨m, h, e⟩ := b.b; ⟨m, h.keeps k, e⟩⟩

def nodupS : List Str → Bool
  | [] => true
  | x :: r => !r.contains x && nodupS r
theorem nodupS_spec : ∀ {l : List Str}, nodupS l = true → l.Nodup
  | [], _ => .nil
  | x :: r, h => by
    simp only [nodupS, Bool.and_eq_true, Bool.not_eq_true'] at h
    exact List.nodup_cons.mpr ⟨fun m => by rw [List.contains_iff_mem.mpr m] at h; exact absurd h.1 (by decide), nodupS_spec h.2⟩
def fnOk (K : Frag) (fd : FuncData) (T : List Str) : Bool :=
  codeIn K fd.code fd.qualname && (fd.scope.names.all fun x => x.2 != .cell) && (T.all fun x => fd.scope.names.lookup x == some .local && !(x == ("__debug__" : Str))) && nodupS T && !fd.scope.isCoroutine && !fd.scope.isGenerator && fd.scope.kind == .function
structure Fn (wd : World) (f : Addr) (fd : FuncData) (body : List Stmt) (T : List Str) : Prop where
  obj : ∃ o, (KF wd.params).lookup f = some o ∧ o.data = .func fd
  body : fd.body = .stmts body
  ok : fnOk (KF wd.params) fd T = true
def fdOf (o : Obj) : FuncData := match o.data with
  | .func fd => fd
  | _ => default

inductive Bv : List (Str × Value) → List Str → List (Option Value) → Prop
  | nil {U} : Bv [] U (U.map fun _ => none)
  | cons {x v b T vs} : Bv b T vs → Bv ((x, v) :: b) (x :: T) (some v :: vs)
theorem Bv.names {b T vs} (h : Bv b T vs) : ∀ x ∈ b, x.1 ∈ T := by
  induction h with
  | nil => intro x hx; cases hx
  | cons h ih =>
    intro x hx
    rcases List.mem_cons.mp hx with rfl | hx
    · exact .head _
    · exact .tail _ (ih x hx)
theorem Bv.keys {b T vs} (h : Bv b T vs) (nd : T.Nodup) : (b.map (·.1)).Nodup := by
  induction h with
  | nil => exact .nil
  | cons h ih =>
    have hn := List.nodup_cons.mp nd
    refine List.nodup_cons.mpr ⟨fun m => ?_, ih hn.2⟩
    obtain ⟨p, hp, e⟩ := List.mem_map.mp m
    have := h.names p hp
    rw [e] at this
    exact hn.1 this
theorem loc_none {U : List Str} {y : Str} : loc U (U.map fun _ => none) y = none := by
  induction U with
  | nil => rfl
  | cons x U ih => simp only [List.map_cons, loc, ih, ite_self]
theorem Bv.loc {b T vs} (h : Bv b T vs) (nd : T.Nodup) : loc T vs = fun x => b.reverse.lookup x := by
  induction h with
  | nil => funext y; exact loc_none
  | cons h ih =>
    rename_i x v b T vs
    have hn := List.nodup_cons.mp nd
    funext y
    simp only [Mine.loc, ih hn.2, List.reverse_cons]
    have key : ∀ (l : List (Str × Value)), (∀ p ∈ l, p.1 ≠ x) → (l ++ [(x, v)]).lookup y = if y = x then some v else l.lookup y := by
      intro l hl
      induction l with
      | nil =>
        show (match y == x with | true => some v | false => none) = _
        by_cases e : y = x
        · subst e; simp
        · rw [beq_eq_false_iff_ne.mpr e, if_neg e]; rfl
      | cons p l ihl =>
        obtain ⟨z, u⟩ := p
        have hz : z ≠ x := hl _ (.head _)
        show (match y == z with | true => some u | false => (l ++ [(x, v)]).lookup y) = if y = x then some v else (match y == z with | true => some u | false => l.lookup y)
        rw [ihl fun q hq => hl q (.tail _ hq)]
        by_cases e : y = z
        · subst e; simp [hz]
        · rw [beq_eq_false_iff_ne.mpr e]
    rw [key _ fun p hp e => ?_]
    have := h.names p (List.mem_reverse.mp hp)
    rw [e] at this
    exact hn.1 this

theorem enter {wd : World} {A : Around} {c : Cx} {l : Led} {s : Shared} {R : Result → Shared → Prop} {f : Addr} {fd : FuncData} {body : List Stmt} {T : List Str} {vs : List (Option Value)} {args : Args} {binds : List (Str × Value)}
    (F : Fn wd f fd body T) (bo : BaseOk wd c.B) (o : Own c l s) (hroom : A.depth < recursionLimit) (hbind : BindsTo s fd args binds) (hv : Bv binds T vs)
    (k : ∀ L s', W c (callEnv fd L f) T vs l s' → wpAny (model pw wd) (A.deeper (callEnv fd L f)) (execs body (callEnv fd L f))
        (fun fl s'' => R (.ok (.ret (match fl with | .ret v => v | _ => .none))) s'')
        (fun e s'' => wpAny (model pw wd) (A.deeper (callEnv fd L f)) (leaving (callEnv fd L f) e) (fun _ s3 => R (.error e) s3) (fun e' s3 => R (.error e') s3) s'') s') :
    codeAny (model pw wd) A (.call (.ref f) args) R s := by
  obtain ⟨⟨ob, hob, hd⟩, hbody, ok⟩ := F
  simp only [fnOk, Bool.and_eq_true, List.all_eq_true, bne_iff_ne, ne_eq, beq_iff_eq, Bool.not_eq_true'] at ok
  obtain ⟨⟨⟨⟨⟨⟨h1, h2⟩, h3⟩, h4⟩, h5⟩, h6⟩, h7⟩ := ok
  have X : (KF wd.params).In s.heap := bo.K.keeps o.base
  have nd := nodupS_spec h4
  refine codeAny_call_def hroom (X _ _ hob) hd (bo.lim.keeps o.base) (codeRec_of X h1) hbody hbind (fun x hx => h2 x hx) (fun x hx => (h3 _ (hv.names x hx)).1) (fun h₀ hns hk => ?_) h5 h6 h7
  refine k _ _ ⟨⟨fun b x e => hk b x (o.base b x e), fun p hp => ?_, o.off, o.nd, o.gens, o.os, ?_⟩, ⟨?_, fun b x e => hk b x (o.base b x e), o.size⟩, fun p hp e => ?_, ⟨h7, fun x hx => (h3 x hx).1, nd, fun x hx => (h3 x hx).2⟩⟩
  · obtain ⟨x, hx, hP⟩ := o.led p hp
    exact ⟨x, hk _ _ hx, hP⟩
  · exact Nat.le_trans o.size (Nat.le_of_lt hns.lt)
  · rw [hv.loc nd]; exact hns
  · obtain ⟨x, hx, _⟩ := o.led p hp
    have e' : p.1 = s.heap.objs.size := e
    rw [e'] at hx
    exact absurd (Heap.lt_size hx) (Nat.lt_irrefl _)

section
variable {wd : World} {A : Around} {E : Value → Shared → Prop} {c : Cx} {env : Env} {T : List Str} {vs vs' : List (Option Value)} {l l' : Led} {s : Shared} {x : Str} {v : Value} {pos : Pos}
theorem r_name {M : Model} {Q : Value → Shared → Prop} (w : W c env T vs l s) (hx : Lget x v T vs) (h : Q v s) : wpAny M A (eval (.Name x pos) env) Q E s :=
  wpAny_Name (wpAny_loadName_local w.fx.fn (w.fx.loc x hx.mem) w.fr.ns (hx.loc w.fx.nd) h) (w.fx.nodebug x hx.mem)
theorem r_store {M : Model} {Q : Unit → Shared → Prop} (w : W c env T vs l s) (u : Lset x v T vs vs') (h : ∀ s', W c env T vs' l s' → Q () s') : wpAny M A (storeName env x v) Q E s :=
  wpAny_storeName_local (w.fx.loc x u.mem) w.fr.ns (fun h' hn hs => h _ (w.store u hn hs)) (by rw [w.fx.fn]; rfl)
theorem r_glob {M : Model} {Q : Value → Shared → Prop} (w : W c env T vs l s) (bo : BaseOk wd c.B) (hk : env.kindOf x = some .globalImplicit) (hg : env.globals = mainGlobals) (hx : nsIn (KF wd.params) mainGlobals x = some (some v)) (hd : (x == ("__debug__" : Str)) = false) (h : Q v s) :
    wpAny M A (eval (.Name x pos) env) Q E s := by
  obtain ⟨mg, g⟩ := bo.g
  exact Name_function_global w.fx.fn hk (loadGlobal_global (by rw [hg]; exact g.keeps w.own.base) (mg_of bo.K g hx) h) hd
theorem r_builtin {M : Model} {Q : Value → Shared → Prop} (w : W c env T vs l s) (bo : BaseOk wd c.B) (hk : env.kindOf x = some .globalImplicit) (hg : env.globals = mainGlobals) (hb : env.builtins = builtinsNs) (hx : nsIn (KF wd.params) mainGlobals x = some none) (hv : bootBuiltins x = some v)
    (hn : x ≠ "__name__") (hd : (x == ("__debug__" : Str)) = false) (h : Q v s) : wpAny M A (eval (.Name x pos) env) Q E s := by
  obtain ⟨mg, g⟩ := bo.g
  obtain ⟨mb, b, e⟩ := bo.b
  exact Name_function_global w.fx.fn hk (loadGlobal_builtin (by rw [hg]; exact g.keeps w.own.base) (mg_none_of bo.K g hx) (by rw [hb]; exact b.keeps w.own.base) ((e x hn).trans hv) h) hd
end

def IsInst (C dx : Addr) (o : Obj) : Prop := o = instObj C dx
def cnt : List (Option Value) → Nat
  | [] => 0
  | some _ :: r => cnt r + 1
  | none :: r => cnt r
def IsNs (T : List Str) (vs : List (Option Value)) (o : Obj) : Prop := ∃ es ep, o.data = .dict es ep ∧ StrKeys es ∧ (∀ n, nsFind es n = loc T vs n) ∧ es.size ≤ cnt vs
def clsOk (K : Frag) (C : Addr) (T : List Str) : Bool :=
  findIn K (.ref C) "__getattribute__" == some (some (.builtin "object.__getattribute__")) && findIn K (.ref C) "__setattr__" == some (some (.builtin "object.__setattr__")) && plainOver K C && hasDictIn K C && nodupS T &&
  (T.all fun n => (match findIn K (.ref C) n with | some a => noGet K a | none => false) && takerIn K C n == some none)
structure Cls (wd : World) (C : Addr) (T : List Str) : Prop where
  ok : clsOk (KF wd.params) C T = true
theorem lookIn_of {o : Obj} {T vs n} (h : IsNs T vs o) : lookIn n o = some (loc T vs n) := by
  obtain ⟨es, ep, hd, hk, hf, _⟩ := h
  unfold lookIn
  rw [hd]
  dsimp only
  rw [← hf n]
  unfold nsFind findBy
  rw [← Array.find?_toList]
  cases q : es.toList.find? fun e => e.key.isStr n with
  | some e => rfl
  | none =>
    dsimp only
    rw [if_neg]
    · rfl
    · rw [List.any_eq_true]
      rintro ⟨e, he, hr⟩
      obtain ⟨x, t, hx⟩ := hk e (Array.mem_toList_iff.mp he)
      unfold DictEntry.refKey at hr
      rw [hx] at hr
      cases hr

theorem Lset_cnt {x : Str} {v : Value} {T : List Str} {vs vs' : List (Option Value)} (nd : T.Nodup) (h : Lset x v T vs vs') : (loc T vs x = none → cnt vs' = cnt vs + 1) ∧ (loc T vs x ≠ none → cnt vs' = cnt vs) := by
  induction h with
  | @here T u vs =>
    simp only [Mine.loc, if_true]
    cases u with
    | none => exact ⟨fun _ => rfl, fun e => absurd rfl e⟩
    | some u => exact ⟨fun e => by simp at e, fun _ => rfl⟩
  | @there y u T vs vs' h ih =>
    have hn := List.nodup_cons.mp nd
    have hx : ¬ x = y := fun e => hn.1 (e ▸ h.mem)
    simp only [Mine.loc, if_neg hx]
    obtain ⟨a, b⟩ := ih hn.2
    cases u with
    | none => exact ⟨fun e => a e, fun e => b e⟩
    | some u => exact ⟨fun e => by show Mine.cnt _ + 1 = Mine.cnt _ + 1 + 1; rw [a e], fun e => by show Mine.cnt _ + 1 = Mine.cnt _ + 1; rw [b e]⟩
theorem cnt_le : ∀ (vs : List (Option Value)), cnt vs ≤ vs.length
  | [] => Nat.le_refl _
  | some _ :: r => by have := cnt_le r; simp only [cnt, List.length_cons]; omega
  | none :: r => by have := cnt_le r; simp only [cnt, List.length_cons]; omega
theorem putName_ns {T : List Str} {vs vs' : List (Option Value)} {o : Obj} {n : Str} {v : Value} {hash : Int} {tk : Tok} (nd : T.Nodup) (h : IsNs T vs o) (u : Lset n v T vs vs') :
    IsNs T vs' (Obj.putName n hash (.str n tk) v o) ∧ (Obj.putName n hash (.str n tk) v o).isFreed = false := by
  obtain ⟨es, ep, hd, hk, hf, hz⟩ := h
  obtain ⟨c, d, dt, sl⟩ := o
  dsimp only at hd
  subst hd
  have hfi := findBy_of_findIdx? (fun n v => v.isStr n) es n
  have hc := Lset_cnt nd u
  cases hi : es.findIdx? (·.key.isStr n) with
  | some i =>
    have e : Obj.putName n hash (.str n tk) v ⟨c, d, .dict es ep, sl⟩ = ⟨c, d, .dict (es.modify i fun e => { e with val := v }) ep, sl⟩ := by simp only [Obj.putName_eq, Obj.putNameByArray, hi]
    rw [e]
    refine ⟨⟨_, _, rfl, hk.modify _ _, fun x => ?_, ?_⟩, rfl⟩
    · rw [u.loc nd]
      show nsFind _ x = if x = n then some v else loc T vs x
      rw [← hf]; exact findBy_modify (fun n v => v.isStr n) Value.isStr_inj es n x v i hi
    · rw [Array.size_modify]
      rw [hi] at hfi
      have hlt : i < es.size := (Array.findIdx?_eq_some_iff_findIdx_eq.mp hi).1
      have ne : loc T vs n ≠ none := by
        rw [← hf n]
        show findBy _ es n ≠ none
        rw [hfi]
        show Option.map (fun x => x.val) es[i]? ≠ none
        rw [Array.getElem?_eq_getElem hlt]
        simp
      rw [hc.2 ne]; exact hz
  | none =>
    have e : Obj.putName n hash (.str n tk) v ⟨c, d, .dict es ep, sl⟩ = ⟨c, d, .dict (es.push ⟨hash, .str n tk, v⟩) (ep + 1), sl⟩ := by simp only [Obj.putName_eq, Obj.putNameByArray, hi]
    rw [e]
    refine ⟨⟨_, _, rfl, hk.push _ _ _ _, fun x => ?_, ?_⟩, rfl⟩
    · rw [u.loc nd]
      show nsFind _ x = if x = n then some v else loc T vs x
      rw [← hf]
      exact findBy_push (fun n v => v.isStr n) es n x _ _ v (fun y => by
        show (n == y) = decide (y = n)
        by_cases h : y = n
        · subst h; simp
        · have : ¬ n = y := fun e => h e.symm
          simp [h, this]) hi
    · rw [Array.size_push]
      rw [hi] at hfi
      have ne : loc T vs n = none := by
        rw [← hf n]
        exact hfi
      rw [hc.1 ne]; omega

section
variable {wd : World} {A : Around} {E : Value → Shared → Prop} {c : Cx} {env : Env} {T T' : List Str} {vs vs' us us' : List (Option Value)} {l l' : Led} {s : Shared} {n : Str} {v : Value} {x dx C : Addr} {expr : Bool}
theorem Cls.parts (k : Cls wd C T') : findIn (KF wd.params) (.ref C) "__getattribute__" = some (some (.builtin "object.__getattribute__")) ∧ findIn (KF wd.params) (.ref C) "__setattr__" = some (some (.builtin "object.__setattr__")) ∧
    plainOver (KF wd.params) C = true ∧ hasDictIn (KF wd.params) C = true ∧ T'.Nodup ∧ ∀ n ∈ T', (∃ a, findIn (KF wd.params) (.ref C) n = some a ∧ noGet (KF wd.params) a = true) ∧ takerIn (KF wd.params) C n = some none := by
  have h := k.ok
  simp only [clsOk, Bool.and_eq_true, beq_iff_eq, List.all_eq_true] at h
  obtain ⟨⟨⟨⟨⟨h1, h2⟩, h3⟩, h4⟩, h5⟩, h6⟩ := h
  refine ⟨h1, h2, h3, h4, nodupS_spec h5, fun n hn => ⟨?_, (h6 n hn).2⟩⟩
  have := (h6 n hn).1
  split at this
  · rename_i a ha; exact ⟨a, ha, this⟩
  · cases this
theorem inst_at {s : Shared} (o : Own c l s) (hx : Has x (IsInst C dx) l) (hd : Has dx (IsNs T' us) l) : ∃ od, InstAt s.heap x (instObj C dx) C (some od) ∧ IsNs T' us od := by
  obtain ⟨ox, h1, rfl⟩ := o.get hx
  obtain ⟨od, h2, h3⟩ := o.get hd
  exact ⟨od, ⟨h1, rfl, rfl, h2⟩, h3⟩
theorem r_attr {Q : Value → Shared → Prop} (w : W c env T vs l s) (bo : BaseOk wd c.B) (k : Cls wd C T') (hx : Has x (IsInst C dx) l) (hd : Has dx (IsNs T' us) l) (hv : Lget n v T' us) (hh : handedIn v = true)
    (h : ∀ s', W c env T vs l s' → Q v s') : wpAny (model pw wd) A (getAttr (.ref x) n expr) Q E s := by
  obtain ⟨od, I, hn⟩ := inst_at w.own hx hd
  obtain ⟨h1, h2, h3, h4, h5, h6⟩ := k.parts
  obtain ⟨⟨a, ha, hg⟩, _⟩ := h6 n hv.mem
  exact get_value (bo.K.keeps w.own.base) I h1 (findObj_own h4 ha hg (by rw [lookIn_of hn, hv.loc h5])) hh (h _ (w.toks _))
theorem r_setattr {Q : Unit → Shared → Prop} (w : W c env T vs l s) (bo : BaseOk wd c.B) (k : Cls wd C T') (hx : Has x (IsInst C dx) l) (hd : Up dx (IsNs T' us) (IsNs T' us') l l') (hs : Lset n v T' us us') (hz : T'.length ≤ 50) (hl : us'.length ≤ 50)
    (h : ∀ s', W c env T vs l' s' → Q () s') : wpAny (model pw wd) A (setAttr (.ref x) n v) Q E s := by
  obtain ⟨pre, post, rfl, rfl⟩ := hd.split
  obtain ⟨ox, h1, rfl⟩ := w.own.get hx
  obtain ⟨m, od, m', N, hod, s1, s2, d1, d2⟩ := w.news
  obtain ⟨g1, g2, g3, g4, g5, g6⟩ := k.parts
  obtain ⟨_, ht⟩ := g6 n hs.mem
  have I : InstAt s.heap x (instObj C dx) C (some od) := ⟨h1, rfl, rfl, (N _ (List.mem_append_right _ (.head _))).1⟩
  have X := bo.K.keeps w.own.base
  have P := putName_ns (hash := PyData.keyHash wd.params n) (tk := s.toks + 1) g5 hod hs
  obtain ⟨es, ep, e1, e2, e3, e4⟩ := P.1
  refine set_plain X I g2 (osa_dict (s := { s with toks := s.toks + 1 }) w.fr N X I rfl g3 ht g4 (by rw [lookIn_of hod]; rfl) d1 d2 rfl (es := es.toList) (n := ep) (by rw [Array.toArray_toList]; exact e1) ?_ fun h' F' N' => ?_)
  · have := cnt_le us'; rw [Array.length_toList]; omega
  · exact h _ (w.back (tk := s.toks + 2) F' N' P.1 s1 s2)
end
end Mine

namespace Mine
def IsD (wd : World) (kvs : List (Int × Value)) (o : Obj) : Prop := o.IsDictOf (intKind pw wd) kvs
theorem intKey {wd : World} (k : Int) (t : Tok) : (intKind pw wd).is k (.int k t) = true := by
  show Value.isInt k (.int k t) = true
  simp [Value.isInt]
section
variable {wd : World} {A : Around} {E : Value → Shared → Prop} {c : Cx} {env : Env} {T : List Str} {vs : List (Option Value)} {l l' : Led} {s : Shared} {d : Addr} {kvs : List (Int × Value)} {k : Int} {t : Tok} {v : Value}
theorem dict_at (o : Own c l s) (hd : Has d (IsD wd kvs) l) : s.heap.DictOf (intKind pw wd) d kvs := by
  obtain ⟨x, h1, h2⟩ := o.get hd
  exact Heap.dictOf_iff.mpr ⟨x, h1, h2⟩
theorem dict_low (o : Own c l s) (bo : BaseOk wd c.B) {P : Obj → Prop} (hd : Has d P l) : (d == sysModules) = false := by
  have h := o.away hd
  have e : (KF wd.params).lookup sysModules = some (o_1 wd.params) := rfl
  have k := bo.K _ _ e
  rw [beq_eq_false_iff_ne]
  intro q
  have h' : c.B.get? d = none := h
  rw [q, k] at h'
  cases h'
theorem dict_up {kvs' : List (Int × Value)} {h' : Heap} {tk : Nat} (w : W c env T vs l s) (u : Up d (IsD wd kvs) (IsD wd kvs') l l') (hm : h'.DictOf (intKind pw wd) d kvs') (hs : Heap.SameBut d s.heap h') :
    W c env T vs l' { s with heap := h', toks := tk } := by
  obtain ⟨x, h1, h2⟩ := Heap.dictOf_iff.mp hm
  exact w.upd u hs h1 h2
theorem Up.has {a : Addr} {P P' : Obj → Prop} : ∀ {l l' : Led}, Up a P P' l l' → Has a P l
  | _, _, .head => .head
  | _, _, .tail h => .tail h.has
theorem r_dget {Q : Value → Shared → Prop} (w : W c env T vs l s) (hd : Has d (IsD wd kvs) l) (hv : valueAt kvs k = some v) (h : ∀ s', W c env T vs l s' → Q v s') : wpAny (model pw wd) A (getItem (.ref d) (.int k t)) Q E s :=
  wpAny_getItem_of (intKey k t) (dict_at w.own hd).mapOf hv (h _ (w.toks _))
theorem r_dsub {value slice : PySem.Expr} {Q : Value → Shared → Prop} (w : W c env T vs l s) (hd : Has d (IsD wd kvs) l) (hv : valueAt kvs k = some v) (h : ∀ s', W c env T vs l s' → Q v s')
    (hs : subscripted slice false (.ref d) (.int k t) = operate [.ref d, .int k t] (getItem (.ref d) (.int k t)) := by with_unfolding_all rfl) (hg : ∀ r, letTemporaryGo value (.ref d) r = pure () := by intro _; with_unfolding_all rfl) :
    wpAny (model pw wd) A (subscriptTail value slice (.ref d) (.int k t)) Q E s :=
  subscriptTail_builtin (dict_at w.own hd).typeIs slot_dict_getitem.lookup (r_dget w hd hv h) hs hg
theorem r_din {Q : Value → Shared → Prop} (w : W c env T vs l s) (bo : BaseOk wd c.B) (hd : Has d (IsD wd kvs) l) (b : Bool) (hb : (valueAt kvs k).isSome = b) (h : ∀ s', W c env T vs l s' → Q (.bool b) s') :
    wpAny (model pw wd) A (compareOp .In (.int k t) (.ref d)) Q E s :=
  wpAny_in_of (intKey k t) (dict_low w.own bo hd) (dict_at w.own hd).mapOf (by rw [hb]; exact h _ (w.toks _))
theorem r_dset {Q : Unit → Shared → Prop} (w : W c env T vs l s) (u : Up d (IsD wd kvs) (IsD wd (stored kvs k v)) l l') (hsz : kvs.length ≤ 1000) (h : ∀ s', W c env T vs l' s' → Q () s') : wpAny (model pw wd) A (setItem (.ref d) (.int k t) v) Q E s :=
  wpAny_setItem_pairs (hsz := by rw [sizeLine_eq]; omega) (intKey k t) (dict_at w.own u.has) fun h' hm hs => h _ (dict_up w u hm hs)
theorem r_ddel {Q : Unit → Shared → Prop} (w : W c env T vs l s) (u : Up d (IsD wd kvs) (IsD wd (without kvs k)) l l') (hv : (valueAt kvs k).isSome = true) (hsz : kvs.length ≤ 1000) (h : ∀ s', W c env T vs l' s' → Q () s') : wpAny (model pw wd) A (delItem (.ref d) (.int k t)) Q E s := by
  have D := dict_at w.own u.has
  exact wpAny_delItem_slot D.typeIs (by decide) PySem.F.slot_dict_delitem (call_meetsIn PySem.F.slot_dict_delitem D.typeIs PySem.F.entry_dict_delitem (PySem.F.args_dict_delitem_2 _ _) (meets_dict_delitem_pairs _ d (intKey k t))
    ⟨kvs, D, by rw [sizeLine_eq]; omega, hv, fun h' hm hs => h _ (dict_up w u hm hs)⟩)
theorem r_dpop {Q : Value → Shared → Prop} (w : W c env T vs l s) (u : Up d (IsD wd kvs) (IsD wd (without kvs k)) l l') (hv : valueAt kvs k = some v) (hsz : kvs.length ≤ 1000) (h : ∀ s', W c env T vs l' s' → Q v s') : wpAny (model pw wd) A (call (.builtin "dict.pop") [.ref d, .int k t]) Q E s := by
  have D := dict_at w.own u.has
  exact call_meetsIn PySem.F.slot_dict_pop D.typeIs PySem.F.entry_dict_pop (PySem.F.args_dict_pop_2 _ _) (meets_dict_pop_there _ d (intKey k t) [] (.inl rfl) rfl) ⟨kvs, v, D, by rw [sizeLine_eq]; omega, hv, fun h' hm hs => h _ (dict_up w u hm hs)⟩
theorem r_dlen {Q : Value → Shared → Prop} (w : W c env T vs l s) (bo : BaseOk wd c.B) (hd : Has d (IsD wd kvs) l) (hsz : kvs.length ≤ 1000) (h : ∀ tk s', W c env T vs l s' → Q (.int kvs.length tk) s') : wpAny (model pw wd) A (call (.builtin "len") [.ref d]) Q E s :=
  call_len_dict (dict_low w.own bo hd) (dict_at w.own hd) (by omega) (h _ _ (w.toks _))
theorem r_dtruth {Q : Bool → Shared → Prop} (w : W c env T vs l s) (bo : BaseOk wd c.B) (hd : Has d (IsD wd kvs) l) (hsz : kvs.length ≤ 1000) (h : ∀ s', W c env T vs l s' → Q (!kvs.isEmpty) s') : wpAny (model pw wd) A (truthy (.ref d)) Q E s :=
  wpAny_truthy_dict (dict_low w.own bo hd) (dict_at w.own hd) (by omega) (h _ (w.toks _))
end
section
variable {wd : World} {A : Around} {E : Value → Shared → Prop} {c : Cx} {env : Env} {T : List Str} {vs : List (Option Value)} {l l' : Led} {s : Shared} {pos : Pos} {f : Value} {first : List Value} {Q : Value → Shared → Prop}
def Ready (wd : World) (f : Value) (first : List Value) (A : Around) (Q : Value → Shared → Prop) (E : Value → Shared → Prop) (vs : List Value) (s : Shared) : Prop := (KF wd.params).In s.heap ∧ wpAny (model pw wd) A (call f (first ++ vs)) Q E s
theorem r_call {e : PySem.Expr} {rest : List PySem.Expr} (hk : keepIn (KF wd.params) f = true) (h : wpAny (model pw wd) A (spliced (backTo pos (starEach (e :: rest) env))) (Ready wd f first A Q E) E s)
    (he : starEach (e :: rest) env = (false, eval e env) :: starEach rest env := by rfl) (hplain : (backTo pos (starEach rest env)).any (·.1) = false := by rfl) :
    wpAny (model pw wd) A (callWith pos f first (backTo pos (starEach (e :: rest) env)) []) Q E s := by
  rw [he] at h ⊢
  exact callWith_of (by show ((false || (backTo pos (starEach rest env)).any (·.1)) || false) = false; rw [hplain]; rfl) (keeps_K hk) (evalArgs_plain h)
theorem r_call0 (hk : keepIn (KF wd.params) f = true) (w : W c env T vs l s) (bo : BaseOk wd c.B) (h : wpAny (model pw wd) A (call f (first ++ [])) Q E s) :
    wpAny (model pw wd) A (callWith pos f first (backTo pos (starEach [] env)) []) Q E s := callWith_K0 (bo.K.keeps w.own.base) hk h
theorem r_ready {vs' : List Value} (w : W c env T vs l s) (bo : BaseOk wd c.B) (h : wpAny (model pw wd) A (call f (first ++ vs')) Q E s) : Ready wd f first A Q E vs' s := ⟨bo.K.keeps w.own.base, h⟩
end
structure Rm (n : Nat) (A : Around) : Prop where
  depth : A.depth + n < recursionLimit
  units : A.units + 10 * n < cLine
  handled : A.handled = none
theorem Rm.le {n m A} (r : Rm n A) (h : m ≤ n) : Rm m A := ⟨by have := r.depth; omega, by have := r.units; omega, r.handled⟩
theorem Rm.deeper {n A env} (r : Rm (n + 1) A) : Rm n (A.deeper env) := ⟨by have := r.depth; show A.depth + 1 + n < _; omega, by have := r.units; show A.units + 3 + 10 * n < _; omega, r.handled⟩
theorem Rm.in1 {n A} (r : Rm (n + 1) A) : Rm n A.in1 := ⟨by have := r.depth; show A.depth + n < _; omega, by have := r.units; show A.units + 1 + 10 * n < _; omega, r.handled⟩
theorem Rm.room {n A} (r : Rm n A) : A.depth < recursionLimit := by have := r.depth; omega
def OutF (c : Cx) (outer : List Env) : Prop := ∀ e ∈ outer, e.scope.kind ≠ .module ∧ ∃ L, e.frame = some L ∧ L ∈ c.frs.map (·.1)
def Bel (A : Around) (c : Cx) : Prop := ∃ outer, A.frames = some outer ∧ OutF c outer
def Stk (A : Around) (c : Cx) (env : Env) : Prop := ∃ outer, A.frames = some (env :: outer) ∧ OutF c outer ∧ env.frame = some env.locals ∧ env.scope.kind = .function
theorem stk_of {A : Around} {c : Cx} {fd : FuncData} {L f : Addr} (b : Bel A c) (hk : fd.scope.kind = .function) : Stk (A.deeper (callEnv fd L f)) c (callEnv fd L f) := by
  obtain ⟨outer, B, F⟩ := b
  refine ⟨outer, ?_, F, rfl, hk⟩
  show A.frames.map _ = _; rw [B]; rfl
def Spec (wd : World) (n : Nat) (t : Sem Value) (fp : Led) (post : Value → Led → Prop) : Prop :=
  ∀ (c : Cx) (A : Around) (s : Shared), BaseOk wd c.B → Rm n A → Bel A c → Own c fp s → ∀ (Q : Value → Shared → Prop) (E : Value → Shared → Prop), (∀ v fp' s', post v fp' → Own c fp' s' → Q v s') → wpAny (model pw wd) A t Q E s
theorem hide_keep {h : Heap} {l : Led} {b : Addr} {o : Obj} (e : h.get? b = some o) (n : ∀ p ∈ l, p.1 ≠ b) : (hideAll h (l.map (·.1))).get? b = some o :=
  hideAll_get _ e fun q => by obtain ⟨p, hp, e⟩ := List.mem_map.mp q; exact n p hp e
theorem W.split {c : Cx} {env : Env} {T : List Str} {vs : List (Option Value)} {l fp rest : Led} {s : Shared} {wd : World} {A : Around} (w : W c env T vs l s) (bo : BaseOk wd c.B) (sk : Stk A c env) (pk : l.Perm (fp ++ rest)) :
    ∃ c' : Cx, BaseOk wd c'.B ∧ (∀ A' : Around, A'.frames = A.frames → Bel A' c') ∧ Own c' fp s ∧ ∀ fp' s', Own c' fp' s' → W c env T vs (fp' ++ rest) s' := by
  have w := w.perm pk
  have o := w.own
  let hid := (fp ++ ((env.locals, NsObj (loc T vs)) :: c.fl)).map (·.1)
  have nbase : ∀ b x, c.B.get? b = some x → b ∉ hid := fun b x e hm => by
    obtain ⟨p, hp, q⟩ := List.mem_map.mp hm
    rcases List.mem_append.mp hp with hp | hp
    · have := o.off p (List.mem_append_left _ (List.mem_append_left _ hp)); rw [q, e] at this; cases this
    · rcases List.mem_cons.mp hp with rfl | hp
      · exact absurd (Heap.lt_size e) (Nat.not_lt.mpr (q ▸ w.fr.above))
      · have := o.off p (List.mem_append_right _ hp); rw [q, e] at this; cases this
  have stay : ∀ b x, c.B.get? b = some x → (hideAll s.heap hid).get? b = some x := fun b x e => hideAll_get _ (o.base b x e) (nbase b x e)
  obtain ⟨outer, hA, hf, hfr, hk⟩ := sk
  obtain ⟨oL, es, ep, hL, hd, hk1, hk2⟩ := w.fr.ns
  have nd := o.nd
  have ndf : ((fp ++ ((env.locals, NsObj (loc T vs)) :: c.fl)).map (·.1)).Nodup := by
    rw [List.map_append, List.nodup_append]
    rw [List.append_assoc, List.map_append, List.nodup_append, List.map_append, List.nodup_append] at nd
    obtain ⟨n1, ⟨n2, n3, n4⟩, n5⟩ := nd
    refine ⟨n1, ?_, fun a ha b hb e => ?_⟩
    · rw [List.map_cons, List.nodup_cons]
      refine ⟨fun hm => ?_, n3⟩
      obtain ⟨p, hp, e⟩ := List.mem_map.mp hm
      exact w.offL p (List.mem_append_right _ hp) e
    · obtain ⟨q, hq, rfl⟩ := List.mem_map.mp hb
      rcases List.mem_cons.mp hq with rfl | hq
      · obtain ⟨p, hp, rfl⟩ := List.mem_map.mp ha
        exact w.offL p (List.mem_append_left _ (List.mem_append_left _ hp)) e
      · exact n5 a ha q.1 (List.mem_append_right _ (List.mem_map_of_mem hq)) e
  refine ⟨⟨hideAll s.heap hid, (env.locals, loc T vs) :: c.frs, c.g, c.os⟩, bo.keeps stay, fun A' e => ⟨env :: outer, e.trans hA, fun x hx => ?_⟩, ⟨fun b x e => of_hideAll _ e, fun p hp => ?_, fun p hp => hideAll_none _ (List.mem_map_of_mem hp), ndf, o.gens, o.os, by rw [hideAll_size]; exact Nat.le_refl _⟩, fun fp' s' o' => ?_⟩
  · rcases List.mem_cons.mp hx with rfl | hx
    · exact ⟨by rw [hk]; decide, _, hfr, .head _⟩
    · obtain ⟨a, L, b, h⟩ := hf x hx
      exact ⟨a, L, b, .tail _ h⟩
  · rcases List.mem_append.mp hp with hp | hp
    · exact o.led p (List.mem_append_left _ (List.mem_append_left _ hp))
    · rcases List.mem_cons.mp hp with rfl | hp
      · exact ⟨oL, hL, es, ep, hd, hk1, hk2⟩
      · exact o.led p (List.mem_append_right _ hp)
  · have hfl : (⟨hideAll s.heap hid, (env.locals, loc T vs) :: c.frs, c.g, c.os⟩ : Cx).fl = (env.locals, NsObj (loc T vs)) :: c.fl := rfl
    have o'' := o'
    obtain ⟨b1, b2, b3, b4, b5, b6, b7⟩ := o''
    rw [hfl] at b2 b3 b4
    have nrest : ∀ p ∈ rest, p.1 ∉ hid := fun p hp hm => by
      obtain ⟨q, hq, e⟩ := List.mem_map.mp hm
      rw [List.append_assoc, List.map_append, List.nodup_append, List.map_append, List.nodup_append] at nd
      obtain ⟨n1, ⟨n2, n3, n4⟩, n5⟩ := nd
      rcases List.mem_append.mp hq with hq | hq
      · exact n5 q.1 (List.mem_map_of_mem hq) p.1 (List.mem_append_left _ (List.mem_map_of_mem hp)) e
      · rcases List.mem_cons.mp hq with rfl | hq
        · exact w.offL p (List.mem_append_left _ (List.mem_append_right _ hp)) e.symm
        · exact n4 p.1 (List.mem_map_of_mem hp) q.1 (List.mem_map_of_mem hq) e.symm
    have alive : ∀ p ∈ rest, ∃ x, (hideAll s.heap hid).get? p.1 = some x ∧ p.2 x := fun p hp => by
      obtain ⟨x, hx, hP⟩ := o.led p (List.mem_append_left _ (List.mem_append_right _ hp))
      exact ⟨x, hideAll_get _ hx (nrest p hp), hP⟩
    have ns' : s'.heap.Ns env.locals (loc T vs) := by
      obtain ⟨x, hx, y, z, h1, h2, h3⟩ := b2 (env.locals, NsObj (loc T vs)) (List.mem_append_right _ (.head _))
      exact ⟨x, y, z, hx, h1, h2, h3⟩
    have mem : ∀ p ∈ (fp' ++ rest) ++ c.fl, p ∈ rest ∨ p ∈ fp' ++ c.fl := fun p hp => by
      simp only [List.mem_append] at hp ⊢
      rcases hp with (h | h) | h
      · exact .inr (.inl h)
      · exact .inl h
      · exact .inr (.inr h)
    have sub : ∀ p ∈ fp' ++ c.fl, p ∈ fp' ++ ((env.locals, NsObj (loc T vs)) :: c.fl) := fun p hp => by
      rcases List.mem_append.mp hp with h | h
      · exact List.mem_append_left _ h
      · exact List.mem_append_right _ (.tail _ h)
    refine ⟨⟨fun b x e => b1 b x (stay b x e), fun p hp => ?_, fun p hp => ?_, ?_, b5, b6, ?_⟩, ⟨ns', fun b x e => b1 b x (stay b x e), w.fr.above⟩, fun p hp e => ?_, w.fx⟩
    · rcases mem p hp with q | q
      · obtain ⟨x, hx, hP⟩ := alive p q
        exact ⟨x, b1 _ _ hx, hP⟩
      · exact b2 p (sub p q)
    · rcases mem p hp with q | q
      · exact o.off p (List.mem_append_left _ (List.mem_append_right _ q))
      · cases z : c.B.get? p.1 with
        | none => rfl
        | some x => have := b3 p (sub p q); rw [show (hideAll s.heap hid).get? p.1 = some x from stay _ _ z] at this; cases this
    · have n0 : ((fp' ++ c.fl).map (·.1)).Nodup := (((List.Sublist.refl fp').append (List.sublist_cons_self _ c.fl)).map (·.1)).nodup b4
      rw [List.map_append, List.nodup_append] at n0
      rw [List.append_assoc, List.map_append, List.nodup_append, List.map_append, List.nodup_append] at nd
      obtain ⟨n1, ⟨n2, n3, n4⟩, n5⟩ := nd
      have apart : ∀ p ∈ rest, ∀ q ∈ fp' ++ c.fl, q.1 ≠ p.1 := fun p hp q hq e => by
        obtain ⟨x, hx, _⟩ := alive p hp
        have := b3 q (sub q hq)
        rw [e] at this
        rw [show (hideAll s.heap hid).get? p.1 = none from this] at hx
        cases hx
      rw [List.append_assoc, List.map_append, List.nodup_append, List.map_append, List.nodup_append]
      refine ⟨n0.1, ⟨n2, n3, n4⟩, fun a ha b hb e => ?_⟩
      obtain ⟨q, hq, rfl⟩ := List.mem_map.mp ha
      rcases List.mem_append.mp hb with hb | hb
      · obtain ⟨p, hp, rfl⟩ := List.mem_map.mp hb
        exact apart p hp q (List.mem_append_left _ hq) e
      · exact n0.2.2 _ ha _ hb e
    · exact Nat.le_trans w.own.size (by rw [← hideAll_size hid s.heap]; exact b7)
    · rcases mem p hp with q | q
      · exact w.offL p (List.mem_append_left _ (List.mem_append_right _ q)) e
      · rw [List.map_append, List.nodup_append, List.map_cons, List.nodup_cons] at b4
        rcases List.mem_append.mp q with h | h
        · exact b4.2.2 _ (List.mem_map_of_mem h) _ (.head _) e
        · have z : p.1 ∈ c.fl.map (·.1) := List.mem_map_of_mem h
          rw [e] at z
          exact b4.2.1.1 z
theorem W.use {wd n A c env T vs l fp rest s t post} {Q E : Value → Shared → Prop} (w : W c env T vs l s) (bo : BaseOk wd c.B) (rm : Rm n A) (sk : Stk A c env) (pk : Pick fp l rest) (sp : Spec wd n t fp post)
    (h : ∀ v fp' s', post v fp' → W c env T vs (fp' ++ rest) s' → Q v s') : wpAny (model pw wd) A t Q E s := by
  obtain ⟨c', bo', bel, o', back⟩ := w.split bo sk pk.perm
  exact sp c' A s bo' rm (bel A rfl) o' Q E fun v fp' s' p o2 => h v fp' s' p (back fp' s' o2)
theorem spec_def {wd : World} {n : Nat} {f : Addr} {fd : FuncData} {body : List Stmt} {T : List Str} {vs : List (Option Value)} {args : List Value} {binds : List (Str × Value)} {fp : Led} {post : Value → Led → Prop}
    (F : Fn wd f fd body T) (hbind : ∀ s : Shared, (KF wd.params).In s.heap → BindsTo s fd ⟨args, []⟩ binds) (hv : Bv binds T vs)
    (k : ∀ (c : Cx) (A : Around) (L : Addr) (s : Shared) (Q : Value → Shared → Prop) (E : Value → Shared → Prop), BaseOk wd c.B → Rm n A → Stk A c (callEnv fd L f) → (∀ v fp' s', post v fp' → Own c fp' s' → Q v s') → W c (callEnv fd L f) T vs fp s →
      wpAny (model pw wd) A (execs body (callEnv fd L f)) (fun fl s'' => Q (match fl with | .ret v => v | _ => .none) s'') E s) : Spec wd (n + 1) (call (.ref f) args) fp post := by
  intro c A s bo rm bel o Q E hq
  have hk : fd.scope.kind = .function := by
    have ok := F.ok
    simp only [fnOk, Bool.and_eq_true, beq_iff_eq] at ok
    exact ok.2
  exact wpAny_call (enter F bo o rm.room (hbind s (bo.K.keeps o.base)) hv fun L s' w =>
    k c _ L s' (fun v s'' => Q v s'') _ bo rm.deeper (stk_of bel hk) hq w)
end Mine

namespace Mine
structure Bn (wd : World) (x : Str) (v : Value) : Prop where
  a : nsIn (KF wd.params) mainGlobals x = some none
  b : bootBuiltins x = some v
  c : x ≠ "__name__"
  d : (x == ("__debug__" : Str)) = false
structure Gn (wd : World) (x : Str) (v : Value) : Prop where
  a : nsIn (KF wd.params) mainGlobals x = some (some v)
  d : (x == ("__debug__" : Str)) = false
def nameTab : List (Str × Option Value) := [("len", none), ("next", none), ("iter", none), ("min", none), ("max", none), ("sum", none), ("range", none), ("sorted", none), ("Cache", some (.ref 844)), ("FIFOCache", some (.ref 896)), ("LFUCache", some (.ref 993)), ("LRUCache", some (.ref 1058)), ("RRCache", some (.ref 1116)), ("_TimedCache", some (.ref 1262)), ("TTLCache", some (.ref 1404)), ("_law_at", some (.ref 1413)), ("_law_line", some (.ref 1420)), ("_law_next", some (.ref 1425))]
theorem name_tab (wd : World) : nameTab.all (fun p => nsIn (KF wd.params) mainGlobals p.1 == some p.2) = true := by kernel_rfl
theorem name_in {wd : World} {x : Str} {v : Option Value} (h : (x, v) ∈ nameTab) : nsIn (KF wd.params) mainGlobals x = some v := beq_iff_eq.mp (List.all_eq_true.mp (name_tab wd) (x, v) h)
theorem bn_len (wd : World) : Bn wd "len" (.builtin "len") := ⟨name_in (.head _), Boot.«len», by decide, by decide⟩
theorem bn_next (wd : World) : Bn wd "next" (.builtin "next") := ⟨name_in (.tail _ (.head _)), Boot.«next», by decide, by decide⟩
theorem bn_iter (wd : World) : Bn wd "iter" (.builtin "iter") := ⟨name_in (.tail _ (.tail _ (.head _))), Boot.«iter», by decide, by decide⟩
theorem bn_min (wd : World) : Bn wd "min" (.builtin "min") := ⟨name_in (.tail _ (.tail _ (.tail _ (.head _)))), Boot.«min», by decide, by decide⟩
theorem bn_max (wd : World) : Bn wd "max" (.builtin "max") := ⟨name_in (.tail _ (.tail _ (.tail _ (.tail _ (.head _))))), Boot.«max», by decide, by decide⟩
theorem bn_sum (wd : World) : Bn wd "sum" (.builtin "sum") := ⟨name_in (.tail _ (.tail _ (.tail _ (.tail _ (.tail _ (.head _)))))), Boot.«sum», by decide, by decide⟩
theorem bn_range (wd : World) : Bn wd "range" (.type "range") := ⟨name_in (.tail _ (.tail _ (.tail _ (.tail _ (.tail _ (.tail _ (.head _))))))), Boot.«range», by decide, by decide⟩
theorem bn_sorted (wd : World) : Bn wd "sorted" (.builtin "sorted") := ⟨name_in (.tail _ (.tail _ (.tail _ (.tail _ (.tail _ (.tail _ (.tail _ (.head _)))))))), Boot.«sorted», by decide, by decide⟩
theorem gn_Cache (wd : World) : Gn wd "Cache" (.ref 844) := ⟨name_in (.tail _ (.tail _ (.tail _ (.tail _ (.tail _ (.tail _ (.tail _ (.tail _ (.head _))))))))), by decide⟩
theorem gn_FIFO (wd : World) : Gn wd "FIFOCache" (.ref 896) := ⟨name_in (.tail _ (.tail _ (.tail _ (.tail _ (.tail _ (.tail _ (.tail _ (.tail _ (.tail _ (.head _)))))))))), by decide⟩
theorem gn_LFU (wd : World) : Gn wd "LFUCache" (.ref 993) := ⟨name_in (.tail _ (.tail _ (.tail _ (.tail _ (.tail _ (.tail _ (.tail _ (.tail _ (.tail _ (.tail _ (.head _))))))))))), by decide⟩
theorem gn_LRU (wd : World) : Gn wd "LRUCache" (.ref 1058) := ⟨name_in (.tail _ (.tail _ (.tail _ (.tail _ (.tail _ (.tail _ (.tail _ (.tail _ (.tail _ (.tail _ (.tail _ (.head _)))))))))))), by decide⟩
theorem gn_RR (wd : World) : Gn wd "RRCache" (.ref 1116) := ⟨name_in (.tail _ (.tail _ (.tail _ (.tail _ (.tail _ (.tail _ (.tail _ (.tail _ (.tail _ (.tail _ (.tail _ (.tail _ (.head _))))))))))))), by decide⟩
theorem gn_Timed (wd : World) : Gn wd "_TimedCache" (.ref 1262) := ⟨name_in (.tail _ (.tail _ (.tail _ (.tail _ (.tail _ (.tail _ (.tail _ (.tail _ (.tail _ (.tail _ (.tail _ (.tail _ (.tail _ (.head _)))))))))))))), by decide⟩
theorem gn_TTL (wd : World) : Gn wd "TTLCache" (.ref 1404) := ⟨name_in (.tail _ (.tail _ (.tail _ (.tail _ (.tail _ (.tail _ (.tail _ (.tail _ (.tail _ (.tail _ (.tail _ (.tail _ (.tail _ (.tail _ (.head _))))))))))))))), by decide⟩
theorem gn_at (wd : World) : Gn wd "_law_at" (.ref 1413) := ⟨name_in (.tail _ (.tail _ (.tail _ (.tail _ (.tail _ (.tail _ (.tail _ (.tail _ (.tail _ (.tail _ (.tail _ (.tail _ (.tail _ (.tail _ (.tail _ (.head _)))))))))))))))), by decide⟩
theorem gn_line (wd : World) : Gn wd "_law_line" (.ref 1420) := ⟨name_in (.tail _ (.tail _ (.tail _ (.tail _ (.tail _ (.tail _ (.tail _ (.tail _ (.tail _ (.tail _ (.tail _ (.tail _ (.tail _ (.tail _ (.tail _ (.tail _ (.head _))))))))))))))))), by decide⟩
theorem gn_lnext (wd : World) : Gn wd "_law_next" (.ref 1425) := ⟨name_in (.tail _ (.tail _ (.tail _ (.tail _ (.tail _ (.tail _ (.tail _ (.tail _ (.tail _ (.tail _ (.tail _ (.tail _ (.tail _ (.tail _ (.tail _ (.tail _ (.tail _ (.head _)))))))))))))))))), by decide⟩
section
variable {wd : World} {A : Around} {E : Value → Shared → Prop} {c : Cx} {env : Env} {T : List Str} {vs vs' : List (Option Value)} {l l' : Led} {s : Shared} {x : Str} {v : Value} {pos : Pos} {M : Model}
theorem r_bn {Q : Value → Shared → Prop} (b : Bn wd x v) (w : W c env T vs l s) (bo : BaseOk wd c.B) (hk : env.kindOf x = some .globalImplicit) (hg : env.globals = mainGlobals) (hb : env.builtins = builtinsNs) (h : Q v s) : wpAny (model pw wd) A (eval (.Name x pos) env) Q E s :=
  r_builtin w bo hk hg hb b.a b.b b.c b.d h
theorem r_gn {Q : Value → Shared → Prop} (b : Gn wd x v) (w : W c env T vs l s) (bo : BaseOk wd c.B) (hk : env.kindOf x = some .globalImplicit) (hg : env.globals = mainGlobals) (h : Q v s) : wpAny (model pw wd) A (eval (.Name x pos) env) Q E s :=
  r_glob w bo hk hg b.a b.d h
theorem r_int {Q : Value → Shared → Prop} {i : Int} {k : Nat} (w : W c env T vs l s) (h : ∀ t s', W c env T vs l s' → Q (.int i t) s') : wpAny M A (eval (.Constant (.int i) k pos) env) Q E s := wpAny_Constant_int (h _ _ (w.toks _))
theorem r_add {Q : Value → Shared → Prop} {a b : Int} {t u : Tok} (w : W c env T vs l s) (h : ∀ t s', W c env T vs l s' → Q (.int (a + b) t) s') : wpAny (model pw wd) A (binaryOp .Add (.int a t) (.int b u)) Q E s := wpAny_add_int (h _ _ (w.toks _))
theorem r_sub {Q : Value → Shared → Prop} {a b : Int} {t u : Tok} (w : W c env T vs l s) (h : ∀ t s', W c env T vs l s' → Q (.int (a - b) t) s') : wpAny (model pw wd) A (binaryOp .Sub (.int a t) (.int b u)) Q E s := PySem.P.sub_int (h _ _ (w.toks _))
theorem r_iadd {Q : Value → Shared → Prop} {a b : Int} {t u : Tok} (w : W c env T vs l s) (h : ∀ t s', W c env T vs l s' → Q (.int (a + b) t) s') : wpAny (model pw wd) A (inplaceOp .Add (.int a t) (.int b u)) Q E s := wpAny_iadd_int (h _ _ (w.toks _))
theorem r_isub {Q : Value → Shared → Prop} {a b : Int} {t u : Tok} (w : W c env T vs l s) (h : ∀ t s', W c env T vs l s' → Q (.int (a - b) t) s') : wpAny (model pw wd) A (inplaceOp .Sub (.int a t) (.int b u)) Q E s := PySem.P.isub_int (h _ _ (w.toks _))
theorem r_mod {Q : Value → Shared → Prop} {a b : Int} {t u : Tok} (w : W c env T vs l s) (hb : b ≠ 0) (h : ∀ t s', W c env T vs l s' → Q (.int (a.fmod b) t) s') : wpAny (model pw wd) A (binaryOp .Mod (.int a t) (.int b u)) Q E s := mod_int' hb (h _ _ (w.toks _))
theorem r_lt {Q : Value → Shared → Prop} {a b : Int} {t u : Tok} (h : Q (.bool (decide (a < b))) s) : wpAny (model pw wd) A (compareOp .Lt (.int a t) (.int b u)) Q E s := PyProof.Rows.lt_int h
theorem r_gt {Q : Value → Shared → Prop} {a b : Int} {t u : Tok} (h : Q (.bool (decide (b < a))) s) : wpAny (model pw wd) A (compareOp .Gt (.int a t) (.int b u)) Q E s := PyProof.Rows.gt_int h
theorem r_eq {Q : Value → Shared → Prop} {a b : Int} {t u : Tok} (h : Q (.bool (a == b)) s) : wpAny (model pw wd) A (compareOp .Eq (.int a t) (.int b u)) Q E s := PyProof.Rows.eq_int h
theorem r_ne {Q : Value → Shared → Prop} {a b : Int} {t u : Tok} (h : Q (.bool (a != b)) s) : wpAny (model pw wd) A (compareOp .NotEq (.int a t) (.int b u)) Q E s := PyProof.Rows.ne_int h
end
end Mine

namespace Mine
structure Mt (wd : World) (C : Addr) (n : Str) (f : Addr) : Prop where
  find : findIn (KF wd.params) (.ref C) n = some (some (.ref f))
  fn : isFn (KF wd.params) (.ref f) = true
  is : fnIn (KF wd.params) f = true
structure Cc (wd : World) (C : Addr) (T : List Str) : Prop where
  cls : Cls wd C T
  noSeq : noSeq (KF wd.params) C = true
  noAttr : findIn (KF wd.params) (.ref C) "__getattr__" = some none
  size : findIn (KF wd.params) (.ref C) "_Cache__size" = some (some .none)
  nosize : ("_Cache__size" : Str) ∉ T
  short : T.length ≤ 50
def IsIt (d : Addr) (i n ep : Nat) (o : Obj) : Prop := KdkIter o d i n ep
def IsDE (wd : World) (kvs : List (Int × Value)) (ep : Nat) (o : Obj) : Prop := KdkAt (intKind pw wd) o kvs ep
theorem loc_nin : ∀ {T : List Str} {us : List (Option Value)} {n : Str}, n ∉ T → loc T us n = none
  | [], _, _, _ => by unfold loc; rfl
  | x :: T, [], _, _ => by unfold loc; rfl
  | x :: T, u :: us, n, h => by
    unfold loc
    have hx : ¬ n = x := fun e => h (e ▸ .head _)
    rw [if_neg hx]
    exact loc_nin fun m => h (.tail _ m)
section
variable {wd : World} {A : Around} {E : Value → Shared → Prop} {c : Cx} {env : Env} {T T' : List Str} {vs us : List (Option Value)} {l l' : Led} {s : Shared} {n : Str} {v : Value} {x dx C f : Addr} {expr : Bool}
theorem W.weak {a : Addr} {P P' : Obj → Prop} (w : W c env T vs l s) (u : Up a P P' l l') (h : ∀ o, s.heap.get? a = some o → P o → P' o) : W c env T vs l' s := by
  obtain ⟨pre, post, rfl, rfl⟩ := u.split
  have ea : ∀ R, (pre ++ (a, R) :: post) ++ c.fl = pre ++ (a, R) :: (post ++ c.fl) := fun R => by rw [List.append_assoc]; rfl
  have e : ((pre ++ (a, P') :: post) ++ c.fl).map (·.1) = ((pre ++ (a, P) :: post) ++ c.fl).map (·.1) := by simp
  have hm : ∀ p ∈ (pre ++ (a, P') :: post) ++ c.fl, ∃ q ∈ (pre ++ (a, P) :: post) ++ c.fl, q.1 = p.1 := fun p hp => by
    have : p.1 ∈ ((pre ++ (a, P) :: post) ++ c.fl).map (·.1) := e ▸ List.mem_map_of_mem hp
    exact List.mem_map.mp this
  refine ⟨⟨w.own.base, fun p hp => ?_, fun p hp => ?_, by rw [e]; exact w.own.nd, w.own.gens, w.own.os, w.own.size⟩, w.fr, fun p hp => ?_, w.fx⟩
  · rw [ea] at hp
    have led := w.own.led
    rw [ea] at led
    rcases List.mem_append.mp hp with q | q
    · exact led p (List.mem_append_left _ q)
    · rcases List.mem_cons.mp q with rfl | q
      · obtain ⟨o, ho, hP⟩ := led (a, P) (List.mem_append_right _ (.head _))
        exact ⟨o, ho, h o ho hP⟩
      · exact led p (List.mem_append_right _ (.tail _ q))
  · obtain ⟨q, hq, e2⟩ := hm p hp; rw [← e2]; exact w.own.off q hq
  · obtain ⟨q, hq, e2⟩ := hm p hp; rw [← e2]; exact w.offL q hq
theorem r_attr_size {Q : Value → Shared → Prop} (w : W c env T vs l s) (bo : BaseOk wd c.B) (k : Cc wd C T') (hx : Has x (IsInst C dx) l) (hd : Has dx (IsNs T' us) l)
    (h : ∀ s', W c env T vs l s' → Q .none s') : wpAny (model pw wd) A (getAttr (.ref x) ("_Cache__size" : Str) expr) Q E s := by
  obtain ⟨od, I, hn⟩ := inst_at w.own hx hd
  obtain ⟨h1, h2, h3, h4, h5, h6⟩ := k.cls.parts
  exact get_value (bo.K.keeps w.own.base) I h1 (findObj_cls h4 k.size (by kernel_rfl) rfl (by kernel_rfl) (by rw [lookIn_of hn, loc_nin k.nosize])) rfl (h _ (w.toks _))
theorem r_method {Q : Value × List Value → Shared → Prop} {pl : Sem Bool} (w : W c env T vs l s) (bo : BaseOk wd c.B) (k : Cc wd C T') (m : Mt wd C n f) (hx : Has x (IsInst C dx) l) (hd : Has dx (IsNs T' us) l) (hn : n ∉ T')
    (h : Q (.ref f, [.ref x]) s) : wpAny (model pw wd) A (getMethod (.ref x) n pl) Q E s := by
  obtain ⟨od, I, hno⟩ := inst_at w.own hx hd
  obtain ⟨h1, h2, h3, h4, h5, h6⟩ := k.cls.parts
  exact method_fn (bo.K.keeps w.own.base) I h1 k.noAttr m.find (beq_iff_eq.mp m.fn) (by show (lookIn n od).map _ = _; rw [lookIn_of hno, loc_nin hn]; rfl) h
theorem W.F (w : W c env T vs l s) : Fr c.B env.locals s.heap (loc T vs) := w.fr
theorem r_in {Q : Value → Shared → Prop} (w : W c env T vs l s) (bo : BaseOk wd c.B) (m : Mt wd C "__contains__" f) (hx : Has x (IsInst C dx) l) (hd : Has dx (IsNs T' us) l)
    (h : wpAny (model pw wd) A (call (.ref f) [.ref x, v]) (fun r s' => ∃ b, r = .bool b ∧ Q (.bool b) s') E s) : wpAny (model pw wd) A (compareOp .In v (.ref x)) Q E s := by
  obtain ⟨od, I, hno⟩ := inst_at w.own hx hd
  exact in_K w.fr bo.K I m.find m.fn (wpAny_mono h (fun r s' ⟨b, e, q⟩ => by subst e; exact wpAny_truthy_bool q) fun _ _ z => z)
theorem r_isubscr {Q : Value → Shared → Prop} {value slice : PySem.Expr} {i : Value} (w : W c env T vs l s) (bo : BaseOk wd c.B) (m : Mt wd C "__getitem__" f) (hx : Has x (IsInst C dx) l) (hd : Has dx (IsNs T' us) l)
    (h : wpAny (model pw wd) A.in1 (call (.ref f) [.ref x, i]) Q E s) (hsl : subscripted slice true (.ref x) i = runValue (.builtin "lifetime.subscript" ⟨[.ref x, i], []⟩) := by with_unfolding_all rfl) :
    wpAny (model pw wd) A (subscriptTail value slice (.ref x) i) Q E s := by
  obtain ⟨od, I, hno⟩ := inst_at w.own hx hd
  exact sub_K w.fr bo.K I m.find m.is m.fn h hsl
theorem r_isetitem {Q : Unit → Shared → Prop} {i : Value} (w : W c env T vs l s) (bo : BaseOk wd c.B) (k : Cc wd C T') (m : Mt wd C "__setitem__" f) (hx : Has x (IsInst C dx) l) (hd : Has dx (IsNs T' us) l)
    (h : wpAny (model pw wd) A (call (.ref f) [.ref x, i, v]) (fun _ s' => Q () s') E s) : wpAny (model pw wd) A (setItem (.ref x) i v) Q E s := by
  obtain ⟨od, I, hno⟩ := inst_at w.own hx hd
  exact ksp_setItem w.fr bo.K I k.noSeq m.find m.fn h
theorem r_idelitem {Q : Unit → Shared → Prop} {i : Value} (w : W c env T vs l s) (bo : BaseOk wd c.B) (k : Cc wd C T') (m : Mt wd C "__delitem__" f) (hx : Has x (IsInst C dx) l) (hd : Has dx (IsNs T' us) l)
    (h : wpAny (model pw wd) A (call (.ref f) [.ref x, i]) (fun _ s' => Q () s') E s) : wpAny (model pw wd) A (delItem (.ref x) i) Q E s := by
  obtain ⟨od, I, hno⟩ := inst_at w.own hx hd
  have X := bo.K.keeps w.own.base
  unfold delItem sequenceKey
  refine wpAny_holding (wpAny_bind (wpAny_bind (I.type.here ?_)))
  refine wpAny_bind ((anyM_none X k.noSeq).here ?_)
  rw [if_pos (show (!false) = true from rfl)]
  exact wpAny_pure (wpAny_bind (special_fn X I m.find (beq_iff_eq.mp m.fn) (wpAny_mono h (fun _ _ z => wpAny_pure z) fun _ _ z => z)))
theorem r_ilen {Q : Value → Shared → Prop} (w : W c env T vs l s) (bo : BaseOk wd c.B) (m : Mt wd C "__len__" f) (hx : Has x (IsInst C dx) l) (hd : Has dx (IsNs T' us) l)
    (h : wpAny (model pw wd) A.in1 (call (.ref f) [.ref x]) (fun r s' => ∃ k t, r = .int k t ∧ (0 ≤ k ∧ k < 2 ^ 63) ∧ ∀ t, Q (.int k t) { s' with toks := s'.toks + 1 }) E s) : wpAny (model pw wd) A (call (.builtin "len") [.ref x]) Q E s := by
  obtain ⟨od, I, hno⟩ := inst_at w.own hx hd
  exact len_K w.fr bo.K I m.find m.fn (wpAny_mono h (fun r s' ⟨k, t, e, b, q⟩ => by subst e; exact ⟨b, q _⟩) fun _ _ z => z)
end
section
variable {wd : World} {A : Around} {E : Value → Shared → Prop} {c : Cx} {env : Env} {T : List Str} {vs : List (Option Value)} {l l' : Led} {s : Shared} {d it : Addr} {kvs : List (Int × Value)} {k : Int} {v : Value} {ep : Nat}
theorem r_diter {Q : Value → Shared → Prop} (w : W c env T vs l s) (bo : BaseOk wd c.B) {g : Nat → Led} (u : ∀ ep, Up d (IsD wd kvs) (IsDE wd kvs ep) l (g ep))
    (h : ∀ it ep s', W c env T vs ((it, IsIt d 0 kvs.length ep) :: g ep) s' → Q (.ref it) s') : wpAny (model pw wd) A (call (.builtin "iter") [.ref d]) Q E s := by
  obtain ⟨o, ho, hd⟩ := w.own.get (u 0).has
  obtain ⟨ep, ha⟩ := KdkAt.of hd
  refine call_function_entry (by decide +kernel) (by decide +kernel) kdk_entry_iter (kdk_args_iter _) ?_
  unfold Builtin.«iter»
  refine wpAny_bind (m := someArgs "iter" 1 2 _) (wpAny_of_eq (a := [Value.ref d]) (by first | rfl | kernel_rfl!) ?_)
  show wpAny _ _ (pyIter (.ref d) >>= _) _ _ _
  refine wpAny_bind (wpAny_pyIter_dict (dict_low w.own bo (u 0).has) (ha.dictAt ho) ?_)
  have w' := w.weak (u ep) fun o' ho' _ => by rw [ho] at ho'; cases ho'; exact ha
  exact wpAny_pure ⟨_, rfl, h _ ep _ (w'.alloc rfl ⟨rfl, rfl⟩)⟩
theorem r_dnext {Q : Value → Shared → Prop} (w : W c env T vs ((it, IsIt d 0 kvs.length ep) :: l) s) (u : Up d (IsDE wd kvs ep) (IsD wd kvs) l l') (hx : kvs[0]? = some (k, v))
    (h : ∀ t s', W c env T vs l' s' → Q (.int k t) s') : wpAny (model pw wd) A (call (.builtin "next") [.ref it]) Q E s := by
  obtain ⟨io, hio, hi⟩ := w.own.get (P := IsIt d 0 kvs.length ep) .head
  obtain ⟨o, ho, ha⟩ := w.own.get (.tail u.has)
  have hit := KdkIter.at hi hio
  refine call_function_entry (by decide +kernel) (by decide +kernel) kdk_entry_next (kdk_args_next _) ?_
  unfold Builtin.«next»
  refine wpAny_bind (m := someArgs "next" 1 2 _) (wpAny_of_eq (a := [Value.ref it]) (by first | rfl | kernel_rfl!) ?_)
  dsimp only
  refine wpAny_bind (wpAny_specialOf (name := Str.ofString "__next__") hit.typeIs PySem.F.slot_dict_keyiterator_next.lookup ?_)
  refine wpAny_ite_split (fun hab => absurd hab (by decide)) (fun _ => ?_)
  refine wpAny_bind (kdk_special hit (KdkAt.dictAt ha ho) hx fun key h' hkey hit' hs => ?_)
  obtain ⟨o', ho', hc', hd'⟩ := hit'
  obtain ⟨t, rfl⟩ := Value.isInt_shape hkey
  have w1 : W c env T vs ((it, IsIt d 1 kvs.length ep) :: l) { s with heap := h', toks := s.toks } := w.upd .head hs ho' ⟨hc', hd'⟩
  have w2 := w1.weak (.tail u) fun o2 ho2 hP => let ⟨es, r⟩ := hP; ⟨es, ep, r⟩
  exact wpAny_pure ⟨_, rfl, h t _ (w2.sub (List.sublist_cons_self _ _))⟩
end
end Mine

namespace Mine

theorem if_t {b : Bool} {P R : Prop} (h : b = true) (p : P) : if b = true then P else R := by rw [if_pos h]; exact p
theorem if_f {b : Bool} {P R : Prop} (h : b = false) (p : R) : if b = true then P else R := by rw [if_neg (by rw [h]; decide)]; exact p
section
variable {wd : World} {A : Around} {E : Value → Shared → Prop} {s : Shared} {env : Env} {pos : Pos} {Q : Flow → Shared → Prop}
theorem r_try {M : Model} {body orelse : List Stmt} {h₀ : ExceptHandler} {hs : List ExceptHandler}
    (h : ∀ E', wpAny M A (execs body env) (fun f s₁ => match f with | .next => wpAny M A (execs orelse env) Q E s₁ | f => Q f s₁) E' s) : wpAny M A (exec (.Try body (h₀ :: hs) orelse [] pos) env) Q E s := by
  rw [arm_exec_Try]
  exact wpAny_bind (wpAny_standAt (wpAny_tryStmt_except (h _)))
theorem r_while0 {test : PySem.Expr} {body : List Stmt} (h : ∀ E', wpAny (model pw wd) A (isTrue test env (eval test env)) (fun b s' => b = false ∧ Q .next s') E' s) : wpAny (model pw wd) A (exec (.While test body [] pos) env) Q E s := by
  refine wpAny_While (codeAny_whileLoop (I := fun _ s' => s' = s) (fun n s' e => ?_) 0 rfl)
  subst e
  refine wpAny_mono (h _) (fun b s₂ ⟨e, q⟩ => ?_) fun _ _ z => z
  subst e
  exact if_f rfl (wpAny_execs_nil q)
end
section
variable {wd : World} {A : Around} {E : Value → Shared → Prop} {c : Cx} {env : Env} {T : List Str} {vs : List (Option Value)} {l : Led} {s : Shared} {d : Addr} {kvs : List (Int × Value)} {k : Int} {t : Tok} {v : Value}
theorem r_dsubA {value slice : PySem.Expr} {Q : Value → Shared → Prop} (w : W c env T vs l s) (hd : Has d (IsD wd kvs) l) (hv : valueAt kvs k = some v) (h : ∀ s', W c env T vs l s' → Q v s')
    (hs : subscripted slice false (.ref d) (.int k t) = operate [.ref d, .int k t] (getItem (.ref d) (.int k t)) := by with_unfolding_all rfl) :
    wpAny (model pw wd) A (subscriptTail value slice (.ref d) (.int k t)) Q E s :=
  subscriptTail_builtinR (x := v) (dict_at w.own hd).typeIs slot_dict_getitem.lookup (r_dget w hd hv fun s' w' => ⟨rfl, h s' w'⟩) hs
end

def IsLs (xs : List Value) (o : Obj) : Prop := ∃ n, o = { cls := .type "list", dict := none, data := .seq xs.toArray n, slots := #[] }
def IsTu (xs : List Value) (o : Obj) : Prop := o = { cls := .type "tuple", data := .seq xs.toArray }
section
variable {wd : World} {A : Around} {E : Value → Shared → Prop} {c : Cx} {env : Env} {T : List Str} {vs : List (Option Value)} {l l' : Led} {s : Shared} {d : Addr} {kvs : List (Int × Value)} {xs : List Value} {k : Int} {t : Tok} {v : Value} {pos : Pos}
theorem ls_at (o : Own c l s) (hd : Has d (IsLs xs) l) : ∃ n, s.heap.get? d = some { cls := .type "list", dict := none, data := .seq xs.toArray n, slots := #[] } := by
  obtain ⟨x, h1, n, rfl⟩ := o.get hd
  exact ⟨n, h1⟩
theorem ls_is (o : Own c l s) (hd : Has d (IsLs xs) l) : s.heap.IsList d xs.toArray := by
  obtain ⟨n, h⟩ := ls_at o hd
  exact ⟨_, h, rfl, n, rfl⟩
theorem tu_at (o : Own c l s) (hd : Has d (IsTu xs) l) : IsTup s.heap d xs.toArray := by
  obtain ⟨x, h1, rfl⟩ := o.get hd
  exact ⟨_, h1, rfl, 0, rfl⟩
theorem r_dict0 {Q : Value → Shared → Prop} (w : W c env T vs l s) (h : ∀ d s', W c env T vs ((d, IsD wd []) :: l) s' → Q (.ref d) s') : wpAny (model pw wd) A (eval (.Dict [] [] pos) env) Q E s :=
  wpAny_Dict_empty (h _ _ (w.alloc (o := { cls := .type "dict", data := .dict #[] }) (tk := s.toks) rfl ⟨#[], 0, ⟨rfl, rfl, rfl⟩, rfl, fun e he => by simp at he, .nil, .nil⟩))
theorem r_list0 {Q : Value → Shared → Prop} (w : W c env T vs l s) (h : ∀ d s', W c env T vs ((d, IsLs []) :: l) s' → Q (.ref d) s') : wpAny (model pw wd) A (eval (.List [] pos) env) Q E s :=
  wpAny_List (args_nil ⟨by decide, h _ _ (w.alloc (o := { cls := .type "list", data := .seq #[] }) (tk := s.toks) rfl ⟨0, rfl⟩)⟩)
def Made' (c : Cx) (env : Env) (T : List Str) (vs : List (Option Value)) (l : Led) (P : List Value → Obj → Prop) (Q : Value → Shared → Prop) (xs : List Value) (s : Shared) : Prop := W c env T vs l s ∧ ∀ d s', W c env T vs ((d, P xs) :: l) s' → Q (.ref d) s'
theorem r_made (w : W c env T vs l s) {P : List Value → Obj → Prop} {Q : Value → Shared → Prop} {xs : List Value} (h : ∀ d s', W c env T vs ((d, P xs) :: l) s' → Q (.ref d) s') : Made' c env T vs l P Q xs s := ⟨w, h⟩
theorem r_tuple {elts : List PySem.Expr} {m : Nat} {Q : Value → Shared → Prop} (_w : W c env T vs l s) (h : wpAny (model pw wd) A (spliced (backTo pos (starEach elts env))) (fun xs s' => xs.length ≤ 50 ∧ ∃ l, Made' c env T vs l IsTu Q xs s') E s) :
    wpAny (model pw wd) A (eval (.Tuple elts m pos) env) Q E s :=
  wpAny_Tuple (wpAny_mono h (fun xs s' ⟨hz, l, w, q⟩ => ⟨by rw [sizeLine_eq]; omega, q _ _ (w.alloc (o := { cls := .type "tuple", data := .seq xs.toArray }) (tk := s'.toks) rfl rfl)⟩) fun _ _ z => z)
theorem r_list {elts : List PySem.Expr} {Q : Value → Shared → Prop} (_w : W c env T vs l s) (h : wpAny (model pw wd) A (spliced (backTo pos (starEach elts env))) (fun xs s' => xs.length ≤ 50 ∧ ∃ l, Made' c env T vs l IsLs Q xs s') E s) :
    wpAny (model pw wd) A (eval (.List elts pos) env) Q E s :=
  wpAny_List (wpAny_mono h (fun xs s' ⟨hz, l, w, q⟩ => ⟨by rw [sizeLine_eq]; omega, q _ _ (w.alloc (o := { cls := .type "list", data := .seq xs.toArray }) (tk := s'.toks) rfl ⟨0, rfl⟩)⟩) fun _ _ z => z)
theorem ls_up {xs' : List Value} {h' : Heap} {tk : Nat} {n : Nat} (w : W c env T vs l s) (u : Up d (IsLs xs) (IsLs xs') l l') (hs : Heap.SameBut d s.heap h') (hm : h'.get? d = some { cls := .type "list", dict := none, data := .seq xs'.toArray n, slots := #[] }) : W c env T vs l' { s with heap := h', toks := tk } := w.upd u hs hm ⟨n, rfl⟩
theorem r_lget {Q : Value → Shared → Prop} (w : W c env T vs l s) (hd : Has d (IsLs xs) l) (h0 : 0 ≤ k) (h1 : k < 1000) (hx : xs[k.toNat]? = some v) (h : ∀ s', W c env T vs l s' → Q v s') : wpAny (model pw wd) A (getItem (.ref d) (.int k t)) Q E s :=
  wpAny_getItem_list (ls_is w.own hd) h0 (by omega) (by rw [List.getElem?_toArray]; exact hx) (h _ w)
theorem r_lsub {value slice : PySem.Expr} {Q : Value → Shared → Prop} (w : W c env T vs l s) (hd : Has d (IsLs xs) l) (h0 : 0 ≤ k) (h1 : k < 1000) (hx : xs[k.toNat]? = some v) (h : ∀ s', W c env T vs l s' → Q v s')
    (hs : subscripted slice false (.ref d) (.int k t) = operate [.ref d, .int k t] (getItem (.ref d) (.int k t))) :
    wpAny (model pw wd) A (subscriptTail value slice (.ref d) (.int k t)) Q E s :=
  subscriptTail_builtinR (x := v) (ls_is w.own hd).typeIs list_getitem_lookup (r_lget w hd h0 h1 hx fun s' w' => ⟨rfl, h s' w'⟩) hs
theorem r_lsub_last {value slice : PySem.Expr} {Q : Value → Shared → Prop} (w : W c env T vs l s) (hd : Has d (IsLs xs) l) (hx : xs[xs.length - 1]? = some v) (h : ∀ s', W c env T vs l s' → Q v s')
    (hs : subscripted slice false (.ref d) (.int (-1) t) = operate [.ref d, .int (-1) t] (getItem (.ref d) (.int (-1) t))) :
    wpAny (model pw wd) A (subscriptTail value slice (.ref d) (.int (-1) t)) Q E s := by
  have hp : 0 < xs.length := by
    rcases Nat.eq_zero_or_pos xs.length with e | e
    · rw [List.eq_nil_of_length_eq_zero e] at hx; cases hx
    · exact e
  exact subscriptTail_builtinR (x := v) (ls_is w.own hd).typeIs list_getitem_lookup (wpAny_getItem_list_neg (ls_is w.own hd) (by decide) (by rw [List.size_toArray]; omega) (by decide) (by
    rw [List.size_toArray, List.getElem?_toArray, show ((-1 : Int) + (xs.length : Int)).toNat = xs.length - 1 by omega]; exact hx) ⟨rfl, h _ w⟩) hs
theorem r_tsub {value slice : PySem.Expr} {Q : Value → Shared → Prop} (w : W c env T vs l s) (hd : Has d (IsTu xs) l) (h0 : 0 ≤ k) (h1 : k < 1000) (hx : xs[k.toNat]? = some v) (h : ∀ s', W c env T vs l s' → Q v s')
    (hs : subscripted slice false (.ref d) (.int k t) = operate [.ref d, .int k t] (getItem (.ref d) (.int k t))) :
    wpAny (model pw wd) A (subscriptTail value slice (.ref d) (.int k t)) Q E s := by
  have hk : k.toNat < xs.length := (List.getElem?_eq_some_iff.mp hx).1
  exact subscriptTail_builtinR (x := v) (tu_at w.own hd).typeIs PySem.F.slot_tuple_getitem.lookup (getItem_tuple (j := k.toNat) (tu_at w.own hd) (by omega) (by omega) (by
    unfold seqIndex?
    rw [List.size_toArray]
    simp only [show ¬ k < 0 by omega, if_false]
    rw [if_pos (by simp only [Bool.and_eq_true, decide_eq_true_eq]; omega)]) (by rw [List.getElem?_toArray]; exact hx) ⟨rfl, h _ w⟩) hs
theorem r_llen {Q : Value → Shared → Prop} (w : W c env T vs l s) (hd : Has d (IsLs xs) l) (hz : xs.length ≤ 1000) (h : ∀ t s', W c env T vs l s' → Q (.int xs.length t) s') : wpAny (model pw wd) A (call (.builtin "len") [.ref d]) Q E s :=
  call_len_list (ls_is w.own hd) (by rw [List.size_toArray]; omega) (by rw [List.size_toArray]; exact h _ _ (w.toks _))
theorem r_ltruth {Q : Bool → Shared → Prop} (w : W c env T vs l s) (hd : Has d (IsLs xs) l) (hz : xs.length ≤ 1000) (h : ∀ s', W c env T vs l s' → Q (!xs.isEmpty) s') : wpAny (model pw wd) A (truthy (.ref d)) Q E s :=
  wpAny_truthy_list (ls_is w.own hd) (by rw [List.size_toArray]; omega) (by
    have e : xs.toArray.isEmpty = xs.isEmpty := by cases xs <;> rfl
    rw [e]; exact h _ (w.toks _))
theorem r_lappend {Q : Value → Shared → Prop} (w : W c env T vs l s) (u : Up d (IsLs xs) (IsLs (xs ++ [v])) l l') (hz : xs.length ≤ 1000) (h : ∀ s', W c env T vs l' s' → Q .none s') : wpAny (model pw wd) A (call (.builtin "list.append") [.ref d, v]) Q E s := by
  obtain ⟨n, ho⟩ := ls_at w.own u.has
  have hz' : xs.toArray.size ≤ sizeLine := by rw [sizeLine_eq, List.size_toArray]; omega
  refine call_meets PySem.F.slot_list_append ⟨_, ho, rfl⟩ PySem.F.entry_list_append (PySem.F.args_list_append_2 _ _) (PySem.list_append d xs.toArray n v hz') ⟨ho, ?_⟩
  have e := PySem.IsL.update (f := fun x => x.push v) (show PySem.IsL s.heap d xs.toArray n from ho)
  rw [show xs.toArray.push v = (xs ++ [v]).toArray by simp] at e
  exact h _ (ls_up w u (Heap.SameBut.update ..) e)
theorem r_lpop {Q : Value → Shared → Prop} (w : W c env T vs l s) (u : Up d (IsLs (xs ++ [v])) (IsLs xs) l l') (hz : xs.length ≤ 1000) (h : ∀ s', W c env T vs l' s' → Q v s') : wpAny (model pw wd) A (call (.builtin "list.pop") [.ref d]) Q E s := by
  obtain ⟨n, ho⟩ := ls_at w.own u.has
  have hz' : (xs ++ [v]).toArray.size ≤ sizeLine := by rw [sizeLine_eq, List.size_toArray, List.length_append]; simp; omega
  refine call_meets PySem.F.slot_list_pop ⟨_, ho, rfl⟩ PySem.F.entry_list_pop (PySem.F.args_list_pop_1 _) (PySem.MeetsSeq.list_pop_last d _ n v (by simp) hz') ⟨ho, ?_⟩
  have e := PySem.IsL.update (f := fun x => x.eraseIdxIfInBounds ((xs ++ [v]).toArray.size - 1)) (show PySem.IsL s.heap d (xs ++ [v]).toArray n from ho)
  have q : (xs ++ [v]).toArray.eraseIdxIfInBounds ((xs ++ [v]).toArray.size - 1) = xs.toArray := by
    rw [List.size_toArray]; simp [Array.eraseIdxIfInBounds, List.eraseIdx_append_of_length_le]
  rw [q] at e
  exact h _ (ls_up w u (Heap.SameBut.update ..) e)
theorem r_lset {Q : Unit → Shared → Prop} (w : W c env T vs l s) (u : Up d (IsLs xs) (IsLs (xs.set k.toNat v)) l l') (h0 : 0 ≤ k) (h1 : k < xs.length) (hz : xs.length ≤ 1000) (h : ∀ s', W c env T vs l' s' → Q () s') : wpAny (model pw wd) A (setItem (.ref d) (.int k t) v) Q E s := by
  obtain ⟨n, ho⟩ := ls_at w.own u.has
  have hl := ls_is w.own u.has
  have hfit := fitsIndex_of h0 (show k < 2 ^ 63 by omega)
  unfold setItem
  refine wpAny_holding ?_
  refine wpAny_bind (wpAny_sequenceKey hl.typeIs (by decide) ?_)
  refine wpAny_bind (wpAny_callSpecial?_slot (name := Str.ofString "__setitem__") hl.typeIs slot_list_setitem (wpAny_call_entry slot_list_setitem hl.typeIs entry_list_setitem ?_ (args_list_setitem _ _ _)))
  show wpAny _ _ (Builtin.List.listSubscript? (.int k t) >>= _) _ _ s
  refine wpAny_bind (wpAny_listSubscript_int hfit ?_)
  clear hfit
  obtain ⟨j, rfl⟩ := Int.eq_ofNat_of_zero_le h0
  have hj : j < xs.toArray.size := by rw [List.size_toArray]; omega
  have e := PySem.IsL.update (f := fun x => x.setIfInBounds j v) (show PySem.IsL s.heap d xs.toArray n from ho)
  rw [show xs.toArray.setIfInBounds j v = (xs.set j v).toArray by simp] at e
  have fin := h _ (ls_up w u (tk := s.toks) (Heap.SameBut.update ..) e)
  have hx' : xs.toArray[j]? = some xs.toArray[j] := Array.getElem?_eq_getElem hj
  show wpAny _ _ ((seqItemAt d j >>= fun r => pure (r.map (j, ·))) >>= _) _ _ s
  refine wpAny_bind (wpAny_bind (wpAny_seqItemAt ho rfl (wpAny_pure ?_)))
  rw [hx']
  show wpAny _ _ (setSeqItemAt d j v >>= _) _ _ s
  refine wpAny_bind (wpAny_setSeqItemAt ho rfl ?_)
  first
    | exact wpAny_bind (wpAny_pure (wpAny_pure ⟨.none, rfl, wpAny_pure fin⟩))
    | exact wpAny_pure ⟨.none, rfl, wpAny_pure fin⟩
theorem r_meth_dget {pl : Sem Bool} {Q : Value × List Value → Shared → Prop} (w : W c env T vs l s) (hd : Has d (IsD wd kvs) l) (h : Q (.builtin "dict.get", [.ref d]) s) : wpAny (model pw wd) A (getMethod (.ref d) "get" pl) Q E s :=
  getMethod_builtin (dict_at w.own hd).typeIs PySem.F.plainAttrs_dict PySem.F.slot_dict_get PySem.F.type_dict_get (dict_at w.own hd).mapOf.noDict h
theorem r_meth_dpop {pl : Sem Bool} {Q : Value × List Value → Shared → Prop} (w : W c env T vs l s) (hd : Has d (IsD wd kvs) l) (h : Q (.builtin "dict.pop", [.ref d]) s) : wpAny (model pw wd) A (getMethod (.ref d) "pop" pl) Q E s :=
  getMethod_builtin (dict_at w.own hd).typeIs PySem.F.plainAttrs_dict PySem.F.slot_dict_pop PySem.F.type_dict_pop (dict_at w.own hd).mapOf.noDict h
theorem r_meth_lpop {pl : Sem Bool} {Q : Value × List Value → Shared → Prop} (w : W c env T vs l s) (hd : Has d (IsLs xs) l) (h : Q (.builtin "list.pop", [.ref d]) s) : wpAny (model pw wd) A (getMethod (.ref d) "pop" pl) Q E s := by
  obtain ⟨n, ho⟩ := ls_at w.own hd
  exact getMethod_builtin ⟨_, ho, rfl⟩ PySem.F.plainAttrs_list PySem.F.slot_list_pop PySem.F.type_list_pop (fun a e => by cases e; exact ⟨_, ho, rfl⟩) h
theorem r_meth_lappend {pl : Sem Bool} {Q : Value × List Value → Shared → Prop} (w : W c env T vs l s) (hd : Has d (IsLs xs) l) (h : Q (.builtin "list.append", [.ref d]) s) : wpAny (model pw wd) A (getMethod (.ref d) "append" pl) Q E s := by
  obtain ⟨n, ho⟩ := ls_at w.own hd
  exact getMethod_builtin ⟨_, ho, rfl⟩ PySem.F.plainAttrs_list PySem.F.slot_list_append PySem.F.type_list_append (fun a e => by cases e; exact ⟨_, ho, rfl⟩) h
theorem r_dgetm {Q : Value → Shared → Prop} (w : W c env T vs l s) (bo : BaseOk wd c.B) (hd : Has d (IsD wd kvs) l) (x : Option Value) (hv : valueAt kvs k = x) (h : ∀ s', W c env T vs l s' → Q (x.getD .none) s') : wpAny (model pw wd) A (call (.builtin "dict.get") [.ref d, .int k t]) Q E s :=
  call_meetsIn PySem.F.slot_dict_get (dict_at w.own hd).typeIs PySem.F.entry_dict_get (PySem.F.args_dict_get_2 _ _) (meets_dict_get (intKind pw wd) d (intKey k t) (dict_low w.own bo hd)) ⟨_, (dict_at w.own hd).mapOf, by rw [hv]; exact h _ (w.toks _)⟩
theorem r_dnin {Q : Value → Shared → Prop} (w : W c env T vs l s) (bo : BaseOk wd c.B) (hd : Has d (IsD wd kvs) l) (b : Bool) (hb : (valueAt kvs k).isSome = b) (h : ∀ s', W c env T vs l s' → Q (.bool (!b)) s') : wpAny (model pw wd) A (compareOp .NotIn (.int k t) (.ref d)) Q E s :=
  wpAny_notIn_of (intKey k t) (dict_low w.own bo hd) (dict_at w.own hd).mapOf (by rw [hb]; exact h _ (w.toks _))
end

def mcOf (wd : World) (C : Addr) : Value := (typeIn (KF wd.params) (.ref C)).getD .none
structure Cr (wd : World) (C : Addr) : Prop where
  reads : readsIn (KF wd.params) C (mcOf wd C) = true
  special : specialIn (KF wd.params) (.ref C) "__getattribute__" = some (some (.builtin "type.__getattribute__"))
structure Cv (wd : World) (C : Addr) (n : Str) (v : Value) : Prop where
  cr : Cr wd C
  val : findCls (KF wd.params) (.ref C) (mcOf wd C) n = some (.val v)
  handed : handedIn v = true
section
variable {wd : World} {A : Around} {E : Value → Shared → Prop} {c : Cx} {env : Env} {T : List Str} {vs : List (Option Value)} {l : Led} {s : Shared} {n : Str} {v : Value} {C : Addr} {expr : Bool}
theorem r_clsattr {Q : Value → Shared → Prop} (k : Cv wd C n v) (w : W c env T vs l s) (bo : BaseOk wd c.B) (h : ∀ s', W c env T vs l s' → Q v s') : wpAny (model pw wd) A (getAttr (.ref C) n expr) Q E s :=
  cls_value (bo.K.keeps w.own.base) k.cr.reads k.val k.handed (h _ (w.toks _))
theorem r_clsmeth {Q : Value × List Value → Shared → Prop} {pl : Sem Bool} (k : Cv wd C n v) (w : W c env T vs l s) (bo : BaseOk wd c.B) (h : ∀ s', W c env T vs l s' → Q (v, []) s') : wpAny (model pw wd) A (getMethod (.ref C) n pl) Q E s :=
  method_cls (bo.K.keeps w.own.base) k.cr.special (r_clsattr k w bo h)
end
theorem cr_844 (wd : World) : Cr wd 844 := ⟨by kernel_rfl, by kernel_rfl⟩
theorem cv_844_getitem (wd : World) : Cv wd 844 "__getitem__" (.ref 742) := ⟨cr_844 wd, by kernel_rfl, rfl⟩
theorem cv_844_delitem (wd : World) : Cv wd 844 "__delitem__" (.ref 756) := ⟨cr_844 wd, by kernel_rfl, rfl⟩
theorem cv_844_init (wd : World) : Cv wd 844 "__init__" (.ref 728) := ⟨cr_844 wd, by kernel_rfl, rfl⟩
theorem gz_type (wd : World) : typeIn (KF wd.params) (.ref 840) = some (.type "staticmethod") := by kernel_rfl
theorem gz_get (wd : World) : specialIn (KF wd.params) (.ref 840) "__get__" = some (some (.builtin "staticmethod.__get__")) := by kernel_rfl
theorem gz_take (wd : World) : takesIn (KF wd.params) (.ref 840) = some false := by kernel_rfl
theorem gz_rec (wd : World) : recIn (KF wd.params) 840 "staticmethod" = some [.ref 838, .bool false] := by kernel_rfl
theorem gz_cls (wd : World) : findCls (KF wd.params) (.ref 844) (mcOf wd 844) "getsizeof" = some (.get (.builtin "staticmethod.__get__") (.ref 840) .none (.ref 844)) := by kernel_rfl
section
variable {wd : World} {A : Around} {E : Value → Shared → Prop} {c : Cx} {env : Env} {T T' : List Str} {vs us : List (Option Value)} {l : Led} {s : Shared} {n : Str} {v : Value} {C x dx a : Addr} {expr : Bool}
theorem r_gz_inst {Q : Value → Shared → Prop} (w : W c env T vs l s) (bo : BaseOk wd c.B) (k : Cc wd C T') (hf : findIn (KF wd.params) (.ref C) "getsizeof" = some (some (.ref 840))) (hx : Has x (IsInst C dx) l) (hd : Has dx (IsNs T' us) l) (hn : ("getsizeof" : Str) ∉ T')
    (h : ∀ s', W c env T vs l s' → Q (.ref 838) s') : wpAny (model pw wd) A (getAttr (.ref x) "getsizeof" expr) Q E s := by
  obtain ⟨od, I, hno⟩ := inst_at w.own hx hd
  obtain ⟨h1, h2, h3, h4, h5, h6⟩ := k.cls.parts
  have X := bo.K.keeps w.own.base
  exact get_bind X I h1 (findObj_fn h4 hf (gz_get wd) (gz_take wd) (by decide +kernel) (by rw [lookIn_of hno, loc_nin hn])) k.noAttr
    (wpAny_call (sm_get (s := { s with toks := s.toks + 1 }) X (gz_rec wd) (handed_on rfl (h _ (w.toks _)))))
theorem r_gz_cls {Q : Value → Shared → Prop} (w : W c env T vs l s) (bo : BaseOk wd c.B) (h : ∀ s', W c env T vs l s' → Q (.ref 838) s') : wpAny (model pw wd) A (getAttr (.ref 844) "getsizeof" expr) Q E s := by
  have X := bo.K.keeps w.own.base
  exact cls_bind X (cr_844 wd).reads (gz_cls wd) (wpAny_call (sm_get (s := { s with toks := s.toks + 1 }) X (gz_rec wd) (handed_on rfl (h _ (w.toks _)))))
theorem r_isnot_self {M : Model} {Q : Value → Shared → Prop} (h : Q (.bool false) s) : wpAny M A (compareOp .IsNot (.ref a) (.ref a)) Q E s := by
  show wpAny M A (do return .bool (!(← isSame (.ref a) (.ref a)))) Q E s
  exact wpAny_bind (wpAny_isSame_ref_self (wpAny_pure h))
theorem r_is_self {M : Model} {Q : Value → Shared → Prop} (h : Q (.bool true) s) : wpAny M A (compareOp .Is (.ref a) (.ref a)) Q E s := by
  show wpAny M A (do return .bool (← isSame (.ref a) (.ref a))) Q E s
  exact wpAny_bind (wpAny_isSame_ref_self (wpAny_pure h))
end

def SpecC (wd : World) (n : Nat) (f : Addr) (args : List Value) (fp : Led) (post : Value → Led → Prop) : Prop :=
  ∀ (c : Cx) (A : Around) (s : Shared), BaseOk wd c.B → Rm n A → Bel A c → Own c fp s → ∀ (R : Result → Shared → Prop), (∀ v fp' s', post v fp' → Own c fp' s' → R (.ok (.ret v)) s') → codeAny (model pw wd) A (.call (.ref f) ⟨args, []⟩) R s
theorem SpecC.spec {wd n f args fp post} (h : SpecC wd n f args fp post) : Spec wd n (call (.ref f) args) fp post := fun c A s bo rm bel o Q E hq => wpAny_call (h c A s bo rm bel o _ fun v fp' s' p o' => hq v fp' s' p o')
theorem spec_defC {wd : World} {n : Nat} {f : Addr} {fd : FuncData} {body : List Stmt} {T : List Str} {vs : List (Option Value)} {args : List Value} {binds : List (Str × Value)} {fp : Led} {post : Value → Led → Prop}
    (F : Fn wd f fd body T) (hbind : ∀ s : Shared, (KF wd.params).In s.heap → BindsTo s fd ⟨args, []⟩ binds) (hv : Bv binds T vs)
    (k : ∀ (c : Cx) (A : Around) (L : Addr) (s : Shared) (Q : Value → Shared → Prop) (E : Value → Shared → Prop), BaseOk wd c.B → Rm n A → Stk A c (callEnv fd L f) → (∀ v fp' s', post v fp' → Own c fp' s' → Q v s') → W c (callEnv fd L f) T vs fp s →
      wpAny (model pw wd) A (execs body (callEnv fd L f)) (fun fl s'' => Q (match fl with | .ret v => v | _ => .none) s'') E s) : SpecC wd (n + 1) f args fp post := by
  intro c A s bo rm bel o R hq
  have hk : fd.scope.kind = .function := by
    have ok := F.ok
    simp only [fnOk, Bool.and_eq_true, beq_iff_eq] at ok
    exact ok.2
  exact enter F bo o rm.room (hbind s (bo.K.keeps o.base)) hv fun L s' w =>
    k c _ L s' (fun v s'' => R (.ok (.ret v)) s'') _ bo rm.deeper (stk_of bel hk) hq w
theorem under_frames (A : Around) (a : Args) : (A.under (.builtin "type.__call__" a)).frames = A.frames := by
  obtain ⟨h, d, f, g, u⟩ := A
  cases f <;> rfl
theorem make_units {C : Addr} {rest : List Value} : (Code.builtin "type.__call__" ⟨.ref C :: rest, []⟩).cUnits ≤ 10 := by
  first
    | exact (by decide : (1 : Nat) ≤ 10)
    | exact (by decide : (4 : Nat) ≤ 10)
    | exact (by decide : (7 : Nat) ≤ 10)
theorem Rm.make {n A C rest} (r : Rm (n + 1) A) : Rm n (A.under (.builtin "type.__call__" ⟨.ref C :: rest, []⟩)) := by
  have := make_units (C := C) (rest := rest)
  refine ⟨?_, ?_, r.handled⟩
  · have := r.depth; show A.depth + 1 + n < _; omega
  · have := r.units
    show A.units + (Code.builtin "type.__call__" ⟨.ref C :: rest, []⟩).cUnits + 10 * n < _
    omega
theorem r_make {wd : World} {n : Nat} {A : Around} {E : Value → Shared → Prop} {c : Cx} {env : Env} {T T' : List Str} {vs : List (Option Value)} {l : Led} {s : Shared} {C fI : Addr} {args : List Value} {Q : Value → Shared → Prop} {post : Addr → Addr → Value → Led → Prop}
    (w : W c env T vs l s) (bo : BaseOk wd c.B) (rm : Rm (n + 1) A) (sk : Stk A c env) (hm : makesIn (KF wd.params) C = true) (hi : findIn (KF wd.params) (.ref C) "__init__" = some (some (.ref fI))) (hf : typeIn (KF wd.params) (.ref fI) = some (.type "function"))
    (sp : ∀ x dx, SpecC wd n fI (.ref x :: args) [(x, IsInst C dx), (dx, IsNs T' (T'.map fun _ => none))] (post x dx))
    (h : ∀ x dx v fp' s', post x dx v fp' → W c env T vs (fp' ++ l) s' → v = .none ∧ Q (.ref x) s') : wpAny (model pw wd) A (call (.ref C) args) Q E s := by
  have X := bo.K.keeps w.own.base
  refine wpAny_call ?_
  obtain ⟨hh, g, d, t, os⟩ := s
  refine make_core (makes_of X hm) (looks_findIn X hi) (fun self => bind_fn X self hf) (.inl rfl) ?_
  have w1 : W c env T vs ((hh.objs.size, IsNs T' (T'.map fun _ => none)) :: l) ⟨hh.push emptyDict, g, d, t, os⟩ :=
    w.alloc (o := emptyDict) (tk := t) rfl ⟨#[], 0, rfl, by intro e he; simp at he, fun n => by rw [loc_none]; rfl, Nat.zero_le _⟩
  have w2 : W c env T vs ((hh.objs.size + 1, IsInst C hh.objs.size) :: (hh.objs.size, IsNs T' (T'.map fun _ => none)) :: l) ⟨(hh.push emptyDict).push (instObj C hh.objs.size), g, d, t, os⟩ := by
    have := w1.alloc (o := instObj C hh.objs.size) (tk := t) (P := IsInst C hh.objs.size) rfl rfl
    rwa [Heap.size_push] at this
  obtain ⟨c', bo', bel, o', back⟩ := w2.split (fp := [(hh.objs.size + 1, IsInst C hh.objs.size), (hh.objs.size, IsNs T' (T'.map fun _ => none))]) (rest := l) bo sk (.refl _)
  exact sp _ _ c' _ _ bo' rm.make (bel _ (under_frames _ _)) o' _ fun v fp' s' p o2 => h _ _ v fp' s' p (back fp' s' o2)

theorem bn_KeyError (wd : World) : Bn wd "KeyError" (.type "KeyError") := ⟨by kernel_rfl, PyProof.Rows.Boot.«KeyError», by decide, by decide⟩
theorem funFrames_of {h base : Heap} : ∀ {l : List Env}, (∀ e ∈ l, e.scope.kind ≠ .module ∧ ∃ L o, e.frame = some L ∧ base.get? L = none ∧ h.get? L = some o ∧ ∀ vs, o.data ≠ .fields vs) → h.FunFrames base l
  | [], _ => trivial
  | e :: l, k => ⟨(k e (.head _)).1, (k e (.head _)).2, funFrames_of fun x hx => k x (.tail _ hx)⟩
section
variable {wd : World} {A : Around} {E : Value → Shared → Prop} {c : Cx} {env : Env} {T : List Str} {vs : List (Option Value)} {l : Led} {s : Shared}
theorem W.slots {h' : Heap} {tk : Nat} {hid : List Addr} (w : W c env T vs l s) (hB : ∀ a ∈ hid, c.B.get? a = none) (hl : ∀ p ∈ l, p.1 ∉ hid) (st : (hideAll s.heap hid).StaysIn h') (up : s.heap.UpToSlots h') : W c env T vs l { s with heap := h', toks := tk } := by
  have hn : h'.Ns env.locals (loc T vs) := up.ns w.fr.ns
  have keep : ∀ b o, c.B.get? b = some o → h'.get? b = some o := fun b o e => st b o (hideAll_get _ (w.own.base b o e) fun m => by rw [hB b m] at e; cases e)
  refine ⟨⟨keep, fun p hp => ?_, w.own.off, w.own.nd, w.own.gens, w.own.os, Nat.le_of_lt (Nat.lt_of_le_of_lt w.fr.above hn.lt)⟩, ⟨hn, keep, w.fr.above⟩, w.offL, w.fx⟩
  obtain ⟨o, ho, hP⟩ := w.own.led p hp
  rcases List.mem_append.mp hp with q | q
  · exact ⟨o, st _ _ (hideAll_get _ ho (hl p q)), hP⟩
  · obtain ⟨r, hr, rfl⟩ := List.mem_map.mp q
    obtain ⟨es, ep, h1, h2, h3⟩ := hP
    obtain ⟨sl, e⟩ := up _ _ ho fun vs q => by rw [h1] at q; cases q
    exact ⟨_, e, es, ep, h1, h2, h3⟩
theorem caught {h' : Heap} {e : Addr} {tk : Nat} {b₀ : Stmt} {suite : List Stmt} {rest : List ExceptHandler} {np hp : Pos} {Q : Flow → Shared → Prop} (w : W c env T vs l s) (bo : BaseOk wd c.B) (sk : Stk A c env) (hx : Heap.NewExc s.heap h' e "KeyError")
    (hk : env.kindOf "KeyError" = some .globalImplicit) (hg : env.globals = mainGlobals) (hb : env.builtins = builtinsNs)
    (k : ∀ s2, W c env T vs l s2 → wpAny (model pw wd) (A.mark (some (.ref e))) (execs (b₀ :: suite) env) Q (fun _ _ => False) s2) :
    wpAny (model pw wd) A (noteFrame (.ref e) env) (fun _ s₂ => wpAny (model pw wd) A (setFlight (.ref e) none) (fun _ s₃ => wpAny (model pw wd) A (handleBy (.ref e) env (.ExceptHandler (some (.Name "KeyError" np)) none (b₀ :: suite) hp :: rest)) Q E s₃) E s₂) E { s with heap := h', toks := tk } := by
  obtain ⟨outer, hA, hf, hfr, hfn⟩ := sk
  let hid := (env :: outer).filterMap (·.frame)
  have inL : ∀ x ∈ env :: outer, x.scope.kind ≠ .module ∧ ∃ L o, x.frame = some L ∧ s.heap.get? L = some o ∧ (∀ vs, o.data ≠ .fields vs) ∧ c.B.get? L = none ∧ ∀ p ∈ l, p.1 ≠ L := fun x hx => by
    rcases List.mem_cons.mp hx with rfl | hx
    · obtain ⟨o, es, ep, h1, h2, _⟩ := w.fr.ns
      refine ⟨by rw [hfn]; decide, _, o, hfr, h1, (fun vs q => by rw [h2] at q; cases q), ?_, fun p hp => w.offL p (List.mem_append_left _ hp)⟩
      cases q : c.B.get? x.locals with
      | none => rfl
      | some o => exact absurd (Heap.lt_size q) (Nat.not_lt.mpr w.fr.above)
    · obtain ⟨a, L, b, hm⟩ := hf x hx
      obtain ⟨⟨L', m⟩, hq, rfl⟩ := List.mem_map.mp hm
      have hq' : (L', NsObj m) ∈ c.fl := List.mem_map_of_mem (f := fun p => (p.1, NsObj p.2)) hq
      obtain ⟨o, ho, es, ep, h1, _⟩ := w.own.led _ (List.mem_append_right _ hq')
      refine ⟨a, L', o, b, ho, (fun vs q => by rw [h1] at q; cases q), w.own.off _ (List.mem_append_right _ hq'), fun p hp e => ?_⟩
      have nd := w.own.nd
      rw [List.map_append, List.nodup_append] at nd
      exact nd.2.2 _ (List.mem_map_of_mem hp) _ (List.mem_map_of_mem hq') e
  have hidm : ∀ a ∈ hid, ∃ x ∈ env :: outer, x.frame = some a := fun a ha => let ⟨x, hx, e⟩ := List.mem_filterMap.mp ha; ⟨x, hx, e⟩
  have hB : ∀ a ∈ hid, c.B.get? a = none := fun a ha => by
    obtain ⟨x, hx, e⟩ := hidm a ha
    obtain ⟨_, L, o, q, _, _, r, _⟩ := inL x hx
    rw [e] at q; cases q; exact r
  have hl : ∀ p ∈ l, p.1 ∉ hid := fun p hp hm => by
    obtain ⟨x, hx, e⟩ := hidm _ hm
    obtain ⟨_, L, o, q, _, _, _, r⟩ := inL x hx
    rw [e] at q; cases q; exact r p hp rfl
  have st0 : (hideAll s.heap hid).StaysIn h' := fun b o q => hx.keeps _ _ (of_hideAll _ q)
  have ff : h'.FunFrames (hideAll s.heap hid) (env :: outer) := funFrames_of fun x hx' => by
    obtain ⟨a, L, o, q, ho, hd, _⟩ := inL x hx'
    exact ⟨a, L, o, q, hideAll_none _ (List.mem_filterMap.mpr ⟨x, hx', q⟩), hx.keeps _ _ ho, hd⟩
  have hen : (hideAll s.heap hid).get? e = none := by
    cases q : (hideAll s.heap hid).get? e with
    | none => rfl
    | some o => have := of_hideAll _ q; rw [hx.new] at this; cases this
  obtain ⟨ob, t, he, hcls, hd⟩ := hx.there
  have up0 : s.heap.UpToSlots h' := Heap.UpToSlots.of_keeps hx.keeps
  have step1 : ∀ {Q : Unit → Shared → Prop}, (∀ h₁, Heap.HeldW (hideAll s.heap hid) (env :: outer) e (.type "KeyError") t env.locals h₁ → h'.UpToSlots h₁ → Q () { s with heap := h₁, toks := tk }) → wpAny (model pw wd) A (noteFrame (.ref e) env) Q E { s with heap := h', toks := tk } := by
    intro Q hQ
    unfold noteFrame
    simp only [hfr]
    refine wpAny_bind (wpAny_field (s := { s with heap := h', toks := tk }) he hd (i := 1) (x := .none) rfl ?_)
    rw [if_neg (by decide)]
    refine wpAny_entryW (s := { s with heap := h', toks := tk }) (a0 := t) hA ff hfr he st0 hen hd (show 1 < 6 by decide) rfl fun h₁ hN => ?_
    obtain ⟨k1, k2, k3, k4⟩ := hN
    rw [hcls] at k3
    exact hQ h₁ ⟨k1, hen, k2, k3⟩ k4
  refine step1 fun h₁ held up1 => ?_
  refine wpAny_landsW (s := { s with heap := h₁, toks := tk }) held fun h₂ fly2 up2 => ?_
  have w2 : W c env T vs l { s with heap := h₂, toks := tk } := w.slots hB hl fly2.1 ((up0.trans up1).trans up2)
  obtain ⟨o2, ho2, hc2⟩ := fly2.there
  refine wpAny_handleBy_builtin (X := "KeyError") (T := "KeyError") (b := true) kr_isExc_KeyError kr_notTuple_KeyError (by rw [isSubtype_type]; kernel_rfl) ?_
  refine r_bn (bn_KeyError wd) w2 bo hk hg hb ⟨rfl, ⟨o2, ho2, hc2⟩, ?_⟩
  refine if_t rfl ?_
  refine lands_againW (s := { s with heap := h₂, toks := tk }) fly2 fun h₃ fly3 up3 => ?_
  have w3 : W c env T vs l { s with heap := h₃, toks := tk } := w.slots hB hl fly3.1 (((up0.trans up1).trans up2).trans up3)
  exact wpAny_mono (k _ w3) (fun _ _ z => z) fun _ _ z => z.elim
end
section
variable {wd : World} {A : Around} {E : Value → Shared → Prop} {c : Cx} {env : Env} {T : List Str} {vs : List (Option Value)} {l : Led} {s : Shared} {d : Addr} {kvs : List (Int × Value)} {k : Int} {t : Tok}
theorem r_dpop_miss {Q : Value → Shared → Prop} (w : W c env T vs l s) (bo : BaseOk wd c.B) (hd : Has d (IsD wd kvs) l) (hv : valueAt kvs k = none) (hh : A.handled = none) (h : ∀ h' e, Heap.NewExc s.heap h' e "KeyError" → E (.ref e) { s with heap := h', toks := s.toks + 1 }) :
    wpAny (model pw wd) A (call (.builtin "dict.pop") [.ref d, .int k t]) Q E s := by
  have D := dict_at w.own hd
  exact call_meetsIn PySem.F.slot_dict_pop D.typeIs PySem.F.entry_dict_pop (PySem.F.args_dict_pop_2 _ _) (meets_dict_pop_missing (intKind pw wd) d (intKey k t) (dict_low w.own bo hd) rfl) ⟨hh, kvs, D, hv, h⟩
theorem r_tryE {M : Model} {body orelse : List Stmt} {h₀ : ExceptHandler} {hs : List ExceptHandler} {pos : Pos} {Q : Flow → Shared → Prop}
    (h : wpAny M A (execs body env) (fun f s₁ => match f with | .next => wpAny M A (execs orelse env) Q E s₁ | f => Q f s₁)
      (fun e s₁ => wpAny M A (noteFrame e env) (fun _ s₂ => wpAny M A (setFlight e none) (fun _ s₃ => wpAny M A (handleBy e env (h₀ :: hs)) Q E s₃) E s₂) E s₁) s) : wpAny M A (exec (.Try body (h₀ :: hs) orelse [] pos) env) Q E s := by
  rw [arm_exec_Try]
  exact wpAny_bind (wpAny_standAt (wpAny_tryStmt_except h))
end
section
variable {wd : World} {A : Around} {E : Value → Shared → Prop} {c : Cx} {env : Env} {T T' : List Str} {vs us : List (Option Value)} {l : Led} {s : Shared} {x dx C f : Addr}
theorem r_iiter {Q : Value → Shared → Prop} (w : W c env T vs l s) (bo : BaseOk wd c.B) (m : Mt wd C "__iter__" f) (hx : Has x (IsInst C dx) l) (hd : Has dx (IsNs T' us) l)
    (h : wpAny (model pw wd) A.in1 (call (.ref f) [.ref x]) (fun r s' => ∃ it, r = .ref it ∧ s'.TypeIs (.ref it) "dict_keyiterator" ∧ Q (.ref it) s') E s) : wpAny (model pw wd) A (call (.builtin "iter") [.ref x]) Q E s := by
  obtain ⟨od, I, hno⟩ := inst_at w.own hx hd
  refine call_function_entry (by decide +kernel) (by decide +kernel) kdk_entry_iter (kdk_args_iter _) ?_
  unfold Builtin.«iter»
  refine wpAny_bind (m := someArgs "iter" 1 2 _) (wpAny_of_eq (a := [Value.ref x]) (by first | rfl | kernel_rfl!) ?_)
  show wpAny _ _ (pyIter (.ref x) >>= _) _ _ _
  refine wpAny_bind (owit_iter w.fr bo.K I m.find m.fn (wpAny_mono h (fun r s' ⟨it, e, ty, q⟩ => ?_) fun e s' z => ?_))
  · subst e
    unfold OwitIt
    exact wpAny_specialOf (name := Str.ofString "__next__") ty PySem.F.slot_dict_keyiterator_next.lookup (wpAny_pure ⟨_, rfl, q⟩)
  · exact z
end
theorem W.useP {wd n A c env T vs l fp rest s t post} {Q E : Value → Shared → Prop} (w : W c env T vs l s) (bo : BaseOk wd c.B) (rm : Rm n A) (sk : Stk A c env) (pk : l.Perm (fp ++ rest)) (sp : Spec wd n t fp post)
    (h : ∀ v fp' s', post v fp' → W c env T vs (fp' ++ rest) s' → Q v s') : wpAny (model pw wd) A t Q E s := by
  obtain ⟨c', bo', bel, o', back⟩ := w.split bo sk pk
  exact sp c' A s bo' rm (bel A rfl) o' Q E fun v fp' s' p o2 => h v fp' s' p (back fp' s' o2)
theorem Spec.mono {wd n t fp} {post post' : Value → Led → Prop} (h : Spec wd n t fp post) (k : ∀ v l, post v l → post' v l) : Spec wd n t fp post' :=
  fun c A s bo rm bel o Q E hq => h c A s bo rm bel o Q E fun v fp' s' p o' => hq v fp' s' (k v fp' p) o'
theorem r_method_own {wd : World} {A : Around} {E : Value → Shared → Prop} {c : Cx} {env : Env} {T T' : List Str} {vs us : List (Option Value)} {l : Led} {s : Shared} {x dx C : Addr} {n : Str} {v : Value} {pl : Sem Bool} {Q : Value × List Value → Shared → Prop}
    (w : W c env T vs l s) (bo : BaseOk wd c.B) (k : Cc wd C T') (hf : findIn (KF wd.params) (.ref C) n = some none) (hx : Has x (IsInst C dx) l) (hd : Has dx (IsNs T' us) l) (hv : Lget n v T' us) (hh : handedIn v = true)
    (h : ∀ s', W c env T vs l s' → Q (v, []) s') : wpAny (model pw wd) A (getMethod (.ref x) n pl) Q E s := by
  obtain ⟨od, I, hno⟩ := inst_at w.own hx hd
  obtain ⟨h1, h2, h3, h4, h5, h6⟩ := k.cls.parts
  exact method_usual (bo.K.keeps w.own.base) I h1 k.noAttr hf rfl (r_attr w bo k.cls hx hd hv hh fun s' w' => h s' w')
theorem r_neg {wd : World} {A : Around} {E : Value → Shared → Prop} {c : Cx} {env : Env} {T : List Str} {vs : List (Option Value)} {l : Led} {s : Shared} {a : Int} {t : Tok} {Q : Value → Shared → Prop} (w : W c env T vs l s) (h : ∀ t s', W c env T vs l s' → Q (.int (-a) t) s') : wpAny (model pw wd) A (unaryOp .USub (.int a t)) Q E s :=
  PySem.P.neg_int (h _ _ (w.toks _))
def IsFnObj (fd : FuncData) (o : Obj) : Prop := ∃ oc od sl, o = ⟨oc, od, .func fd, sl⟩
section
variable {wd : World} {A : Around} {E : Value → Shared → Prop} {c : Cx} {env : Env} {T : List Str} {vs : List (Option Value)} {l : Led} {s : Shared} {pos : Pos} {f : Addr} {fd : FuncData} {first : List Value} {Q : Value → Shared → Prop}
theorem fn_at (w : W c env T vs l s) (h : Has f (IsFnObj fd) l) : FnAt f s.heap := by
  obtain ⟨o, ho, oc, od, sl, rfl⟩ := w.own.get h
  exact ⟨oc, od, fd, sl, ho⟩
def ReadyF (wd : World) (f : Addr) (first : List Value) (A : Around) (Q : Value → Shared → Prop) (E : Value → Shared → Prop) (vs : List Value) (s : Shared) : Prop := FnAt f s.heap ∧ wpAny (model pw wd) A (call (.ref f) (first ++ vs)) Q E s
theorem r_callF {e : PySem.Expr} {rest : List PySem.Expr} (w : W c env T vs l s) (hf : Has f (IsFnObj fd) l) (h : wpAny (model pw wd) A (spliced (backTo pos (starEach (e :: rest) env))) (ReadyF wd f first A Q E) E s)
    (he : starEach (e :: rest) env = (false, eval e env) :: starEach rest env := by rfl) (hplain : (backTo pos (starEach rest env)).any (·.1) = false := by rfl) :
    wpAny (model pw wd) A (callWith pos (.ref f) first (backTo pos (starEach (e :: rest) env)) []) Q E s := callWith_F (fn_at w hf) h he hplain
theorem r_callF0 (w : W c env T vs l s) (hf : Has f (IsFnObj fd) l) (h : wpAny (model pw wd) A (call (.ref f) (first ++ [])) Q E s) :
    wpAny (model pw wd) A (callWith pos (.ref f) first (backTo pos (starEach [] env)) []) Q E s := callWith_F0 (fn_at w hf) h
theorem r_readyF {vs' : List Value} (w : W c env T vs l s) (hf : Has f (IsFnObj fd) l) (h : wpAny (model pw wd) A (call (.ref f) (first ++ vs')) Q E s) : ReadyF wd f first A Q E vs' s := ⟨fn_at w hf, h⟩
end

def IsSl (C dx : Addr) (vs : List (Option Value)) (o : Obj) : Prop := ∃ sl : Array (Option Value), o = { instObj C dx with slots := sl } ∧ sl.size ≤ vs.length ∧ ∀ i : Nat, (sl[i]?).join = (vs[i]?).join
theorem upd_mk {d : Addr} {o o' : Obj} {post : List (Addr × Obj)} (h2 : ∀ p ∈ post, p.1 ≠ d) : ∀ {pre : List (Addr × Obj)}, (∀ p ∈ pre, p.1 ≠ d) → Upd d o o' (pre ++ (d, o) :: post) (pre ++ (d, o') :: post)
  | [], _ => .head h2
  | _ :: _, h => .tail (h _ (.head _)) (upd_mk h2 fun p hp => h p (.tail _ hp))
structure Sl (wd : World) (C : Addr) (n : Str) (p i : Nat) : Prop where
  get : plainGet (KF wd.params) C n = true
  cls : isClsIn (KF wd.params) C = true
  find : findIn (KF wd.params) (.ref C) n = some (some (.ref p))
  dget : specialIn (KF wd.params) (.ref p) "__get__" = some (some (.builtin "member_descriptor.__get__"))
  takes : takesIn (KF wd.params) (.ref p) = some true
  slot : slotIn (KF wd.params) p C = some i
  setattr : findIn (KF wd.params) (.ref C) "__setattr__" = some (some (.builtin "object.__setattr__"))
  over : plainOver (KF wd.params) C = true
  taker : takerIn (KF wd.params) C n = some (some (.ref p))
  type : typeIn (KF wd.params) (.ref p) = some (.type "member_descriptor")
  small : i < 4
section
variable {wd : World} {A : Around} {E : Value → Shared → Prop} {c : Cx} {env : Env} {T : List Str} {vs : List (Option Value)} {l l' : Led} {s : Shared} {n : Str} {v : Value} {x dx C : Addr} {us : List (Option Value)} {p i : Nat} {expr : Bool}
theorem r_slot {Q : Value → Shared → Prop} (w : W c env T vs l s) (bo : BaseOk wd c.B) (k : Sl wd C n p i) (hx : Has x (IsSl C dx us) l) (hd : Has dx (IsNs [] []) l) (hv : (us[i]?).join = some v) (hh : handedIn v = true)
    (h : ∀ s', W c env T vs l s' → Q v s') : wpAny (model pw wd) A (getAttr (.ref x) n expr) Q E s := by
  obtain ⟨ox, h1, sl, rfl, h2, h3⟩ := w.own.get hx
  obtain ⟨od, h4, _⟩ := w.own.get hd
  exact get_slot w.fr bo.K ⟨h1, rfl, rfl, h4⟩ k.get k.cls k.find k.dget k.takes k.slot (by show (sl[i]?).join = some v; rw [h3]; exact hv) hh (h _ (w.toks _))
theorem r_setslot {Q : Unit → Shared → Prop} (w : W c env T vs l s) (bo : BaseOk wd c.B) (k : Sl wd C n p i) (hl : us.length = 4) (hd : Has dx (IsNs [] []) l) (hx : Up x (IsSl C dx us) (IsSl C dx (us.set i (some v))) l l')
    (h : ∀ s', W c env T vs l' s' → Q () s') : wpAny (model pw wd) A (setAttr (.ref x) n v) Q E s := by
  obtain ⟨od, h4, _⟩ := w.own.get hd
  obtain ⟨pre, post, rfl, rfl⟩ := hx.split
  obtain ⟨m, ox, m', N, ⟨sl, rfl, h2, h3⟩, s1, s2, d1, d2⟩ := w.news
  have hsm := k.small
  have e1 : ∀ j, (((sl ++ Array.replicate (i + 1 - sl.size) none).setIfInBounds i (some v))[j]?).join = ((us.set i (some v))[j]?).join := fun j => by
    by_cases hj : j = i
    · subst hj
      rw [Array.getElem?_setIfInBounds_self, List.getElem?_set_self (by omega)]
      rw [if_pos (by rw [Array.size_append, Array.size_replicate]; omega)]
    · rw [Array.getElem?_setIfInBounds_ne (by omega), List.getElem?_set_ne (by omega), ← h3 j, Array.getElem?_append]
      by_cases hjs : j < sl.size
      · rw [if_pos hjs]
      · rw [if_neg hjs, Array.getElem?_replicate, Array.getElem?_eq_none (by omega)]
        split <;> rfl
  refine set_slot w.fr bo.K N (ox' := { instObj C dx with slots := (sl ++ Array.replicate (i + 1 - sl.size) none).setIfInBounds i (some v) }) ⟨(N _ (List.mem_append_right _ (.head _))).1, rfl, rfl, h4⟩ k.setattr k.over k.taker k.type k.slot (by omega) rfl rfl (news' := m ++ (x, { instObj C dx with slots := (sl ++ Array.replicate (i + 1 - sl.size) none).setIfInBounds i (some v) }) :: m') ?_ fun h' F' N' => ?_
  · exact upd_mk d2 d1
  · exact h _ (w.back (tk := s.toks + 1) F' N' ⟨_, rfl, by rw [Array.size_setIfInBounds, Array.size_append, Array.size_replicate, List.length_set]; omega, e1⟩ s1 s2)
theorem sl_new {o : Obj} (h : IsInst C dx o) : IsSl C dx [none, none, none, none] o := by
  refine ⟨#[], by rw [h]; first | done | rfl, by simp, fun i => ?_⟩
  rcases i with _ | _ | _ | _ | i <;> simp
end
theorem sl_count (wd : World) : Sl wd 931 "count" 932 0 := ⟨by kernel_rfl, by kernel_rfl, by kernel_rfl, by kernel_rfl, by kernel_rfl, by kernel_rfl, by kernel_rfl, by kernel_rfl, by kernel_rfl, by kernel_rfl, by decide⟩
theorem sl_keys (wd : World) : Sl wd 931 "keys" 933 1 := ⟨by kernel_rfl, by kernel_rfl, by kernel_rfl, by kernel_rfl, by kernel_rfl, by kernel_rfl, by kernel_rfl, by kernel_rfl, by kernel_rfl, by kernel_rfl, by decide⟩
theorem sl_next (wd : World) : Sl wd 931 "next" 934 2 := ⟨by kernel_rfl, by kernel_rfl, by kernel_rfl, by kernel_rfl, by kernel_rfl, by kernel_rfl, by kernel_rfl, by kernel_rfl, by kernel_rfl, by kernel_rfl, by decide⟩
theorem sl_prev (wd : World) : Sl wd 931 "prev" 935 3 := ⟨by kernel_rfl, by kernel_rfl, by kernel_rfl, by kernel_rfl, by kernel_rfl, by kernel_rfl, by kernel_rfl, by kernel_rfl, by kernel_rfl, by kernel_rfl, by decide⟩
theorem sl_expires (wd : World) : Sl wd 1312 "expires" 1313 0 := ⟨by kernel_rfl, by kernel_rfl, by kernel_rfl, by kernel_rfl, by kernel_rfl, by kernel_rfl, by kernel_rfl, by kernel_rfl, by kernel_rfl, by kernel_rfl, by decide⟩
theorem sl_key (wd : World) : Sl wd 1312 "key" 1314 1 := ⟨by kernel_rfl, by kernel_rfl, by kernel_rfl, by kernel_rfl, by kernel_rfl, by kernel_rfl, by kernel_rfl, by kernel_rfl, by kernel_rfl, by kernel_rfl, by decide⟩
theorem sl_next' (wd : World) : Sl wd 1312 "next" 1315 2 := ⟨by kernel_rfl, by kernel_rfl, by kernel_rfl, by kernel_rfl, by kernel_rfl, by kernel_rfl, by kernel_rfl, by kernel_rfl, by kernel_rfl, by kernel_rfl, by decide⟩
theorem sl_prev' (wd : World) : Sl wd 1312 "prev" 1316 3 := ⟨by kernel_rfl, by kernel_rfl, by kernel_rfl, by kernel_rfl, by kernel_rfl, by kernel_rfl, by kernel_rfl, by kernel_rfl, by kernel_rfl, by kernel_rfl, by decide⟩

inductive Tls (r r' : Led) : Led → Led → Prop
  | here : Tls r r' r r'
  | hereA {x} : Tls r r' (r ++ x) (r' ++ x)
  | there {p l l'} : Tls r r' l l' → Tls r r' (p :: l) (p :: l')
theorem Has.app {a : Addr} {P : Obj → Prop} {y : Led} : ∀ {x : Led}, Has a P x → Has a P (x ++ y)
  | _, .head => .head
  | _, .tail h => .tail h.app
theorem Has.pre {a : Addr} {P : Obj → Prop} {y : Led} : ∀ {x : Led}, Has a P y → Has a P (x ++ y)
  | [], h => h
  | _ :: x, h => .tail (Has.pre (x := x) h)
theorem Up.app {a : Addr} {P P' : Obj → Prop} {y : Led} : ∀ {x x' : Led}, Up a P P' x x' → Up a P P' (x ++ y) (x' ++ y)
  | _, _, .head => .head
  | _, _, .tail h => .tail h.app
theorem Up.pre {a : Addr} {P P' : Obj → Prop} {y y' : Led} : ∀ {x : Led}, Up a P P' y y' → Up a P P' (x ++ y) (x ++ y')
  | [], h => h
  | _ :: x, h => .tail (Up.pre (x := x) h)
theorem Tls.has {r l : Led} {a : Addr} {P : Obj → Prop} {l' : Led} : Tls r r l l' → Has a P r → Has a P l
  | .here, h => h
  | .hereA, h => h.app
  | .there t, h => .tail (t.has h)
theorem Tls.up {r r' l l' : Led} {a : Addr} {P P' : Obj → Prop} : Tls r r' l l' → Up a P P' r r' → Up a P P' l l'
  | .here, h => h
  | .hereA, h => h.app
  | .there t, h => .tail (t.up h)
def ringOf {α : Type} (f : α → Addr → Led) (as : List Addr) (st : Addr → α) : Led := as.flatMap fun a => f (st a) a
def upd {α : Type} (st : Addr → α) (a : Addr) (k : α) : Addr → α := fun b => if b = a then k else st b
theorem upd_self {α : Type} {st : Addr → α} {a : Addr} {k : α} : upd st a k a = k := if_pos rfl
theorem upd_ne {α : Type} {st : Addr → α} {a b : Addr} {k : α} (h : b ≠ a) : upd st a k b = st b := if_neg h
section
variable {α : Type} {f : α → Addr → Led} {as : List Addr} {st : Addr → α} {a x : Addr} {P P' : Obj → Prop}
theorem ring_has (h : a ∈ as) (k : Has x P (f (st a) a)) : Has x P (ringOf f as st) := by
  induction as with
  | nil => cases h
  | cons b as ih =>
    rcases List.mem_cons.mp h with rfl | h
    · exact k.app
    · exact Has.pre (ih h)
theorem ring_congr {st st' : Addr → α} (h : ∀ b ∈ as, st b = st' b) : ringOf f as st = ringOf f as st' := by
  induction as with
  | nil => rfl
  | cons b as ih =>
    show f (st b) b ++ ringOf f as st = f (st' b) b ++ ringOf f as st'
    rw [h b (.head _), ih fun c hc => h c (.tail _ hc)]
theorem ring_up {k' : α} (nd : as.Nodup) (h : a ∈ as) (u : Up x P P' (f (st a) a) (f k' a)) : Up x P P' (ringOf f as st) (ringOf f as (upd st a k')) := by
  induction as with
  | nil => cases h
  | cons b as ih =>
    have nd' := List.nodup_cons.mp nd
    show Up x P P' (f (st b) b ++ ringOf f as st) (f (upd st a k' b) b ++ ringOf f as (upd st a k'))
    rcases List.mem_cons.mp h with e | h
    · subst e
      rw [upd_self, ring_congr (st := upd st a k') (st' := st) fun c hc => upd_ne fun e => nd'.1 (e ▸ hc)]
      exact u.app
    · rw [upd_ne (a := a) (b := b) fun e => nd'.1 (e ▸ h)]
      exact Up.pre (ih nd'.2 h)
theorem ring_cons : ringOf f (a :: as) st = f (st a) a ++ ringOf f as st := rfl
theorem ring_perm {as' : List Addr} (h : as.Perm as') : (ringOf f as st).Perm (ringOf f as' st) := h.flatMap_right _
end
structure Lk where
  dx : Addr
  ks : Addr
  c : Int
  tc : Tok
  nx : Addr
  pv : Addr
  kv : List (Int × Value)
def IsLk (k : Lk) : Obj → Prop := IsSl 931 k.dx [some (.int k.c k.tc), some (.ref k.ks), some (.ref k.nx), some (.ref k.pv)]
def lks (wd : World) (k : Lk) (a : Addr) : Led := [(a, IsLk k), (k.dx, IsNs [] []), (k.ks, IsD wd k.kv)]
section
variable {wd : World} {A : Around} {E : Value → Shared → Prop} {c : Cx} {env : Env} {T : List Str} {vs : List (Option Value)} {l l' : Led} {s : Shared} {a : Addr} {as : List Addr} {st : Addr → Lk} {expr : Bool}
theorem r_lk_count {Q : Value → Shared → Prop} (w : W c env T vs l s) (bo : BaseOk wd c.B) (t : Tls (ringOf (lks wd) as st) (ringOf (lks wd) as st) l l) (ha : a ∈ as) (h : ∀ s', W c env T vs l s' → Q (.int (st a).c (st a).tc) s') : wpAny (model pw wd) A (getAttr (.ref a) "count" expr) Q E s :=
  r_slot w bo (sl_count wd) (t.has (ring_has ha .head)) (t.has (ring_has ha (.tail .head))) rfl rfl h
theorem r_lk_keys {Q : Value → Shared → Prop} (w : W c env T vs l s) (bo : BaseOk wd c.B) (t : Tls (ringOf (lks wd) as st) (ringOf (lks wd) as st) l l) (ha : a ∈ as) (h : ∀ s', W c env T vs l s' → Q (.ref (st a).ks) s') : wpAny (model pw wd) A (getAttr (.ref a) "keys" expr) Q E s :=
  r_slot w bo (sl_keys wd) (t.has (ring_has ha .head)) (t.has (ring_has ha (.tail .head))) rfl rfl h
theorem r_lk_next {Q : Value → Shared → Prop} (w : W c env T vs l s) (bo : BaseOk wd c.B) (t : Tls (ringOf (lks wd) as st) (ringOf (lks wd) as st) l l) (ha : a ∈ as) (h : ∀ s', W c env T vs l s' → Q (.ref (st a).nx) s') : wpAny (model pw wd) A (getAttr (.ref a) "next" expr) Q E s :=
  r_slot w bo (sl_next wd) (t.has (ring_has ha .head)) (t.has (ring_has ha (.tail .head))) rfl rfl h
theorem r_lk_prev {Q : Value → Shared → Prop} (w : W c env T vs l s) (bo : BaseOk wd c.B) (t : Tls (ringOf (lks wd) as st) (ringOf (lks wd) as st) l l) (ha : a ∈ as) (h : ∀ s', W c env T vs l s' → Q (.ref (st a).pv) s') : wpAny (model pw wd) A (getAttr (.ref a) "prev" expr) Q E s :=
  r_slot w bo (sl_prev wd) (t.has (ring_has ha .head)) (t.has (ring_has ha (.tail .head))) rfl rfl h
theorem r_lk_setcount {i : Int} {ti : Tok} {Q : Unit → Shared → Prop} (w : W c env T vs l s) (bo : BaseOk wd c.B) (t0 : Tls (ringOf (lks wd) as st) (ringOf (lks wd) as st) l l) (t : Tls (ringOf (lks wd) as st) (ringOf (lks wd) as (upd st a { st a with c := i, tc := ti })) l l') (nd : as.Nodup) (ha : a ∈ as)
    (h : ∀ s', W c env T vs l' s' → Q () s') : wpAny (model pw wd) A (setAttr (.ref a) "count" (.int i ti)) Q E s :=
  r_setslot w bo (sl_count wd) rfl (t0.has (ring_has ha (.tail .head))) (t.up (ring_up nd ha .head)) h
theorem r_lk_setnext {b : Addr} {Q : Unit → Shared → Prop} (w : W c env T vs l s) (bo : BaseOk wd c.B) (t0 : Tls (ringOf (lks wd) as st) (ringOf (lks wd) as st) l l) (t : Tls (ringOf (lks wd) as st) (ringOf (lks wd) as (upd st a { st a with nx := b })) l l') (nd : as.Nodup) (ha : a ∈ as)
    (h : ∀ s', W c env T vs l' s' → Q () s') : wpAny (model pw wd) A (setAttr (.ref a) "next" (.ref b)) Q E s :=
  r_setslot w bo (sl_next wd) rfl (t0.has (ring_has ha (.tail .head))) (t.up (ring_up nd ha .head)) h
theorem r_lk_setprev {b : Addr} {Q : Unit → Shared → Prop} (w : W c env T vs l s) (bo : BaseOk wd c.B) (t0 : Tls (ringOf (lks wd) as st) (ringOf (lks wd) as st) l l) (t : Tls (ringOf (lks wd) as st) (ringOf (lks wd) as (upd st a { st a with pv := b })) l l') (nd : as.Nodup) (ha : a ∈ as)
    (h : ∀ s', W c env T vs l' s' → Q () s') : wpAny (model pw wd) A (setAttr (.ref a) "prev" (.ref b)) Q E s :=
  r_setslot w bo (sl_prev wd) rfl (t0.has (ring_has ha (.tail .head))) (t.up (ring_up nd ha .head)) h
theorem lk_keys_has (ha : a ∈ as) (t : Tls (ringOf (lks wd) as st) (ringOf (lks wd) as st) l l) : Has (st a).ks (IsD wd (st a).kv) l := t.has (ring_has ha (.tail (.tail .head)))
theorem lk_keys_up {kv' : List (Int × Value)} (nd : as.Nodup) (ha : a ∈ as) (t : Tls (ringOf (lks wd) as st) (ringOf (lks wd) as (upd st a { st a with kv := kv' })) l l') : Up (st a).ks (IsD wd (st a).kv) (IsD wd kv') l l' := t.up (ring_up nd ha (.tail (.tail .head)))
end
theorem r_assign_attr {M : Model} {A : Around} {E : Value → Shared → Prop} {s : Shared} {env : Env} {o : PySem.Expr} {attr : Str} {pos : Pos} {v : Value} {Q : Unit → Shared → Prop}
    (h : wpAny M A (eval o env) (fun ov s₂ => wpAny M A (setAttr ov attr v) Q E s₂) E s) : wpAny M A (assign (.Attribute o attr pos) env v) Q E s := fun Γ p hΓ => by
  simp only [assign_Attribute, Sem.wp_bind', Sem.wp_holding, Sem.wp_cmd_standAt, Sem.wp_release, Sem.wp_pure']
  exact Sem.wp_mono M Γ _ (fun ov _ s₂ h₂ => h₂ Γ _ hΓ) (fun _ _ _ h' => h') _ _ (h Γ p hΓ)

def loadK {α : Type} (t : Sem α) : Obj → Sem α := match t with
  | .load _ _ k => k
  | _ => fun _ => t
def loadP {α : Type} (t : Sem α) : Option Value := match t with
  | .load _ p _ => p
  | _ => none
theorem binds_load {s : Shared} {fd : FuncData} {args : Args} {binds : List (Str × Value)} {a : Addr} {o : Obj} (ho : s.heap.get? a = some o)
    (h1 : bindArgs fd args = .load a (loadP (bindArgs fd args)) (loadK (bindArgs fd args))) (h2 : loadK (bindArgs fd args) o = pure binds) : BindsTo s fd args binds := by
  intro M A E Q hq
  rw [h1]
  refine nd_load ho ?_
  rw [h2]
  exact wpAny_pure hq
theorem fn_728 (wd : World) : Fn wd 728 (fdOf (o_728 wd.params)) (fnBody (fAt [33, 2])) ["self", "maxsize", "getsizeof"] := ⟨⟨o_728 wd.params, by kernel_rfl, rfl⟩, rfl, by kernel_rfl⟩
theorem bd_728_2 (wd : World) (v0 v1 : Value) (s : Shared) (X : (KF wd.params).In s.heap) : BindsTo s (fdOf (o_728 wd.params)) ⟨[v0, v1], []⟩ [("self", v0), ("maxsize", v1), ("getsizeof", .none)] := binds_load (a := 721) (o := o_721 wd.params) (X _ _ (by kernel_rfl)) (by kernel_rfl) (by kernel_rfl)
theorem bv_728_2 (v0 v1 : Value) : Bv [("self", v0), ("maxsize", v1), ("getsizeof", .none)] ["self", "maxsize", "getsizeof"] [some v0, some v1, some .none] := (.cons (.cons (.cons .nil)))
theorem bd_728_3 (wd : World) (v0 v1 v2 : Value) (s : Shared) (X : (KF wd.params).In s.heap) : BindsTo s (fdOf (o_728 wd.params)) ⟨[v0, v1, v2], []⟩ [("self", v0), ("maxsize", v1), ("getsizeof", v2)] := binds_load (a := 721) (o := o_721 wd.params) (X _ _ (by kernel_rfl)) (by kernel_rfl) (by kernel_rfl)
theorem bv_728_3 (v0 v1 v2 : Value) : Bv [("self", v0), ("maxsize", v1), ("getsizeof", v2)] ["self", "maxsize", "getsizeof"] [some v0, some v1, some v2] := (.cons (.cons (.cons .nil)))
theorem fn_742 (wd : World) : Fn wd 742 (fdOf (o_742 wd.params)) (fnBody (fAt [33, 4])) ["self", "key"] := ⟨⟨o_742 wd.params, by kernel_rfl, rfl⟩, rfl, by kernel_rfl⟩
theorem bd_742_2 (wd : World) (v0 v1 : Value) (s : Shared) (X : (KF wd.params).In s.heap) : BindsTo s (fdOf (o_742 wd.params)) ⟨[v0, v1], []⟩ [("self", v0), ("key", v1)] := BindsTo.of_eq (by kernel_rfl)
theorem bv_742_2 (v0 v1 : Value) : Bv [("self", v0), ("key", v1)] ["self", "key"] [some v0, some v1] := (.cons (.cons .nil))
theorem fn_749 (wd : World) : Fn wd 749 (fdOf (o_749 wd.params)) (fnBody (fAt [33, 5])) ["self", "key", "value", "data", "size", "maxsize", "itemsize", "diffsize"] := ⟨⟨o_749 wd.params, by kernel_rfl, rfl⟩, rfl, by kernel_rfl⟩
theorem bd_749_3 (wd : World) (v0 v1 v2 : Value) (s : Shared) (X : (KF wd.params).In s.heap) : BindsTo s (fdOf (o_749 wd.params)) ⟨[v0, v1, v2], []⟩ [("self", v0), ("key", v1), ("value", v2)] := BindsTo.of_eq (by kernel_rfl)
theorem bv_749_3 (v0 v1 v2 : Value) : Bv [("self", v0), ("key", v1), ("value", v2)] ["self", "key", "value", "data", "size", "maxsize", "itemsize", "diffsize"] [some v0, some v1, some v2, none, none, none, none, none] := (.cons (.cons (.cons .nil)))
theorem fn_756 (wd : World) : Fn wd 756 (fdOf (o_756 wd.params)) (fnBody (fAt [33, 6])) ["self", "key", "size", "itemsize"] := ⟨⟨o_756 wd.params, by kernel_rfl, rfl⟩, rfl, by kernel_rfl⟩
theorem bd_756_2 (wd : World) (v0 v1 : Value) (s : Shared) (X : (KF wd.params).In s.heap) : BindsTo s (fdOf (o_756 wd.params)) ⟨[v0, v1], []⟩ [("self", v0), ("key", v1)] := BindsTo.of_eq (by kernel_rfl)
theorem bv_756_2 (v0 v1 : Value) : Bv [("self", v0), ("key", v1)] ["self", "key", "size", "itemsize"] [some v0, some v1, none, none] := (.cons (.cons .nil))
theorem fn_763 (wd : World) : Fn wd 763 (fdOf (o_763 wd.params)) (fnBody (fAt [33, 7])) ["self", "key"] := ⟨⟨o_763 wd.params, by kernel_rfl, rfl⟩, rfl, by kernel_rfl⟩
theorem bd_763_2 (wd : World) (v0 v1 : Value) (s : Shared) (X : (KF wd.params).In s.heap) : BindsTo s (fdOf (o_763 wd.params)) ⟨[v0, v1], []⟩ [("self", v0), ("key", v1)] := BindsTo.of_eq (by kernel_rfl)
theorem bv_763_2 (v0 v1 : Value) : Bv [("self", v0), ("key", v1)] ["self", "key"] [some v0, some v1] := (.cons (.cons .nil))
theorem fn_777 (wd : World) : Fn wd 777 (fdOf (o_777 wd.params)) (fnBody (fAt [33, 9])) ["self"] := ⟨⟨o_777 wd.params, by kernel_rfl, rfl⟩, rfl, by kernel_rfl⟩
theorem bd_777_1 (wd : World) (v0 : Value) (s : Shared) (X : (KF wd.params).In s.heap) : BindsTo s (fdOf (o_777 wd.params)) ⟨[v0], []⟩ [("self", v0)] := BindsTo.of_eq (by kernel_rfl)
theorem bv_777_1 (v0 : Value) : Bv [("self", v0)] ["self"] [some v0] := (.cons .nil)
theorem fn_784 (wd : World) : Fn wd 784 (fdOf (o_784 wd.params)) (fnBody (fAt [33, 10])) ["self"] := ⟨⟨o_784 wd.params, by kernel_rfl, rfl⟩, rfl, by kernel_rfl⟩
theorem bd_784_1 (wd : World) (v0 : Value) (s : Shared) (X : (KF wd.params).In s.heap) : BindsTo s (fdOf (o_784 wd.params)) ⟨[v0], []⟩ [("self", v0)] := BindsTo.of_eq (by kernel_rfl)
theorem bv_784_1 (v0 : Value) : Bv [("self", v0)] ["self"] [some v0] := (.cons .nil)
theorem fn_792 (wd : World) : Fn wd 792 (fdOf (o_792 wd.params)) (fnBody (fAt [33, 11])) ["self", "key", "default"] := ⟨⟨o_792 wd.params, by kernel_rfl, rfl⟩, rfl, by kernel_rfl⟩
theorem bd_792_3 (wd : World) (v0 v1 v2 : Value) (s : Shared) (X : (KF wd.params).In s.heap) : BindsTo s (fdOf (o_792 wd.params)) ⟨[v0, v1, v2], []⟩ [("self", v0), ("key", v1), ("default", v2)] := binds_load (a := 785) (o := o_785 wd.params) (X _ _ (by kernel_rfl)) (by kernel_rfl) (by kernel_rfl)
theorem bv_792_3 (v0 v1 v2 : Value) : Bv [("self", v0), ("key", v1), ("default", v2)] ["self", "key", "default"] [some v0, some v1, some v2] := (.cons (.cons (.cons .nil)))
theorem fn_674 (wd : World) : Fn wd 674 (fdOf (o_674 wd.params)) (fnBody (fAt [30, 5])) ["self", "key", "value"] := ⟨⟨o_674 wd.params, by kernel_rfl, rfl⟩, rfl, by kernel_rfl⟩
theorem bd_674_1 (wd : World) (v0 : Value) (s : Shared) (X : (KF wd.params).In s.heap) : BindsTo s (fdOf (o_674 wd.params)) ⟨[v0], []⟩ [("self", v0)] := BindsTo.of_eq (by kernel_rfl)
theorem bv_674_1 (v0 : Value) : Bv [("self", v0)] ["self", "key", "value"] [some v0, none, none] := (.cons .nil)
theorem fn_863 (wd : World) : Fn wd 863 (fdOf (o_863 wd.params)) (fnBody (fAt [34, 0])) ["self", "maxsize", "getsizeof"] := ⟨⟨o_863 wd.params, by kernel_rfl, rfl⟩, rfl, by kernel_rfl⟩
theorem bd_863_2 (wd : World) (v0 v1 : Value) (s : Shared) (X : (KF wd.params).In s.heap) : BindsTo s (fdOf (o_863 wd.params)) ⟨[v0, v1], []⟩ [("self", v0), ("maxsize", v1), ("getsizeof", .none)] := binds_load (a := 856) (o := o_856 wd.params) (X _ _ (by kernel_rfl)) (by kernel_rfl) (by kernel_rfl)
theorem bv_863_2 (v0 v1 : Value) : Bv [("self", v0), ("maxsize", v1), ("getsizeof", .none)] ["self", "maxsize", "getsizeof"] [some v0, some v1, some .none] := (.cons (.cons (.cons .nil)))
theorem fn_871 (wd : World) : Fn wd 871 (fdOf (o_871 wd.params)) (fnBody (fAt [34, 1])) ["self", "key", "value", "cache_setitem"] := ⟨⟨o_871 wd.params, by kernel_rfl, rfl⟩, rfl, by kernel_rfl⟩
theorem bd_871_3 (wd : World) (v0 v1 v2 : Value) (s : Shared) (X : (KF wd.params).In s.heap) : BindsTo s (fdOf (o_871 wd.params)) ⟨[v0, v1, v2], []⟩ [("self", v0), ("key", v1), ("value", v2), ("cache_setitem", (.ref 749))] := binds_load (a := 864) (o := o_864 wd.params) (X _ _ (by kernel_rfl)) (by kernel_rfl) (by kernel_rfl)
theorem bv_871_3 (v0 v1 v2 : Value) : Bv [("self", v0), ("key", v1), ("value", v2), ("cache_setitem", (.ref 749))] ["self", "key", "value", "cache_setitem"] [some v0, some v1, some v2, some (.ref 749)] := (.cons (.cons (.cons (.cons .nil))))
theorem fn_879 (wd : World) : Fn wd 879 (fdOf (o_879 wd.params)) (fnBody (fAt [34, 2])) ["self", "key", "cache_delitem"] := ⟨⟨o_879 wd.params, by kernel_rfl, rfl⟩, rfl, by kernel_rfl⟩
theorem bd_879_2 (wd : World) (v0 v1 : Value) (s : Shared) (X : (KF wd.params).In s.heap) : BindsTo s (fdOf (o_879 wd.params)) ⟨[v0, v1], []⟩ [("self", v0), ("key", v1), ("cache_delitem", (.ref 756))] := binds_load (a := 872) (o := o_872 wd.params) (X _ _ (by kernel_rfl)) (by kernel_rfl) (by kernel_rfl)
theorem bv_879_2 (v0 v1 : Value) : Bv [("self", v0), ("key", v1), ("cache_delitem", (.ref 756))] ["self", "key", "cache_delitem"] [some v0, some v1, some (.ref 756)] := (.cons (.cons (.cons .nil)))
theorem fn_886 (wd : World) : Fn wd 886 (fdOf (o_886 wd.params)) (fnBody (fAt [34, 3])) ["self", "key", "value"] := ⟨⟨o_886 wd.params, by kernel_rfl, rfl⟩, rfl, by kernel_rfl⟩
theorem bd_886_1 (wd : World) (v0 : Value) (s : Shared) (X : (KF wd.params).In s.heap) : BindsTo s (fdOf (o_886 wd.params)) ⟨[v0], []⟩ [("self", v0)] := BindsTo.of_eq (by kernel_rfl)
theorem bv_886_1 (v0 : Value) : Bv [("self", v0)] ["self", "key", "value"] [some v0, none, none] := (.cons .nil)
theorem fn_1010 (wd : World) : Fn wd 1010 (fdOf (o_1010 wd.params)) (fnBody (fAt [36, 0])) ["self", "maxsize", "getsizeof"] := ⟨⟨o_1010 wd.params, by kernel_rfl, rfl⟩, rfl, by kernel_rfl⟩
theorem bd_1010_2 (wd : World) (v0 v1 : Value) (s : Shared) (X : (KF wd.params).In s.heap) : BindsTo s (fdOf (o_1010 wd.params)) ⟨[v0, v1], []⟩ [("self", v0), ("maxsize", v1), ("getsizeof", .none)] := binds_load (a := 1003) (o := o_1003 wd.params) (X _ _ (by kernel_rfl)) (by kernel_rfl) (by kernel_rfl)
theorem bv_1010_2 (v0 v1 : Value) : Bv [("self", v0), ("maxsize", v1), ("getsizeof", .none)] ["self", "maxsize", "getsizeof"] [some v0, some v1, some .none] := (.cons (.cons (.cons .nil)))
theorem fn_1018 (wd : World) : Fn wd 1018 (fdOf (o_1018 wd.params)) (fnBody (fAt [36, 1])) ["self", "key", "cache_getitem", "value"] := ⟨⟨o_1018 wd.params, by kernel_rfl, rfl⟩, rfl, by kernel_rfl⟩
theorem bd_1018_2 (wd : World) (v0 v1 : Value) (s : Shared) (X : (KF wd.params).In s.heap) : BindsTo s (fdOf (o_1018 wd.params)) ⟨[v0, v1], []⟩ [("self", v0), ("key", v1), ("cache_getitem", (.ref 742))] := binds_load (a := 1011) (o := o_1011 wd.params) (X _ _ (by kernel_rfl)) (by kernel_rfl) (by kernel_rfl)
theorem bv_1018_2 (v0 v1 : Value) : Bv [("self", v0), ("key", v1), ("cache_getitem", (.ref 742))] ["self", "key", "cache_getitem", "value"] [some v0, some v1, some (.ref 742), none] := (.cons (.cons (.cons .nil)))
theorem fn_1026 (wd : World) : Fn wd 1026 (fdOf (o_1026 wd.params)) (fnBody (fAt [36, 2])) ["self", "key", "value", "cache_setitem"] := ⟨⟨o_1026 wd.params, by kernel_rfl, rfl⟩, rfl, by kernel_rfl⟩
theorem bd_1026_3 (wd : World) (v0 v1 v2 : Value) (s : Shared) (X : (KF wd.params).In s.heap) : BindsTo s (fdOf (o_1026 wd.params)) ⟨[v0, v1, v2], []⟩ [("self", v0), ("key", v1), ("value", v2), ("cache_setitem", (.ref 749))] := binds_load (a := 1019) (o := o_1019 wd.params) (X _ _ (by kernel_rfl)) (by kernel_rfl) (by kernel_rfl)
theorem bv_1026_3 (v0 v1 v2 : Value) : Bv [("self", v0), ("key", v1), ("value", v2), ("cache_setitem", (.ref 749))] ["self", "key", "value", "cache_setitem"] [some v0, some v1, some v2, some (.ref 749)] := (.cons (.cons (.cons (.cons .nil))))
theorem fn_1034 (wd : World) : Fn wd 1034 (fdOf (o_1034 wd.params)) (fnBody (fAt [36, 3])) ["self", "key", "cache_delitem"] := ⟨⟨o_1034 wd.params, by kernel_rfl, rfl⟩, rfl, by kernel_rfl⟩
theorem bd_1034_2 (wd : World) (v0 v1 : Value) (s : Shared) (X : (KF wd.params).In s.heap) : BindsTo s (fdOf (o_1034 wd.params)) ⟨[v0, v1], []⟩ [("self", v0), ("key", v1), ("cache_delitem", (.ref 756))] := binds_load (a := 1027) (o := o_1027 wd.params) (X _ _ (by kernel_rfl)) (by kernel_rfl) (by kernel_rfl)
theorem bv_1034_2 (v0 v1 : Value) : Bv [("self", v0), ("key", v1), ("cache_delitem", (.ref 756))] ["self", "key", "cache_delitem"] [some v0, some v1, some (.ref 756)] := (.cons (.cons (.cons .nil)))
theorem fn_1041 (wd : World) : Fn wd 1041 (fdOf (o_1041 wd.params)) (fnBody (fAt [36, 4])) ["self", "key", "value"] := ⟨⟨o_1041 wd.params, by kernel_rfl, rfl⟩, rfl, by kernel_rfl⟩
theorem bd_1041_1 (wd : World) (v0 : Value) (s : Shared) (X : (KF wd.params).In s.heap) : BindsTo s (fdOf (o_1041 wd.params)) ⟨[v0], []⟩ [("self", v0)] := BindsTo.of_eq (by kernel_rfl)
theorem bv_1041_1 (v0 : Value) : Bv [("self", v0)] ["self", "key", "value"] [some v0, none, none] := (.cons .nil)
theorem fn_1055 (wd : World) : Fn wd 1055 (fdOf (o_1055 wd.params)) (fnBody (fAt [36, 6])) ["self", "key"] := ⟨⟨o_1055 wd.params, by kernel_rfl, rfl⟩, rfl, by kernel_rfl⟩
theorem bd_1055_2 (wd : World) (v0 v1 : Value) (s : Shared) (X : (KF wd.params).In s.heap) : BindsTo s (fdOf (o_1055 wd.params)) ⟨[v0, v1], []⟩ [("self", v0), ("key", v1)] := BindsTo.of_eq (by kernel_rfl)
theorem bv_1055_2 (v0 v1 : Value) : Bv [("self", v0), ("key", v1)] ["self", "key"] [some v0, some v1] := (.cons (.cons .nil))
theorem fn_945 (wd : World) : Fn wd 945 (fdOf (o_945 wd.params)) (fnBody (fAt [35, 1])) ["self", "maxsize", "getsizeof", "root"] := ⟨⟨o_945 wd.params, by kernel_rfl, rfl⟩, rfl, by kernel_rfl⟩
theorem bd_945_2 (wd : World) (v0 v1 : Value) (s : Shared) (X : (KF wd.params).In s.heap) : BindsTo s (fdOf (o_945 wd.params)) ⟨[v0, v1], []⟩ [("self", v0), ("maxsize", v1), ("getsizeof", .none)] := binds_load (a := 938) (o := o_938 wd.params) (X _ _ (by kernel_rfl)) (by kernel_rfl) (by kernel_rfl)
theorem bv_945_2 (v0 v1 : Value) : Bv [("self", v0), ("maxsize", v1), ("getsizeof", .none)] ["self", "maxsize", "getsizeof", "root"] [some v0, some v1, some .none, none] := (.cons (.cons (.cons .nil)))
theorem fn_953 (wd : World) : Fn wd 953 (fdOf (o_953 wd.params)) (fnBody (fAt [35, 2])) ["self", "key", "cache_getitem", "value"] := ⟨⟨o_953 wd.params, by kernel_rfl, rfl⟩, rfl, by kernel_rfl⟩
theorem bd_953_2 (wd : World) (v0 v1 : Value) (s : Shared) (X : (KF wd.params).In s.heap) : BindsTo s (fdOf (o_953 wd.params)) ⟨[v0, v1], []⟩ [("self", v0), ("key", v1), ("cache_getitem", (.ref 742))] := binds_load (a := 946) (o := o_946 wd.params) (X _ _ (by kernel_rfl)) (by kernel_rfl) (by kernel_rfl)
theorem bv_953_2 (v0 v1 : Value) : Bv [("self", v0), ("key", v1), ("cache_getitem", (.ref 742))] ["self", "key", "cache_getitem", "value"] [some v0, some v1, some (.ref 742), none] := (.cons (.cons (.cons .nil)))
theorem fn_961 (wd : World) : Fn wd 961 (fdOf (o_961 wd.params)) (fnBody (fAt [35, 3])) ["self", "key", "value", "cache_setitem", "root", "link"] := ⟨⟨o_961 wd.params, by kernel_rfl, rfl⟩, rfl, by kernel_rfl⟩
theorem bd_961_3 (wd : World) (v0 v1 v2 : Value) (s : Shared) (X : (KF wd.params).In s.heap) : BindsTo s (fdOf (o_961 wd.params)) ⟨[v0, v1, v2], []⟩ [("self", v0), ("key", v1), ("value", v2), ("cache_setitem", (.ref 749))] := binds_load (a := 954) (o := o_954 wd.params) (X _ _ (by kernel_rfl)) (by kernel_rfl) (by kernel_rfl)
theorem bv_961_3 (v0 v1 v2 : Value) : Bv [("self", v0), ("key", v1), ("value", v2), ("cache_setitem", (.ref 749))] ["self", "key", "value", "cache_setitem", "root", "link"] [some v0, some v1, some v2, some (.ref 749), none, none] := (.cons (.cons (.cons (.cons .nil))))
theorem fn_969 (wd : World) : Fn wd 969 (fdOf (o_969 wd.params)) (fnBody (fAt [35, 4])) ["self", "key", "cache_delitem", "link"] := ⟨⟨o_969 wd.params, by kernel_rfl, rfl⟩, rfl, by kernel_rfl⟩
theorem bd_969_2 (wd : World) (v0 v1 : Value) (s : Shared) (X : (KF wd.params).In s.heap) : BindsTo s (fdOf (o_969 wd.params)) ⟨[v0, v1], []⟩ [("self", v0), ("key", v1), ("cache_delitem", (.ref 756))] := binds_load (a := 962) (o := o_962 wd.params) (X _ _ (by kernel_rfl)) (by kernel_rfl) (by kernel_rfl)
theorem bv_969_2 (v0 v1 : Value) : Bv [("self", v0), ("key", v1), ("cache_delitem", (.ref 756))] ["self", "key", "cache_delitem", "link"] [some v0, some v1, some (.ref 756), none] := (.cons (.cons (.cons .nil)))
theorem fn_976 (wd : World) : Fn wd 976 (fdOf (o_976 wd.params)) (fnBody (fAt [35, 5])) ["self", "root", "curr", "key", "value"] := ⟨⟨o_976 wd.params, by kernel_rfl, rfl⟩, rfl, by kernel_rfl⟩
theorem bd_976_1 (wd : World) (v0 : Value) (s : Shared) (X : (KF wd.params).In s.heap) : BindsTo s (fdOf (o_976 wd.params)) ⟨[v0], []⟩ [("self", v0)] := BindsTo.of_eq (by kernel_rfl)
theorem bv_976_1 (v0 : Value) : Bv [("self", v0)] ["self", "root", "curr", "key", "value"] [some v0, none, none, none, none] := (.cons .nil)
theorem fn_990 (wd : World) : Fn wd 990 (fdOf (o_990 wd.params)) (fnBody (fAt [35, 7])) ["self", "key", "link", "curr"] := ⟨⟨o_990 wd.params, by kernel_rfl, rfl⟩, rfl, by kernel_rfl⟩
theorem bd_990_2 (wd : World) (v0 v1 : Value) (s : Shared) (X : (KF wd.params).In s.heap) : BindsTo s (fdOf (o_990 wd.params)) ⟨[v0, v1], []⟩ [("self", v0), ("key", v1)] := BindsTo.of_eq (by kernel_rfl)
theorem bv_990_2 (v0 v1 : Value) : Bv [("self", v0), ("key", v1)] ["self", "key", "link", "curr"] [some v0, some v1, none, none] := (.cons (.cons .nil))
theorem fn_920 (wd : World) : Fn wd 920 (fdOf (o_920 wd.params)) (fnBody (fAt [35, 0, 1])) ["self", "count"] := ⟨⟨o_920 wd.params, by kernel_rfl, rfl⟩, rfl, by kernel_rfl⟩
theorem bd_920_2 (wd : World) (v0 v1 : Value) (s : Shared) (X : (KF wd.params).In s.heap) : BindsTo s (fdOf (o_920 wd.params)) ⟨[v0, v1], []⟩ [("self", v0), ("count", v1)] := BindsTo.of_eq (by kernel_rfl)
theorem bv_920_2 (v0 v1 : Value) : Bv [("self", v0), ("count", v1)] ["self", "count"] [some v0, some v1] := (.cons (.cons .nil))
theorem fn_927 (wd : World) : Fn wd 927 (fdOf (o_927 wd.params)) (fnBody (fAt [35, 0, 2])) ["self", "next", "prev"] := ⟨⟨o_927 wd.params, by kernel_rfl, rfl⟩, rfl, by kernel_rfl⟩
theorem bd_927_1 (wd : World) (v0 : Value) (s : Shared) (X : (KF wd.params).In s.heap) : BindsTo s (fdOf (o_927 wd.params)) ⟨[v0], []⟩ [("self", v0)] := BindsTo.of_eq (by kernel_rfl)
theorem bv_927_1 (v0 : Value) : Bv [("self", v0)] ["self", "next", "prev"] [some v0, none, none] := (.cons .nil)
theorem fn_1075 (wd : World) : Fn wd 1075 (fdOf (o_1075 wd.params)) (fnBody (fAt [37, 0])) ["self", "maxsize", "choice", "getsizeof"] := ⟨⟨o_1075 wd.params, by kernel_rfl, rfl⟩, rfl, by kernel_rfl⟩
theorem bd_1075_3 (wd : World) (v0 v1 v2 : Value) (s : Shared) (X : (KF wd.params).In s.heap) : BindsTo s (fdOf (o_1075 wd.params)) ⟨[v0, v1, v2], []⟩ [("self", v0), ("maxsize", v1), ("choice", v2), ("getsizeof", .none)] := binds_load (a := 1068) (o := o_1068 wd.params) (X _ _ (by kernel_rfl)) (by kernel_rfl) (by kernel_rfl)
theorem bv_1075_3 (v0 v1 v2 : Value) : Bv [("self", v0), ("maxsize", v1), ("choice", v2), ("getsizeof", .none)] ["self", "maxsize", "choice", "getsizeof"] [some v0, some v1, some v2, some .none] := (.cons (.cons (.cons (.cons .nil))))
theorem fn_1091 (wd : World) : Fn wd 1091 (fdOf (o_1091 wd.params)) (fnBody (fAt [37, 2])) ["self", "key", "value", "cache_setitem"] := ⟨⟨o_1091 wd.params, by kernel_rfl, rfl⟩, rfl, by kernel_rfl⟩
theorem bd_1091_3 (wd : World) (v0 v1 v2 : Value) (s : Shared) (X : (KF wd.params).In s.heap) : BindsTo s (fdOf (o_1091 wd.params)) ⟨[v0, v1, v2], []⟩ [("self", v0), ("key", v1), ("value", v2), ("cache_setitem", (.ref 749))] := binds_load (a := 1084) (o := o_1084 wd.params) (X _ _ (by kernel_rfl)) (by kernel_rfl) (by kernel_rfl)
theorem bv_1091_3 (v0 v1 v2 : Value) : Bv [("self", v0), ("key", v1), ("value", v2), ("cache_setitem", (.ref 749))] ["self", "key", "value", "cache_setitem"] [some v0, some v1, some v2, some (.ref 749)] := (.cons (.cons (.cons (.cons .nil))))
theorem fn_1099 (wd : World) : Fn wd 1099 (fdOf (o_1099 wd.params)) (fnBody (fAt [37, 3])) ["self", "key", "cache_delitem", "index", "last"] := ⟨⟨o_1099 wd.params, by kernel_rfl, rfl⟩, rfl, by kernel_rfl⟩
theorem bd_1099_2 (wd : World) (v0 v1 : Value) (s : Shared) (X : (KF wd.params).In s.heap) : BindsTo s (fdOf (o_1099 wd.params)) ⟨[v0, v1], []⟩ [("self", v0), ("key", v1), ("cache_delitem", (.ref 756))] := binds_load (a := 1092) (o := o_1092 wd.params) (X _ _ (by kernel_rfl)) (by kernel_rfl) (by kernel_rfl)
theorem bv_1099_2 (v0 v1 : Value) : Bv [("self", v0), ("key", v1), ("cache_delitem", (.ref 756))] ["self", "key", "cache_delitem", "index", "last"] [some v0, some v1, some (.ref 756), none, none] := (.cons (.cons (.cons .nil)))
theorem fn_1106 (wd : World) : Fn wd 1106 (fdOf (o_1106 wd.params)) (fnBody (fAt [37, 4])) ["self", "keys", "key", "value"] := ⟨⟨o_1106 wd.params, by kernel_rfl, rfl⟩, rfl, by kernel_rfl⟩
theorem bd_1106_1 (wd : World) (v0 : Value) (s : Shared) (X : (KF wd.params).In s.heap) : BindsTo s (fdOf (o_1106 wd.params)) ⟨[v0], []⟩ [("self", v0)] := BindsTo.of_eq (by kernel_rfl)
theorem bv_1106_1 (v0 : Value) : Bv [("self", v0)] ["self", "keys", "key", "value"] [some v0, none, none, none] := (.cons .nil)
theorem fn_1140 (wd : World) : Fn wd 1140 (fdOf (o_1140 wd.params)) (fnBody (fAt [38, 0, 0])) ["self", "timer"] := ⟨⟨o_1140 wd.params, by kernel_rfl, rfl⟩, rfl, by kernel_rfl⟩
theorem bd_1140_2 (wd : World) (v0 v1 : Value) (s : Shared) (X : (KF wd.params).In s.heap) : BindsTo s (fdOf (o_1140 wd.params)) ⟨[v0, v1], []⟩ [("self", v0), ("timer", v1)] := BindsTo.of_eq (by kernel_rfl)
theorem bv_1140_2 (v0 v1 : Value) : Bv [("self", v0), ("timer", v1)] ["self", "timer"] [some v0, some v1] := (.cons (.cons .nil))
theorem fn_1147 (wd : World) : Fn wd 1147 (fdOf (o_1147 wd.params)) (fnBody (fAt [38, 0, 1])) ["self"] := ⟨⟨o_1147 wd.params, by kernel_rfl, rfl⟩, rfl, by kernel_rfl⟩
theorem bd_1147_1 (wd : World) (v0 : Value) (s : Shared) (X : (KF wd.params).In s.heap) : BindsTo s (fdOf (o_1147 wd.params)) ⟨[v0], []⟩ [("self", v0)] := BindsTo.of_eq (by kernel_rfl)
theorem bv_1147_1 (v0 : Value) : Bv [("self", v0)] ["self"] [some v0] := (.cons .nil)
theorem fn_1154 (wd : World) : Fn wd 1154 (fdOf (o_1154 wd.params)) (fnBody (fAt [38, 0, 2])) ["self", "time"] := ⟨⟨o_1154 wd.params, by kernel_rfl, rfl⟩, rfl, by kernel_rfl⟩
theorem bd_1154_1 (wd : World) (v0 : Value) (s : Shared) (X : (KF wd.params).In s.heap) : BindsTo s (fdOf (o_1154 wd.params)) ⟨[v0], []⟩ [("self", v0)] := BindsTo.of_eq (by kernel_rfl)
theorem bv_1154_1 (v0 : Value) : Bv [("self", v0)] ["self", "time"] [some v0, none] := (.cons .nil)
theorem fn_1190 (wd : World) : Fn wd 1190 (fdOf (o_1190 wd.params)) (fnBody (fAt [38, 1])) ["self", "maxsize", "timer", "getsizeof"] := ⟨⟨o_1190 wd.params, by kernel_rfl, rfl⟩, rfl, by kernel_rfl⟩
theorem bd_1190_4 (wd : World) (v0 v1 v2 v3 : Value) (s : Shared) (X : (KF wd.params).In s.heap) : BindsTo s (fdOf (o_1190 wd.params)) ⟨[v0, v1, v2, v3], []⟩ [("self", v0), ("maxsize", v1), ("timer", v2), ("getsizeof", v3)] := binds_load (a := 1183) (o := o_1183 wd.params) (X _ _ (by kernel_rfl)) (by kernel_rfl) (by kernel_rfl)
theorem bv_1190_4 (v0 v1 v2 v3 : Value) : Bv [("self", v0), ("maxsize", v1), ("timer", v2), ("getsizeof", v3)] ["self", "maxsize", "timer", "getsizeof"] [some v0, some v1, some v2, some v3] := (.cons (.cons (.cons (.cons .nil))))
theorem fn_1222 (wd : World) : Fn wd 1222 (fdOf (o_1222 wd.params)) (fnBody (fAt [38, 5])) ["self"] := ⟨⟨o_1222 wd.params, by kernel_rfl, rfl⟩, rfl, by kernel_rfl⟩
theorem bd_1222_1 (wd : World) (v0 : Value) (s : Shared) (X : (KF wd.params).In s.heap) : BindsTo s (fdOf (o_1222 wd.params)) ⟨[v0], []⟩ [("self", v0)] := BindsTo.of_eq (by kernel_rfl)
theorem bv_1222_1 (v0 : Value) : Bv [("self", v0)] ["self"] [some v0] := (.cons .nil)
theorem fn_1294 (wd : World) : Fn wd 1294 (fdOf (o_1294 wd.params)) (fnBody (fAt [42, 0, 1])) ["self", "key", "expires"] := ⟨⟨o_1294 wd.params, by kernel_rfl, rfl⟩, rfl, by kernel_rfl⟩
theorem bd_1294_2 (wd : World) (v0 v1 : Value) (s : Shared) (X : (KF wd.params).In s.heap) : BindsTo s (fdOf (o_1294 wd.params)) ⟨[v0, v1], []⟩ [("self", v0), ("key", v1), ("expires", .none)] := binds_load (a := 1287) (o := o_1287 wd.params) (X _ _ (by kernel_rfl)) (by kernel_rfl) (by kernel_rfl)
theorem bv_1294_2 (v0 v1 : Value) : Bv [("self", v0), ("key", v1), ("expires", .none)] ["self", "key", "expires"] [some v0, some v1, some .none] := (.cons (.cons (.cons .nil)))
theorem fn_1308 (wd : World) : Fn wd 1308 (fdOf (o_1308 wd.params)) (fnBody (fAt [42, 0, 3])) ["self", "next", "prev"] := ⟨⟨o_1308 wd.params, by kernel_rfl, rfl⟩, rfl, by kernel_rfl⟩
theorem bd_1308_1 (wd : World) (v0 : Value) (s : Shared) (X : (KF wd.params).In s.heap) : BindsTo s (fdOf (o_1308 wd.params)) ⟨[v0], []⟩ [("self", v0)] := BindsTo.of_eq (by kernel_rfl)
theorem bv_1308_1 (v0 : Value) : Bv [("self", v0)] ["self", "next", "prev"] [some v0, none, none] := (.cons .nil)
theorem fn_1326 (wd : World) : Fn wd 1326 (fdOf (o_1326 wd.params)) (fnBody (fAt [42, 1])) ["self", "maxsize", "ttl", "timer", "getsizeof", "root"] := ⟨⟨o_1326 wd.params, by kernel_rfl, rfl⟩, rfl, by kernel_rfl⟩
theorem bd_1326_4 (wd : World) (v0 v1 v2 v3 : Value) (s : Shared) (X : (KF wd.params).In s.heap) : BindsTo s (fdOf (o_1326 wd.params)) ⟨[v0, v1, v2, v3], []⟩ [("self", v0), ("maxsize", v1), ("ttl", v2), ("timer", v3), ("getsizeof", .none)] := binds_load (a := 1319) (o := o_1319 wd.params) (X _ _ (by kernel_rfl)) (by kernel_rfl) (by kernel_rfl)
theorem bv_1326_4 (v0 v1 v2 v3 : Value) : Bv [("self", v0), ("maxsize", v1), ("ttl", v2), ("timer", v3), ("getsizeof", .none)] ["self", "maxsize", "ttl", "timer", "getsizeof", "root"] [some v0, some v1, some v2, some v3, some .none, none] := (.cons (.cons (.cons (.cons (.cons .nil)))))
theorem fn_1349 (wd : World) : Fn wd 1349 (fdOf (o_1349 wd.params)) (fnBody (fAt [42, 4])) ["self", "key", "value", "cache_setitem", "time", "expires", "links", "link", "root", "prev"] := ⟨⟨o_1349 wd.params, by kernel_rfl, rfl⟩, rfl, by kernel_rfl⟩
theorem bd_1349_3 (wd : World) (v0 v1 v2 : Value) (s : Shared) (X : (KF wd.params).In s.heap) : BindsTo s (fdOf (o_1349 wd.params)) ⟨[v0, v1, v2], []⟩ [("self", v0), ("key", v1), ("value", v2), ("cache_setitem", (.ref 749))] := binds_load (a := 1342) (o := o_1342 wd.params) (X _ _ (by kernel_rfl)) (by kernel_rfl) (by kernel_rfl)
theorem bv_1349_3 (v0 v1 v2 : Value) : Bv [("self", v0), ("key", v1), ("value", v2), ("cache_setitem", (.ref 749))] ["self", "key", "value", "cache_setitem", "time", "expires", "links", "link", "root", "prev"] [some v0, some v1, some v2, some (.ref 749), none, none, none, none, none, none] := (.cons (.cons (.cons (.cons .nil))))
theorem fn_1387 (wd : World) : Fn wd 1387 (fdOf (o_1387 wd.params)) (fnBody (fAt [42, 9])) ["self", "time", "root", "curr", "links", "expired", "cache_delitem", "cache_getitem", "next"] := ⟨⟨o_1387 wd.params, by kernel_rfl, rfl⟩, rfl, by kernel_rfl⟩
theorem bd_1387_1 (wd : World) (v0 : Value) (s : Shared) (X : (KF wd.params).In s.heap) : BindsTo s (fdOf (o_1387 wd.params)) ⟨[v0], []⟩ [("self", v0), ("time", .none)] := binds_load (a := 1380) (o := o_1380 wd.params) (X _ _ (by kernel_rfl)) (by kernel_rfl) (by kernel_rfl)
theorem bv_1387_1 (v0 : Value) : Bv [("self", v0), ("time", .none)] ["self", "time", "root", "curr", "links", "expired", "cache_delitem", "cache_getitem", "next"] [some v0, some .none, none, none, none, none, none, none, none] := (.cons (.cons .nil))
theorem bd_1387_2 (wd : World) (v0 v1 : Value) (s : Shared) (X : (KF wd.params).In s.heap) : BindsTo s (fdOf (o_1387 wd.params)) ⟨[v0, v1], []⟩ [("self", v0), ("time", v1)] := binds_load (a := 1380) (o := o_1380 wd.params) (X _ _ (by kernel_rfl)) (by kernel_rfl) (by kernel_rfl)
theorem bv_1387_2 (v0 v1 : Value) : Bv [("self", v0), ("time", v1)] ["self", "time", "root", "curr", "links", "expired", "cache_delitem", "cache_getitem", "next"] [some v0, some v1, none, none, none, none, none, none, none] := (.cons (.cons .nil))
theorem fn_1413 (wd : World) : Fn wd 1413 (fdOf (o_1413 wd.params)) (fnBody (fAt [44])) ["script", "k", "other"] := ⟨⟨o_1413 wd.params, by kernel_rfl, rfl⟩, rfl, by kernel_rfl⟩
theorem bd_1413_3 (wd : World) (v0 v1 v2 : Value) (s : Shared) (X : (KF wd.params).In s.heap) : BindsTo s (fdOf (o_1413 wd.params)) ⟨[v0, v1, v2], []⟩ [("script", v0), ("k", v1), ("other", v2)] := BindsTo.of_eq (by kernel_rfl)
theorem bv_1413_3 (v0 v1 v2 : Value) : Bv [("script", v0), ("k", v1), ("other", v2)] ["script", "k", "other"] [some v0, some v1, some v2] := (.cons (.cons (.cons .nil)))

local macro_rules | `(tactic| wtm_at "tlxc2") => `(tactic| first | exact Tls.here | (apply Tls.there; wtm_at "tlxc2"))
local macro_rules | `(tactic| wtm_at "gxc2") => `(tactic| first | exact Lget.here | (apply Lget.there; wtm_at "gxc2"))
local macro_rules | `(tactic| wtm_at "hxc2") => `(tactic| first | exact Has.head | (apply Has.tail; wtm_at "hxc2"))
local macro_rules | `(tactic| wtm_at "uxc2") => `(tactic| first | exact Up.head | (apply Up.tail; wtm_at "uxc2"))
local macro_rules | `(tactic| wtm_at "lsxc2") => `(tactic| first | exact Lset.here | (apply Lset.there; wtm_at "lsxc2"))
local macro_rules | `(tactic| wtm_at "tkxc2") => `(tactic| first | exact Take.head | (apply Take.tail; wtm_at "tkxc2"))
local macro_rules | `(tactic| wtm_at "pkxc2") => `(tactic| first | exact Pick.nil | (apply Pick.cons; wtm_at "tkxc2"; wtm_at "pkxc2"))
local macro_rules | `(tactic| wtm_at "bnxc2") => `(tactic| first | exact bn_len _ | exact bn_next _ | exact bn_iter _ | exact bn_min _ | exact bn_max _ | exact bn_sum _ | exact bn_range _ | exact bn_sorted _)
local macro_rules | `(tactic| wtm_at "gnxc2") => `(tactic| first | exact gn_Cache _ | exact gn_FIFO _ | exact gn_LFU _ | exact gn_LRU _ | exact gn_RR _ | exact gn_Timed _ | exact gn_TTL _ | exact gn_at _ | exact gn_line _ | exact gn_lnext _)
local macro_rules | `(tactic| wtm_at "cvxc2") => `(tactic| first | exact cv_844_getitem _ | exact cv_844_delitem _ | exact cv_844_init _)
local macro_rules | `(tactic| wtm_at "namexc2") => `(tactic| ((with_reducible show wpAny _ _ (eval (PySem.Expr.Name _ _) _) _ _ _); first
  | refine r_name ‹W _ _ _ _ _ _› (by wtm_at "gxc2") ?_
  | refine r_gn (by wtm_at "gnxc2") ‹W _ _ _ _ _ _› ‹BaseOk _ _› (by rfl) (by rfl) ?_
  | refine r_bn (by wtm_at "bnxc2") ‹W _ _ _ _ _ _› ‹BaseOk _ _› (by rfl) (by rfl) (by rfl) ?_
  | refine r_cellN (by rfl) (by rfl) ‹W _ _ _ _ _ _› (by wtm_at "hxc2") ?_
  | refine r_freeN (by rfl) (by rfl) ‹W _ _ _ _ _ _› (by wtm_at "hxc2") ?_))
local macro_rules | `(tactic| wtm_at "sxc2") => `(tactic| first
  | ((with_reducible show wpAny _ _ (execs (_ :: _) _) _ _ _); refine wpAny_execs_cons ?_)
  | ((with_reducible show wpAny _ _ (execs [] _) _ _ _); refine wpAny_execs_nil ?_)
  | ((with_reducible show wpAny _ _ (eval _ _) _ _ _); first
      | wtm_at "namexc2"
      | ((with_reducible show wpAny _ _ (eval (PySem.Expr.Attribute _ _ _) _) _ _ _); first | refine Attribute_name ?_ | refine Attribute_any_ ?_)
      | ((with_reducible show wpAny _ _ (eval (PySem.Expr.Constant (PySem.Const.int _) _ _) _) _ _ _); refine r_int ‹W _ _ _ _ _ _› ?_; intro _ _ _)
      | ((with_reducible show wpAny _ _ (eval (PySem.Expr.Constant PySem.Const.none _ _) _) _ _ _); refine wpAny_Constant_none ?_)
      | ((with_reducible show wpAny _ _ (eval (PySem.Expr.Compare _ [_] [_] _) _) _ _ _); refine wpAny_Compare1 ?_)
      | ((with_reducible show wpAny _ _ (eval (PySem.Expr.BinOp _ _ _ _) _) _ _ _); refine wpAny_BinOp ?_)
      | ((with_reducible show wpAny _ _ (eval (PySem.Expr.Call (PySem.Expr.Attribute _ _ _) _ [] _) _) _ _ _); refine MethodCall_ ?_)
      | ((with_reducible show wpAny _ _ (eval (PySem.Expr.Call _ _ [] _) _) _ _ _); refine Call_ ?_)
      | ((with_reducible show wpAny _ _ (eval (PySem.Expr.Subscript _ _ _) _) _ _ _); refine Subscript_ ?_)
      | ((with_reducible show wpAny _ _ (eval (PySem.Expr.Dict [] [] _) _) _ _ _); refine r_dict0 ‹W _ _ _ _ _ _› ?_; intro _ _ _)
      | ((with_reducible show wpAny _ _ (eval (PySem.Expr.List [] _) _) _ _ _); refine r_list0 ‹W _ _ _ _ _ _› ?_; intro _ _ _)
      | ((with_reducible show wpAny _ _ (eval (PySem.Expr.Tuple _ _ _) _) _ _ _); refine r_tuple ‹W _ _ _ _ _ _› ?_)
      | ((with_reducible show wpAny _ _ (eval (PySem.Expr.List (_ :: _) _) _) _ _ _); refine r_list ‹W _ _ _ _ _ _› ?_)
      | ((with_reducible show wpAny _ _ (eval (PySem.Expr.UnaryOp _ _ _) _) _ _ _); refine PyProof.Rows.UnaryOp_ ?_)
      | ((with_reducible show wpAny _ _ (eval (PySem.Expr.IfExp _ _ _ _) _) _ _ _); refine IfExp_ ?_)
      | ((with_reducible show wpAny _ _ (eval (PySem.Expr.Slice _ _ none _) _) _ _ _); refine r_slice ?_))
  | ((with_reducible show wpAny _ _ (getAttr _ _ _) _ _ _); first
      | ((with_reducible show wpAny _ _ (getAttr (Value.ref _) (Str.ofString "_Cache__size") _) _ _ _); refine r_attr_size ‹W _ _ _ _ _ _› ‹BaseOk _ _› ‹Cc _ _ _› (by wtm_at "hxc2") (by wtm_at "hxc2") ?_; intro _ _)
      | ((with_reducible show wpAny _ _ (getAttr (Value.ref _) _ _) _ _ _); refine r_attr ‹W _ _ _ _ _ _› ‹BaseOk _ _› ‹Cls _ _ _› (by wtm_at "hxc2") (by wtm_at "hxc2") (by first | assumption | wtm_at "gxc2") (by rfl) ?_; intro _ _)
      | ((with_reducible show wpAny _ _ (getAttr (Value.ref _) _ _) _ _ _); refine r_clsattr (by wtm_at "cvxc2") ‹W _ _ _ _ _ _› ‹BaseOk _ _› ?_; intro _ _))
  | ((with_reducible show wpAny _ _ (PySem.isTrue _ _ _) _ _ _); first
      | ((with_reducible show wpAny _ _ (isTrue (PySem.Expr.Compare _ [_] [_] _) _ _) _ _ _); refine wpAny_isTrue_Compare1 ?_)
      | ((with_reducible show wpAny _ _ (isTrue (PySem.Expr.UnaryOp _ _ _) _ _) _ _ _); refine wpAny_isTrue_Not ?_)
      | ((with_reducible show wpAny _ _ (PySem.isTrue (PySem.Expr.Name _ _) _ _) _ _ _); refine wpAny_isTrue_value ?_)
      | ((with_reducible show wpAny _ _ (PySem.isTrue (PySem.Expr.Attribute _ _ _) _ _) _ _ _); refine wpAny_isTrue_value ?_)
      | ((with_reducible show wpAny _ _ (PySem.isTrue (PySem.Expr.BoolOp BoolOp.Or (_ :: _) _) _ _) _ _ _); refine isTrue_or ?_)
      | ((with_reducible show wpAny _ _ (PySem.isTrue (PySem.Expr.BoolOp BoolOp.Or [] _) _ _) _ _ _); refine isTrue_or_nil ?_)
      | ((with_reducible show wpAny _ _ (PySem.isTrue (PySem.Expr.BoolOp BoolOp.And (_ :: _) _) _ _) _ _ _); refine isTrue_and ?_)
      | ((with_reducible show wpAny _ _ (PySem.isTrue (PySem.Expr.BoolOp BoolOp.And [] _) _ _) _ _ _); refine isTrue_and_nil ?_))
  | ((with_reducible show wpAny _ _ (callWith _ _ _ _ _) _ _ _); first
      | ((with_reducible show wpAny _ _ (callWith _ (Value.builtin _) [] (backTo _ (starEach (_ :: _) _)) []) _ _ _); refine PyProof.Rows.callWith_builtin1 ?_)
      | ((with_reducible show wpAny _ _ (callWith _ (Value.builtin _) _ (backTo _ (starEach (_ :: _) _)) []) _ _ _); refine callWith_method1 ?_)
      | ((with_reducible show wpAny _ _ (callWith _ (Value.ref _) _ (backTo _ (starEach (_ :: _) _)) []) _ _ _); refine r_call (by kernel_rfl!) ?_)
      | ((with_reducible show wpAny _ _ (callWith _ (Value.ref _) _ (backTo _ (starEach [] _)) []) _ _ _); refine r_call0 (by kernel_rfl!) ‹W _ _ _ _ _ _› ‹BaseOk _ _› ?_)
      | ((with_reducible show wpAny _ _ (callWith _ (Value.builtin _) _ (backTo _ (starEach [] _)) []) _ _ _); refine callWith_method0 ?_))
  | ((with_reducible show wpAny _ _ (spliced (backTo _ (starEach (_ :: _) _))) _ _ _); refine args_cons ?_)
  | ((with_reducible show wpAny _ _ (spliced (backTo _ (starEach [] _))) _ _ _); refine args_nil ?_)
  | ((with_reducible show wpAny _ _ (exec _ _) _ _ _); first
      | ((with_reducible show wpAny _ _ (exec (Stmt.Return (some _) _) _) _ _ _); refine wpAny_Return_some ?_)
      | ((with_reducible show wpAny _ _ (exec (Stmt.If _ _ _ _) _) _ _ _); refine wpAny_If ?_)
      | ((with_reducible show wpAny _ _ (exec (Stmt.Assign [PySem.Expr.Name _ _] _ _) _) _ _ _); refine wpAny_Assign_Name ?_)
      | ((with_reducible show wpAny _ _ (exec (Stmt.Assign [PySem.Expr.Attribute _ _ _] _ _) _) _ _ _); refine plainObj_wpAny_Assign_Attribute ?_)
      | ((with_reducible show wpAny _ _ (exec (Stmt.Assign [PySem.Expr.Subscript _ _ _] _ _) _) _ _ _); refine wpAny_Assign_Subscript ?_)
      | ((with_reducible show wpAny _ _ (exec (Stmt.AugAssign (PySem.Expr.Attribute _ _ _) _ _ _) _) _ _ _); refine wpAny_AugAssign_AttributeAny ?_)
      | ((with_reducible show wpAny _ _ (exec (Stmt.Delete _ _) _) _ _ _); refine wpAny_Delete ?_)
      | ((with_reducible show wpAny _ _ (exec (Stmt.While _ _ _ _) _) _ _ _); refine r_while0 fun _ => ?_)
      | ((with_reducible show wpAny _ _ (exec (Stmt.Expr _ _) _) _ _ _); refine wpAny_Expr_any ?_)
      | ((with_reducible show wpAny _ _ (exec (Stmt.Assign [_, _] _ _) _) _ _ _); refine wpAny_Assign_two ?_)
      | ((with_reducible show wpAny _ _ (exec (Stmt.Return none _) _) _ _ _); refine wpAny_Return_none ?_)
      | ((with_reducible show wpAny _ _ (exec (Stmt.With [WithItem.mk _ (some (PySem.Expr.Name _ _))] _ _) _) _ _ _); refine r_withN ?_))
  | ((with_reducible show wpAny _ _ (deleteEach (_ :: _) _) _ _ _); refine wpAny_deleteEach_cons ?_)
  | ((with_reducible show wpAny _ _ (deleteEach [] _) _ _ _); refine wpAny_deleteEach_nil ?_)
  | ((with_reducible show wpAny _ _ (delete (PySem.Expr.Subscript _ _ _) _) _ _ _); refine wpAny_delete_Subscript ?_)
  | ((with_reducible show wpAny _ _ (storeName _ _ _) _ _ _); (first | refine r_store ‹W _ _ _ _ _ _› (by wtm_at "lsxc2") ?_ | refine r_storeC (by rfl) (by rfl) ‹W _ _ _ _ _ _› (by wtm_at "uxc2") ?_); intro _ _)
  | ((with_reducible show wpAny _ _ (setAttr (Value.ref _) _ _) _ _ _); refine r_setattr ‹W _ _ _ _ _ _› ‹BaseOk _ _› ‹Cls _ _ _› (by wtm_at "hxc2") (by wtm_at "uxc2") (by first | assumption | wtm_at "lsxc2") (by assumption) (by assumption) ?_; intro _ _)
  | ((with_reducible show wpAny _ _ (truthy (Value.bool _)) _ _ _); refine wpAny_truthy_bool ?_)
  | ((with_reducible show wpAny _ _ (truthy (Value.ref _)) _ _ _); (first | refine r_dtruth ‹W _ _ _ _ _ _› ‹BaseOk _ _› (by wtm_at "hxc2") (by omega) ?_ | refine r_ltruth ‹W _ _ _ _ _ _› (by wtm_at "hxc2") (by omega) ?_); intro _ _)
  | ((with_reducible show wpAny _ _ (binaryOp _ _ _) _ _ _); first
      | ((with_reducible show wpAny _ _ (binaryOp Operator.Add (Value.int _ _) (Value.int _ _)) _ _ _); refine r_add ‹W _ _ _ _ _ _› ?_; intro _ _ _)
      | ((with_reducible show wpAny _ _ (binaryOp Operator.Sub (Value.int _ _) (Value.int _ _)) _ _ _); refine r_sub ‹W _ _ _ _ _ _› ?_; intro _ _ _)
      | ((with_reducible show wpAny _ _ (binaryOp Operator.Mod (Value.int _ _) (Value.int _ _)) _ _ _); refine r_mod ‹W _ _ _ _ _ _› (by first | decide | omega) ?_; intro _ _ _)
      | ((with_reducible show wpAny _ _ (binaryOp Operator.FloorDiv (Value.int _ _) (Value.int _ _)) _ _ _); refine r_fdiv ‹W _ _ _ _ _ _› (by first | decide | omega) (by first | decide | omega) ?_; intro _ _ _))
  | ((with_reducible show wpAny _ _ (inplaceOp Operator.Add (Value.int _ _) (Value.int _ _)) _ _ _); refine r_iadd ‹W _ _ _ _ _ _› ?_; intro _ _ _)
  | ((with_reducible show wpAny _ _ (inplaceOp Operator.Sub (Value.int _ _) (Value.int _ _)) _ _ _); refine r_isub ‹W _ _ _ _ _ _› ?_; intro _ _ _)
  | ((with_reducible show wpAny _ _ (compareOp _ _ _) _ _ _); first
      | ((with_reducible show wpAny _ _ (compareOp CmpOp.Lt (Value.int _ _) (Value.int _ _)) _ _ _); refine r_lt ?_)
      | ((with_reducible show wpAny _ _ (compareOp CmpOp.Gt (Value.int _ _) (Value.int _ _)) _ _ _); refine r_gt ?_)
      | ((with_reducible show wpAny _ _ (compareOp CmpOp.Eq (Value.int _ _) (Value.int _ _)) _ _ _); refine r_eq ?_)
      | ((with_reducible show wpAny _ _ (compareOp CmpOp.NotEq (Value.int _ _) (Value.int _ _)) _ _ _); refine r_ne ?_)
      | ((with_reducible show wpAny _ _ (compareOp CmpOp.Is _ Value.none) _ _ _); refine PySem.is_none ?_)
      | ((with_reducible show wpAny _ _ (compareOp CmpOp.IsNot _ Value.none) _ _ _); refine PySem.isNot_none ?_)
      | ((with_reducible show wpAny _ _ (compareOp CmpOp.In (Value.int _ _) (Value.ref _)) _ _ _); refine r_din ‹W _ _ _ _ _ _› ‹BaseOk _ _› (by wtm_at "hxc2") _ (by assumption) ?_; intro _ _)
      | ((with_reducible show wpAny _ _ (compareOp CmpOp.NotIn (Value.int _ _) (Value.ref _)) _ _ _); refine r_dnin ‹W _ _ _ _ _ _› ‹BaseOk _ _› (by wtm_at "hxc2") _ (by assumption) ?_; intro _ _)
      | ((with_reducible show wpAny _ _ (compareOp CmpOp.GtE (Value.int _ _) (Value.int _ _)) _ _ _); refine r_ge ?_))
  | ((with_reducible show (if _ = true then _ else _)); first | refine if_t (by first | rfl | assumption | (apply decide_eq_true; omega)) ?_ | refine if_f (by first | rfl | assumption | (apply decide_eq_false; omega)) ?_)
  | ((with_reducible show (_ = false ∧ _)); refine ⟨by first | rfl | assumption | (apply decide_eq_false; omega), ?_⟩)
  | ((with_reducible show (_ ∧ ∃ _, Made' _ _ _ _ _ _ _ _ _)); refine ⟨by simp, _, r_made ‹W _ _ _ _ _ _› ?_⟩; intro _ _ _)
  | ((with_reducible show Ready _ _ _ _ _ _ _ _); refine r_ready ‹W _ _ _ _ _ _› ‹BaseOk _ _› ?_)
  | ((with_reducible show wpAny _ _ (setItem (Value.ref _) (Value.int _ _) _) _ _ _); refine r_dset ‹W _ _ _ _ _ _› (by wtm_at "uxc2") (by omega) ?_; intro _ _)
  | ((with_reducible show wpAny _ _ (delItem (Value.ref _) (Value.int _ _)) _ _ _); refine r_ddel ‹W _ _ _ _ _ _› (by wtm_at "uxc2") (by assumption) (by omega) ?_; intro _ _)
  | ((with_reducible show wpAny _ _ (subscriptTail _ _ (Value.ref _) (Value.int _ _)) _ _ _); refine r_dsubA ‹W _ _ _ _ _ _› (by wtm_at "hxc2") (by assumption) ?_ (by with_unfolding_all rfl); intro _ _)
  | ((with_reducible show wpAny _ _ (getMethod _ _ _) _ _ _); first
      | ((with_reducible show wpAny _ _ (getMethod (Value.ref _) (Str.ofString "get") _) _ _ _); refine r_meth_dget ‹W _ _ _ _ _ _› (by wtm_at "hxc2") ?_)
      | ((with_reducible show wpAny _ _ (getMethod (Value.ref _) (Str.ofString "pop") _) _ _ _); first | refine r_meth_dpop ‹W _ _ _ _ _ _› (by wtm_at "hxc2") ?_ | refine r_meth_lpop ‹W _ _ _ _ _ _› (by wtm_at "hxc2") ?_)
      | ((with_reducible show wpAny _ _ (getMethod (Value.ref _) (Str.ofString "append") _) _ _ _); refine r_meth_lappend ‹W _ _ _ _ _ _› (by wtm_at "hxc2") ?_)
      | ((with_reducible show wpAny _ _ (getMethod (Value.ref _) _ _) _ _ _); refine r_clsmeth (by wtm_at "cvxc2") ‹W _ _ _ _ _ _› ‹BaseOk _ _› ?_; intro _ _))
  | ((with_reducible show wpAny _ _ (call _ _) _ _ _); first
      | ((with_reducible show wpAny _ _ (call (Value.builtin "dict.pop") _) _ _ _); refine r_dpop ‹W _ _ _ _ _ _› (by wtm_at "uxc2") (by assumption) (by omega) ?_; intro _ _)
      | ((with_reducible show wpAny _ _ (call (Value.builtin "list.append") _) _ _ _); refine r_lappend ‹W _ _ _ _ _ _› (by wtm_at "uxc2") (by omega) ?_; intro _ _)
      | ((with_reducible show wpAny _ _ (call (Value.builtin "iter") _) _ _ _); refine r_diter ‹W _ _ _ _ _ _› ‹BaseOk _ _› (fun _ => by wtm_at "uxc2") ?_; intro _ _ _ _)
      | ((with_reducible show wpAny _ _ (call (Value.builtin "next") _) _ _ _); refine r_dnext ‹W _ _ _ _ _ _› (by wtm_at "uxc2") (by assumption) ?_; intro _ _ _)
      | ((with_reducible show wpAny _ _ (call (Value.builtin "list.pop") _) _ _ _); refine r_lpop ‹W _ _ _ _ _ _› (by wtm_at "uxc2") (by omega) ?_; intro _ _))
  | ((with_reducible show wpAny _ _ (unaryOp UnaryOp.USub (Value.int _ _)) _ _ _); refine r_neg ‹W _ _ _ _ _ _› ?_; intro _ _ _)
  | ((with_reducible show wpAny _ _ (assign _ _ _) _ _ _); first
      | ((with_reducible show wpAny _ _ (assign (PySem.Expr.Name _ _) _ _) _ _ _); refine wpAny_assign_Name ?_)
      | ((with_reducible show wpAny _ _ (assign (PySem.Expr.Attribute _ _ _) _ _) _ _ _); refine r_assign_attr ?_)
      | ((with_reducible show wpAny _ _ (assign (PySem.Expr.Subscript _ _ _) _ _) _ _ _); refine kas_sub ?_))
  | ((with_reducible show wpAny _ _ (evalPart (some _) _) _ _ _); refine r_partS ?_)
  | ((with_reducible show wpAny _ _ (evalPart none _) _ _ _); refine r_partN ?_))
section
variable {wd : World} {C dx dd self : Addr} {T : List Str} {us : List (Option Value)} {kvs : List (Int × Value)} {k : Int} {tk : Tok} {v : Value}
theorem con_contains (K : Cc wd C T) (hu : Lget "_Cache__data" (.ref dd) T us) (b : Bool) (hb : (valueAt kvs k).isSome = b) :
    Spec wd 5 (call (.ref 763) [.ref self, .int k tk]) [(self, IsInst C dx), (dx, IsNs T us), (dd, IsD wd kvs)]
      (fun r l => r = .bool b ∧ l = [(self, IsInst C dx), (dx, IsNs T us), (dd, IsD wd kvs)]) := by
  have K1 := K.cls
  refine spec_def (fn_763 wd) (bd_763_2 wd _ _) (bv_763_2 _ _) ?_
  intro c A L s Q E bo rm sk hq w
  refine wpAny_execs_cons ?_
  repeat wtm_at "sxc2"
  exact hq _ _ _ ⟨rfl, rfl⟩ (‹W _ _ _ _ _ _›).own
theorem con_len (K : Cc wd C T) (hu : Lget "_Cache__data" (.ref dd) T us) (hz : kvs.length ≤ 1000) :
    Spec wd 5 (call (.ref 784) [.ref self]) [(self, IsInst C dx), (dx, IsNs T us), (dd, IsD wd kvs)]
      (fun v l => (∃ tk, v = .int kvs.length tk) ∧ l = [(self, IsInst C dx), (dx, IsNs T us), (dd, IsD wd kvs)]) := by
  have K1 := K.cls
  refine spec_def (fn_784 wd) (bd_784_1 wd _) (bv_784_1 _) ?_
  intro c A L s Q E bo rm sk hq w
  refine wpAny_execs_cons ?_
  repeat wtm_at "sxc2"
  refine r_dlen ‹W _ _ _ _ _ _› bo (by wtm_at "hxc2") hz ?_
  intro tk s'' w''
  exact hq _ _ _ ⟨⟨tk, rfl⟩, rfl⟩ w''.own
theorem con_getitem (K : Cc wd C T) (hu : Lget "_Cache__data" (.ref dd) T us) (hv : valueAt kvs k = some v) :
    Spec wd 5 (call (.ref 742) [.ref self, .int k tk]) [(self, IsInst C dx), (dx, IsNs T us), (dd, IsD wd kvs)]
      (fun r l => r = v ∧ l = [(self, IsInst C dx), (dx, IsNs T us), (dd, IsD wd kvs)]) := by
  have K1 := K.cls
  refine spec_def (fn_742 wd) (bd_742_2 wd _ _) (bv_742_2 _ _) ?_
  intro c A L s Q E bo rm sk hq w
  refine wpAny_execs_cons ?_
  refine r_try fun E' => ?_
  repeat wtm_at "sxc2"
  exact hq _ _ _ ⟨rfl, rfl⟩ (‹W _ _ _ _ _ _›).own
theorem con_setitem (K : Cc wd C T) {n m : Int} {tn tm : Tok} {us' : Tok → List (Option Value)} (hu : Lget "_Cache__data" (.ref dd) T us) (hn : Lget "_Cache__currsize" (.int n tn) T us) (hm : Lget "_Cache__maxsize" (.int m tm) T us)
    (hs : ∀ t, Lset "_Cache__currsize" (.int (n + 1) t) T us (us' t)) (hl : ∀ t, (us' t).length ≤ 50) (hv : valueAt kvs k = none) (h1 : n + 1 ≤ m) (h2 : 1 ≤ m) (hz : kvs.length ≤ 900) :
    Spec wd 5 (call (.ref 749) [.ref self, .int k tk, v]) [(self, IsInst C dx), (dx, IsNs T us), (dd, IsD wd kvs)]
      (fun r l => r = .none ∧ ∃ t, l = [(self, IsInst C dx), (dx, IsNs T (us' t)), (dd, IsD wd (stored kvs k v))]) := by
  have K1 := K.cls
  have K2 := K.short
  have hb : (valueAt kvs k).isSome = false := by rw [hv]; rfl
  refine spec_def (fn_749 wd) (bd_749_3 wd _ _ _) (bv_749_3 _ _ _) ?_
  intro c A L s Q E bo rm sk hq w
  refine wpAny_execs_cons ?_
  repeat wtm_at "sxc2"
  refine r_setattr ‹W _ _ _ _ _ _› bo K1 (by wtm_at "hxc2") (by wtm_at "uxc2") (hs _) K2 (hl _) ?_
  intro s'' w''
  repeat wtm_at "sxc2"
  exact hq _ _ _ ⟨rfl, _, rfl⟩ w''.own
theorem con_delitem (K : Cc wd C T) {n : Int} {tn : Tok} {us' : Tok → List (Option Value)} (hu : Lget "_Cache__data" (.ref dd) T us) (hn : Lget "_Cache__currsize" (.int n tn) T us)
    (hs : ∀ t, Lset "_Cache__currsize" (.int (n - 1) t) T us (us' t)) (hl : ∀ t, (us' t).length ≤ 50) (hb : (valueAt kvs k).isSome = true) (hz : kvs.length ≤ 900) :
    Spec wd 5 (call (.ref 756) [.ref self, .int k tk]) [(self, IsInst C dx), (dx, IsNs T us), (dd, IsD wd kvs)]
      (fun r l => r = .none ∧ ∃ t, l = [(self, IsInst C dx), (dx, IsNs T (us' t)), (dd, IsD wd (without kvs k))]) := by
  have K1 := K.cls
  have K2 := K.short
  refine spec_def (fn_756 wd) (bd_756_2 wd _ _) (bv_756_2 _ _) ?_
  intro c A L s Q E bo rm sk hq w
  refine wpAny_execs_cons ?_
  repeat wtm_at "sxc2"
  refine r_setattr ‹W _ _ _ _ _ _› bo K1 (by wtm_at "hxc2") (by wtm_at "uxc2") (hs _) K2 (hl _) ?_
  intro s'' w''
  repeat wtm_at "sxc2"
  exact hq _ _ _ ⟨rfl, _, rfl⟩ w''.own
theorem con_iter (K : Cc wd C T) (hu : Lget "_Cache__data" (.ref dd) T us) :
    Spec wd 5 (call (.ref 777) [.ref self]) [(self, IsInst C dx), (dx, IsNs T us), (dd, IsD wd kvs)]
      (fun r l => ∃ it ep, r = .ref it ∧ l = [(it, IsIt dd 0 kvs.length ep), (self, IsInst C dx), (dx, IsNs T us), (dd, IsDE wd kvs ep)]) := by
  have K1 := K.cls
  refine spec_def (fn_777 wd) (bd_777_1 wd _) (bv_777_1 _) ?_
  intro c A L s Q E bo rm sk hq w
  refine wpAny_execs_cons ?_
  repeat wtm_at "sxc2"
  exact hq _ _ _ ⟨_, _, rfl, rfl⟩ (‹W _ _ _ _ _ _›).own
theorem con_initC (K : Cc wd C T) (hf : findIn (KF wd.params) (.ref C) "getsizeof" = some (some (.ref 840))) (hg : ("getsizeof" : Str) ∉ T) {m : Int} {tm : Tok} {u1 : Addr → List (Option Value)} {u2 u3 : Addr → Tok → List (Option Value)}
    (hs1 : ∀ d, Lset "_Cache__data" (.ref d) T us (u1 d)) (hs2 : ∀ d t, Lset "_Cache__currsize" (.int 0 t) T (u1 d) (u2 d t)) (hs3 : ∀ d t, Lset "_Cache__maxsize" (.int m tm) T (u2 d t) (u3 d t))
    (hl1 : ∀ d, (u1 d).length ≤ 50) (hl2 : ∀ d t, (u2 d t).length ≤ 50) (hl3 : ∀ d t, (u3 d t).length ≤ 50) (hm : 0 ≤ m) {args : List Value} (hb : ∀ s : Shared, (KF wd.params).In s.heap → BindsTo s (fdOf (o_728 wd.params)) ⟨args, []⟩ [("self", .ref self), ("maxsize", .int m tm), ("getsizeof", .none)]) :
    SpecC wd 5 728 args [(self, IsInst C dx), (dx, IsNs T us)]
      (fun r l => r = .none ∧ ∃ dd t, l = [(dd, IsD wd []), (self, IsInst C dx), (dx, IsNs T (u3 dd t))]) := by
  have K1 := K.cls
  have K2 := K.short
  refine spec_defC (fn_728 wd) hb (bv_728_3 _ _ _) ?_
  intro c A L s Q E bo rm sk hq w
  refine wpAny_execs_cons ?_
  repeat wtm_at "sxc2"
  refine r_gz_inst ‹W _ _ _ _ _ _› bo K hf (by wtm_at "hxc2") (by wtm_at "hxc2") hg ?_
  intro s1 w1
  repeat wtm_at "sxc2"
  refine r_gz_cls ‹W _ _ _ _ _ _› bo ?_
  intro s2 w2
  refine r_isnot_self ?_
  repeat wtm_at "sxc2"
  refine r_setattr ‹W _ _ _ _ _ _› bo K1 (by wtm_at "hxc2") (by wtm_at "uxc2") (hs1 _) K2 (hl1 _) ?_
  intro s3 w3
  repeat wtm_at "sxc2"
  refine r_setattr ‹W _ _ _ _ _ _› bo K1 (by wtm_at "hxc2") (by wtm_at "uxc2") (hs2 _ _) K2 (hl2 _ _) ?_
  intro s4 w4
  repeat wtm_at "sxc2"
  refine r_setattr ‹W _ _ _ _ _ _› bo K1 (by wtm_at "hxc2") (by wtm_at "uxc2") (hs3 _ _) K2 (hl3 _ _) ?_
  intro s5 w5
  repeat wtm_at "sxc2"
  exact hq _ _ _ ⟨rfl, _, _, rfl⟩ w5.own
abbrev T0 : List Str := ["_Cache__data", "_Cache__currsize", "_Cache__maxsize"]
end
theorem cc_844 (wd : World) : Cc wd 844 T0 := ⟨⟨by kernel_rfl⟩, by kernel_rfl, by kernel_rfl, by kernel_rfl, by decide, by decide⟩
section
variable {wd : World} {C dx dd self g : Addr} {T : List Str} {us : List (Option Value)} {kvs : List (Int × Value)} {k : Int} {tk : Tok} {v d : Value} {ex : Led} {post : Value → Led → Prop}
theorem con_get_miss (K : Cc wd C T) (mc : Mt wd C "__contains__" 763) (hu : Lget "_Cache__data" (.ref dd) T us) (hv : valueAt kvs k = none) :
    Spec wd 7 (call (.ref 792) [.ref self, .int k tk, d]) [(self, IsInst C dx), (dx, IsNs T us), (dd, IsD wd kvs)] (fun r l => r = d ∧ l = [(self, IsInst C dx), (dx, IsNs T us), (dd, IsD wd kvs)]) := by
  have K1 := K.cls
  refine spec_def (fn_792 wd) (bd_792_3 wd _ _ _) (bv_792_3 _ _ _) ?_
  intro c A L s Q E bo rm sk hq w
  refine wpAny_execs_cons ?_
  repeat wtm_at "sxc2"
  refine r_in ‹W _ _ _ _ _ _› bo mc (by wtm_at "hxc2") (by wtm_at "hxc2") ?_
  refine (‹W _ _ _ _ _ _›).use bo (rm.le (by decide)) sk (by wtm_at "pkxc2") (con_contains K hu false (by rw [hv]; rfl)) ?_
  rintro _ _ s2 ⟨rfl, rfl⟩ w2
  refine ⟨_, rfl, ?_⟩
  repeat wtm_at "sxc2"
  exact hq _ _ _ ⟨rfl, rfl⟩ w2.own
theorem con_get_hit (K : Cc wd C T) (mc : Mt wd C "__contains__" 763) (mg : Mt wd C "__getitem__" g) (hu : Lget "_Cache__data" (.ref dd) T us) (hv : valueAt kvs k = some v)
    (sp : Spec wd 8 (call (.ref g) [.ref self, .int k tk]) ([(self, IsInst C dx), (dx, IsNs T us), (dd, IsD wd kvs)] ++ ex) post) :
    Spec wd 10 (call (.ref 792) [.ref self, .int k tk, d]) ([(self, IsInst C dx), (dx, IsNs T us), (dd, IsD wd kvs)] ++ ex) post := by
  have K1 := K.cls
  refine spec_def (fn_792 wd) (bd_792_3 wd _ _ _) (bv_792_3 _ _ _) ?_
  intro c A L s Q E bo rm sk hq w
  refine wpAny_execs_cons ?_
  repeat wtm_at "sxc2"
  refine r_in ‹W _ _ _ _ _ _› bo mc (by wtm_at "hxc2") (by wtm_at "hxc2") ?_
  refine (‹W _ _ _ _ _ _›).useP (fp := [(self, IsInst C dx), (dx, IsNs T us), (dd, IsD wd kvs)]) (rest := ex) bo (rm.le (by decide)) sk (.refl _) (con_contains K hu true (by rw [hv]; rfl)) ?_
  rintro _ _ s2 ⟨rfl, rfl⟩ w2
  refine ⟨_, rfl, ?_⟩
  repeat wtm_at "sxc2"
  refine r_isubscr ‹W _ _ _ _ _ _› bo mg (by wtm_at "hxc2") (by wtm_at "hxc2") ?_
  refine (‹W _ _ _ _ _ _›).useP (rest := []) bo ((rm.in1 (n := 8)).le (by decide)) sk (by rw [List.append_nil]) sp ?_
  intro r fp' s3 hp w3
  rw [List.append_nil] at w3
  repeat wtm_at "sxc2"
  exact hq _ _ _ hp w3.own
end

section
variable {wd : World} {A : Around} {E : Value → Shared → Prop} {c : Cx} {env : Env} {T T' : List Str} {vs us : List (Option Value)} {l fp rest : Led} {s : Shared} {x dx C f : Addr} {n : Nat} {post : Value → Led → Prop}
theorem W.code {R : Result → Shared → Prop} {args : List Value} (w : W c env T vs l s) (bo : BaseOk wd c.B) (rm : Rm n A) (sk : Stk A c env) (pk : l.Perm (fp ++ rest)) (sp : SpecC wd n f args fp post)
    (h : ∀ v fp' s', post v fp' → W c env T vs (fp' ++ rest) s' → R (.ok (.ret v)) s') : codeAny (model pw wd) A (.call (.ref f) ⟨args, []⟩) R s := by
  obtain ⟨c', bo', bel, o', back⟩ := w.split bo sk pk
  exact sp c' A s bo' rm (bel A rfl) o' R fun v fp' s' p o2 => h v fp' s' p (back fp' s' o2)
theorem r_icall {Q : Value → Shared → Prop} {pos : Pos} (w : W c env T vs l s) (bo : BaseOk wd c.B) (rm : Rm n A) (sk : Stk A c env) (m : Mt wd C "__call__" f) (hx : Has x (IsInst C dx) l) (hd : Has dx (IsNs T' us) l) (pk : l.Perm (fp ++ rest)) (sp : SpecC wd n f [.ref x] fp post)
    (h : ∀ v fp' s', post v fp' → W c env T vs (fp' ++ rest) s' → Q v s') : wpAny (model pw wd) A (callWith pos (.ref x) [] (backTo pos (starEach [] env)) []) Q E s := by
  obtain ⟨od, I, hno⟩ := inst_at w.own hx hd
  have X := bo.K.keeps w.own.base
  exact kco_callWith0 X I rfl m.find (wpAny_call (kco_code X I rfl m.find m.fn m.is (w.code bo rm sk pk sp h)))
structure Pr (wd : World) (C : Addr) (n : Str) (p fget : Addr) : Prop where
  plain : plainGet (KF wd.params) C n = true
  dict : hasDictIn (KF wd.params) C = true
  find : findIn (KF wd.params) (.ref C) n = some (some (.ref p))
  get : specialIn (KF wd.params) (.ref p) "__get__" = some (some (.builtin "property.__get__"))
  takes : takesIn (KF wd.params) (.ref p) = some true
  hd : (recIn (KF wd.params) p "property").bind List.head? = some (.ref fget)
  ty : (typeIn (KF wd.params) (.ref p)).any (fun t => t != .type "function" && t != .type "method_descriptor" && t != .type "wrapper_descriptor") = true
theorem r_prop {nm : Str} {p : Addr} {expr : Bool} {Q : Value → Shared → Prop} (w : W c env T vs l s) (bo : BaseOk wd c.B) (rm : Rm (n + 1) A) (sk : Stk A c env) (k : Pr wd C nm p f) (hx : Has x (IsInst C dx) l) (hd : Has dx (IsNs T' us) l) (pk : l.Perm (fp ++ rest)) (sp : SpecC wd n f [.ref x] fp post)
    (h : ∀ v fp' s', post v fp' → W c env T vs (fp' ++ rest) s' → handedIn v = true ∧ Q v s') : wpAny (model pw wd) A (getAttr (.ref x) nm expr) Q E s := by
  obtain ⟨od, I, hno⟩ := inst_at w.own hx hd
  obtain ⟨r, hr⟩ : ∃ rest, recIn (KF wd.params) p "property" = some (.ref f :: rest) := by
    have e := k.hd
    cases q : recIn (KF wd.params) p "property" with
    | none => rw [q] at e; cases e
    | some xs =>
      rw [q] at e
      cases xs with
      | nil => cases e
      | cons y ys =>
        have e' : some y = some (Value.ref f) := e
        cases e'
        exact ⟨ys, rfl⟩
  refine get_prop w.fr bo.K I k.plain k.dict k.find k.get k.takes hr ?_
  have sk1 : Stk A.in1 c env := sk
  refine (w.toks _).code bo rm.in1 sk1 pk sp fun v fp' s' p w' => ?_
  obtain ⟨a, b⟩ := h v fp' s' p w'
  show wpAny _ A (handedOut v) Q E s'
  rw [handedOut_of a]
  exact wpAny_pure b
theorem r_prop_meth {nm : Str} {p : Addr} {pl : Sem Bool} {Q : Value × List Value → Shared → Prop} (w : W c env T vs l s) (bo : BaseOk wd c.B) (rm : Rm (n + 1) A) (sk : Stk A c env) (k : Pr wd C nm p f) (hx : Has x (IsInst C dx) l) (hd : Has dx (IsNs T' us) l) (pk : l.Perm (fp ++ rest)) (sp : SpecC wd n f [.ref x] fp post)
    (h : ∀ v fp' s', post v fp' → W c env T vs (fp' ++ rest) s' → handedIn v = true ∧ Q (v, []) s') : wpAny (model pw wd) A (getMethod (.ref x) nm pl) Q E s := by
  obtain ⟨od, I, hno⟩ := inst_at w.own hx hd
  exact method_usual (bo.K.keeps w.own.base) I (plainGet_of k.plain).1 (plainGet_of k.plain).2 k.find k.ty (r_prop w bo rm sk k hx hd pk sp h)
theorem r_method_ga {nm : Str} {v : Value} {g : Value} {pl : Sem Bool} {Q : Value × List Value → Shared → Prop} (w : W c env T vs l s) (bo : BaseOk wd c.B) (k : Cls wd C T') (hga : findIn (KF wd.params) (.ref C) "__getattr__" = some (some g)) (hx : Has x (IsInst C dx) l) (hd : Has dx (IsNs T' us) l) (hv : Lget nm v T' us) (hh : handedIn v = true)
    (h : ∀ s', W c env T vs l s' → Q (v, []) s') : wpAny (model pw wd) A (getMethod (.ref x) nm pl) Q E s := by
  obtain ⟨od, I, hno⟩ := inst_at w.own hx hd
  obtain ⟨h1, h2, h3, h4, h5, h6⟩ := k.parts
  have X := bo.K.keeps w.own.base
  have hcan := PySem.F.canon_object_ga
  have u : wpAny (model pw wd) A (do return (← getAttr (.ref x) nm, ([] : List Value))) Q E s := wpAny_bind (r_attr w bo k hx hd hv hh fun s' w' => wpAny_pure (h s' w'))
  unfold getMethod specialOf
  refine wpAny_bind (wpAny_bind (I.type.here ((looks_findIn X h1).here ?_)))
  dsimp only
  rw [hcan, if_neg (by decide)]
  refine wpAny_bind (wpAny_bind (I.type.here ((looks_findIn X hga).here ?_)))
  rw [if_pos (by rfl)]
  exact u
theorem r_withN {y : Str} {py pos : Pos} {ctx : PySem.Expr} {body : List Stmt} {Q : Flow → Shared → Prop} (h : wpAny (model pw wd) A (eval ctx env) (KwIn pw wd A E env ctx.pos (some y) py body Q) E s) :
    wpAny (model pw wd) A (exec (.With [⟨ctx, some (.Name y py)⟩] body pos) env) Q E s := kw_execN h
theorem r_kwin {fe fx : Addr} {y : Str} {py pos : Pos} {body : List Stmt} {Q : Flow → Shared → Prop} (w : W c env T vs l s) (bo : BaseOk wd c.B) (me : Mt wd C "__enter__" fe) (mx : Mt wd C "__exit__" fx) (hx : Has x (IsInst C dx) l) (hd : Has dx (IsNs T' us) l)
    (h : wpAny (model pw wd) A (call (.ref fe) [.ref x]) (fun v s₂ => wpAny (model pw wd) A (storeName env y v) (fun _ s₃ => wpAny (model pw wd) A (execs body env) (fun fl s₄ => wpAny (model pw wd) A (call (.ref fx) [.ref x, .none, .none, .none]) (fun _ s' => Q fl s') E s₄) (fun _ _ => False) s₃) (fun _ _ => False) s₂) E s) :
    KwIn pw wd A E env pos (some y) py body Q (.ref x) s := by
  obtain ⟨od, I, hno⟩ := inst_at w.own hx hd
  exact kw_inN w.fr bo.K I me.find me.fn mx.find mx.fn h
end
theorem enterV {wd : World} {A : Around} {c : Cx} {l l' : Led} {s s1 : Shared} {R : Result → Shared → Prop} {f : Addr} {fd : FuncData} {body : List Stmt} {T : List Str} {vs : List (Option Value)} {args : Args} {binds : List (Str × Value)}
    (F : Fn wd f fd body T) (bo : BaseOk wd c.B) (o0 : Own c l' s) (o : Own c l s1) (hroom : A.depth < recursionLimit) (hbind : ∀ (M : Model) (A : Around) (E : Value → Shared → Prop) (Q : List (Str × Value) → Shared → Prop), Q binds s1 → wpAny M A (bindArgs fd args) Q E s) (hv : Bv binds T vs)
    (k : ∀ L s', W c (callEnv fd L f) T vs l s' → wpAny (model pw wd) (A.deeper (callEnv fd L f)) (execs body (callEnv fd L f))
        (fun fl s'' => R (.ok (.ret (match fl with | .ret v => v | _ => .none))) s'')
        (fun e s'' => wpAny (model pw wd) (A.deeper (callEnv fd L f)) (leaving (callEnv fd L f) e) (fun _ s3 => R (.error e) s3) (fun e' s3 => R (.error e') s3) s'') s') :
    codeAny (model pw wd) A (.call (.ref f) args) R s := by
  obtain ⟨⟨ob, hob, hd⟩, hbody, ok⟩ := F
  simp only [fnOk, Bool.and_eq_true, List.all_eq_true, bne_iff_ne, ne_eq, beq_iff_eq, Bool.not_eq_true'] at ok
  obtain ⟨⟨⟨⟨⟨⟨h1, h2⟩, h3⟩, h4⟩, h5⟩, h6⟩, h7⟩ := ok
  have X : (KF wd.params).In s.heap := bo.K.keeps o0.base
  have nd := nodupS_spec h4
  refine codeAny_call_function hroom (X _ _ hob) hd h5 h6 hbody (codeRec_of X h1) (hbind _ _ _ _ ?_)
  refine wpAny_newFunctionEnv (fun x hx => h2 x hx) (fun x hx => (h3 _ (hv.names x hx)).1) (fun h₀ hns hsb => ⟨(bo.lim.keeps o.base).fresh _ hsb, codeAny_func ?_⟩) h7
  have hk : ∀ b x, s1.heap.get? b = some x → h₀.get? b = some x := fun b x e => hsb.extBut b x (Nat.ne_of_lt (Heap.lt_size e)) (Heap.get?_push_of_some _ e)
  refine k _ _ ⟨⟨fun b x e => hk b x (o.base b x e), fun p hp => ?_, o.off, o.nd, o.gens, o.os, ?_⟩, ⟨?_, fun b x e => hk b x (o.base b x e), o.size⟩, fun p hp e => ?_, ⟨h7, fun x hx => (h3 x hx).1, nd, fun x hx => (h3 x hx).2⟩⟩
  · obtain ⟨x, hx, hP⟩ := o.led p hp
    exact ⟨x, hk _ _ hx, hP⟩
  · exact Nat.le_trans o.size (Nat.le_of_lt hns.lt)
  · rw [hv.loc nd]; exact hns
  · obtain ⟨x, hx, _⟩ := o.led p hp
    have e' : p.1 = s1.heap.objs.size := e
    rw [e'] at hx
    exact absurd (Heap.lt_size hx) (Nat.lt_irrefl _)
abbrev Tt : List Str := ["_Timer__timer", "_Timer__nesting", "_Timer__time"]
theorem cls_1178 (wd : World) : Cls wd 1178 Tt := ⟨by kernel_rfl⟩
theorem ga_1178 (wd : World) : findIn (KF wd.params) (.ref 1178) "__getattr__" = some (some (.ref 1175)) := by kernel_rfl
theorem mt_1178_enter (wd : World) : Mt wd 1178 "__enter__" 1154 := ⟨by kernel_rfl, by kernel_rfl, by kernel_rfl⟩
theorem mt_1178_exit (wd : World) : Mt wd 1178 "__exit__" 1161 := ⟨by kernel_rfl, by kernel_rfl, by kernel_rfl⟩
theorem mt_1178_call (wd : World) : Mt wd 1178 "__call__" 1147 := ⟨by kernel_rfl, by kernel_rfl, by kernel_rfl⟩
theorem pr_1404_timer (wd : World) : Pr wd 1404 "timer" 1223 1222 := ⟨by kernel_rfl, by kernel_rfl, by kernel_rfl, by kernel_rfl, by kernel_rfl, by kernel_rfl, by kernel_rfl⟩
theorem fn_1161 (wd : World) : Fn wd 1161 (fdOf (o_1161 wd.params)) (fnBody (fAt [38, 0, 3])) ["self", "exc"] := ⟨⟨o_1161 wd.params, by kernel_rfl, rfl⟩, rfl, by kernel_rfl⟩
theorem bd_1161 (wd : World) (v0 v1 v2 v3 : Value) : bindArgs (fdOf (o_1161 wd.params)) ⟨[v0, v1, v2, v3], []⟩ = newTuple [v1, v2, v3] >>= fun t => pure [((Str.ofString "self" : Str), v0), ((Str.ofString "exc" : Str), t)] := by kernel_rfl

section
variable {wd : World} {tx tdx f : Addr} {n h : Int} {tn th : Tok} {u : Option Value} {cx : Led} {fd : FuncData}
theorem con_timer_init : SpecC wd 3 1140 [.ref tx, .ref f] [(tx, IsInst 1178 tdx), (tdx, IsNs Tt (Tt.map fun _ => none))] (fun r l => r = .none ∧ ∃ t, l = [(tx, IsInst 1178 tdx), (tdx, IsNs Tt [some (.ref f), some (.int 0 t), none])]) := by
  have K1 := cls_1178 wd
  have K2 : Tt.length ≤ 50 := by decide
  refine spec_defC (fn_1140 wd) (bd_1140_2 wd _ _) (bv_1140_2 _ _) ?_
  intro c A L s Q E bo rm sk hq w
  refine wpAny_execs_cons ?_
  repeat wtm_at "sxc2"
  exact hq _ _ _ ⟨rfl, _, rfl⟩ (‹W _ _ _ _ _ _›).own
theorem con_timer_call (hf : Has f (IsFnObj fd) cx) (hsp : Spec wd 5 (call (.ref f) []) cx (fun r l => r = .int h th ∧ l = cx)) :
    SpecC wd 7 1147 [.ref tx] ((tx, IsInst 1178 tdx) :: (tdx, IsNs Tt [some (.ref f), some (.int 0 tn), u]) :: cx) (fun r l => r = .int h th ∧ l = (tx, IsInst 1178 tdx) :: (tdx, IsNs Tt [some (.ref f), some (.int 0 tn), u]) :: cx) := by
  have K1 := cls_1178 wd
  have K2 : Tt.length ≤ 50 := by decide
  refine spec_defC (fn_1147 wd) (bd_1147_1 wd _) (bv_1147_1 _) ?_
  intro c A L s Q E bo rm sk hq w
  refine wpAny_execs_cons ?_
  repeat wtm_at "sxc2"
  refine r_method_ga ‹W _ _ _ _ _ _› bo K1 (ga_1178 wd) (by wtm_at "hxc2") (by wtm_at "hxc2") (by wtm_at "gxc2") rfl ?_
  intro s1 w1
  refine r_callF0 w1 (.tail (.tail hf)) ?_
  refine w1.useP (fp := cx) (rest := [_, _]) bo (rm.le (by decide)) sk (List.perm_append_comm (l₁ := [_, _])) hsp ?_
  rintro _ _ s2 ⟨rfl, rfl⟩ w2
  have w3 := w2.perm (List.perm_append_comm (l₂ := [_, _]))
  repeat wtm_at "sxc2"
  exact hq _ _ _ ⟨rfl, rfl⟩ w3.own
theorem con_timer_enter (hf : Has f (IsFnObj fd) cx) (hsp : Spec wd 5 (call (.ref f) []) cx (fun r l => r = .int h th ∧ l = cx)) :
    Spec wd 7 (call (.ref 1154) [.ref tx]) ((tx, IsInst 1178 tdx) :: (tdx, IsNs Tt [some (.ref f), some (.int 0 tn), u]) :: cx) (fun r l => r = .int h th ∧ ∃ t, l = (tx, IsInst 1178 tdx) :: (tdx, IsNs Tt [some (.ref f), some (.int 1 t), some (.int h th)]) :: cx) := by
  have K1 := cls_1178 wd
  have K2 : Tt.length ≤ 50 := by decide
  refine spec_def (fn_1154 wd) (bd_1154_1 wd _) (bv_1154_1 _) ?_
  intro c A L s Q E bo rm sk hq w
  refine wpAny_execs_cons ?_
  repeat wtm_at "sxc2"
  refine r_method_ga ‹W _ _ _ _ _ _› bo K1 (ga_1178 wd) (by wtm_at "hxc2") (by wtm_at "hxc2") (by wtm_at "gxc2") rfl ?_
  intro s1 w1
  refine r_callF0 w1 (.tail (.tail hf)) ?_
  refine w1.useP (fp := cx) (rest := [_, _]) bo (rm.le (by decide)) sk (List.perm_append_comm (l₁ := [_, _])) hsp ?_
  rintro _ _ s2 ⟨rfl, rfl⟩ w2
  have w3 := w2.perm (List.perm_append_comm (l₂ := [_, _]))
  clear w2
  repeat wtm_at "sxc2"
  exact hq _ _ _ ⟨rfl, _, rfl⟩ (‹W _ _ _ _ _ _›).own
theorem con_timer_exit :
    Spec wd 5 (call (.ref 1161) [.ref tx, .none, .none, .none]) [(tx, IsInst 1178 tdx), (tdx, IsNs Tt [some (.ref f), some (.int 1 tn), u])] (fun r l => ∃ t, l = [(tx, IsInst 1178 tdx), (tdx, IsNs Tt [some (.ref f), some (.int 0 t), u])]) := by
  have K1 := cls_1178 wd
  have K2 : Tt.length ≤ 50 := by decide
  intro c A s bo rm bel o Q E hq
  have hk : (fdOf (o_1161 wd.params)).scope.kind = .function := by kernel_rfl
  refine wpAny_call (enterV (fn_1161 wd) bo o (l := [(tx, IsInst 1178 tdx), (tdx, IsNs Tt [some (.ref f), some (.int 1 tn), u])]) (s1 := { s with heap := s.heap.push { cls := .type "tuple", data := .seq #[.none, .none, .none] } }) (binds := [("self", .ref tx), ("exc", .ref s.heap.objs.size)]) ?_ rm.room ?_ (.cons (.cons .nil)) ?_)
  · refine ⟨fun b x e => Heap.get?_push_of_some _ (o.base b x e), fun p hp => ?_, o.off, o.nd, o.gens, o.os, by rw [Heap.size_push]; exact Nat.le_succ_of_le o.size⟩
    obtain ⟨x, hx, hP⟩ := o.led p hp
    exact ⟨x, Heap.get?_push_of_some _ hx, hP⟩
  · intro M A E Q hQ
    rw [bd_1161]
    exact wpAny_bind (wpAny_newTuple (wpAny_pure hQ))
  · intro L s' w
    have rm2 : Rm 4 (A.deeper (callEnv (fdOf (o_1161 wd.params)) L 1161)) := rm.deeper
    have sk := stk_of (fd := fdOf (o_1161 wd.params)) (L := L) (f := 1161) bel hk
    refine wpAny_execs_cons ?_
    repeat wtm_at "sxc2"
    exact hq _ _ _ ⟨_, rfl⟩ (‹W _ _ _ _ _ _›).own
end

local macro_rules | `(tactic| wtm_at "tlxd2") => `(tactic| first | exact Tls.here | (apply Tls.there; wtm_at "tlxd2"))
local macro_rules | `(tactic| wtm_at "gxd2") => `(tactic| first | exact Lget.here | (apply Lget.there; wtm_at "gxd2"))
local macro_rules | `(tactic| wtm_at "hxd2") => `(tactic| first | exact Has.head | (apply Has.tail; wtm_at "hxd2"))
local macro_rules | `(tactic| wtm_at "uxd2") => `(tactic| first | exact Up.head | (apply Up.tail; wtm_at "uxd2"))
local macro_rules | `(tactic| wtm_at "lsxd2") => `(tactic| first | exact Lset.here | (apply Lset.there; wtm_at "lsxd2"))
local macro_rules | `(tactic| wtm_at "tkxd2") => `(tactic| first | exact Take.head | (apply Take.tail; wtm_at "tkxd2"))
local macro_rules | `(tactic| wtm_at "pkxd2") => `(tactic| first | exact Pick.nil | (apply Pick.cons; wtm_at "tkxd2"; wtm_at "pkxd2"))
local macro_rules | `(tactic| wtm_at "bnxd2") => `(tactic| first | exact bn_len _ | exact bn_next _ | exact bn_iter _ | exact bn_min _ | exact bn_max _ | exact bn_sum _ | exact bn_range _ | exact bn_sorted _)
local macro_rules | `(tactic| wtm_at "gnxd2") => `(tactic| first | exact gn_Cache _ | exact gn_FIFO _ | exact gn_LFU _ | exact gn_LRU _ | exact gn_RR _ | exact gn_Timed _ | exact gn_TTL _ | exact gn_at _ | exact gn_line _ | exact gn_lnext _)
local macro_rules | `(tactic| wtm_at "cvxd2") => `(tactic| first | exact cv_844_getitem _ | exact cv_844_delitem _ | exact cv_844_init _)
local macro_rules | `(tactic| wtm_at "namexd2") => `(tactic| ((with_reducible show wpAny _ _ (eval (PySem.Expr.Name _ _) _) _ _ _); first
  | refine r_name ‹W _ _ _ _ _ _› (by wtm_at "gxd2") ?_
  | refine r_gn (by wtm_at "gnxd2") ‹W _ _ _ _ _ _› ‹BaseOk _ _› (by rfl) (by rfl) ?_
  | refine r_bn (by wtm_at "bnxd2") ‹W _ _ _ _ _ _› ‹BaseOk _ _› (by rfl) (by rfl) (by rfl) ?_
  | refine r_cellN (by rfl) (by rfl) ‹W _ _ _ _ _ _› (by wtm_at "hxd2") ?_
  | refine r_freeN (by rfl) (by rfl) ‹W _ _ _ _ _ _› (by wtm_at "hxd2") ?_))
local macro_rules | `(tactic| wtm_at "sxd2") => `(tactic| first
  | ((with_reducible show wpAny _ _ (execs (_ :: _) _) _ _ _); refine wpAny_execs_cons ?_)
  | ((with_reducible show wpAny _ _ (execs [] _) _ _ _); refine wpAny_execs_nil ?_)
  | ((with_reducible show wpAny _ _ (eval _ _) _ _ _); first
      | wtm_at "namexd2"
      | ((with_reducible show wpAny _ _ (eval (PySem.Expr.Attribute _ _ _) _) _ _ _); first | refine Attribute_name ?_ | refine Attribute_any_ ?_)
      | ((with_reducible show wpAny _ _ (eval (PySem.Expr.Constant (PySem.Const.int _) _ _) _) _ _ _); refine r_int ‹W _ _ _ _ _ _› ?_; intro _ _ _)
      | ((with_reducible show wpAny _ _ (eval (PySem.Expr.Constant PySem.Const.none _ _) _) _ _ _); refine wpAny_Constant_none ?_)
      | ((with_reducible show wpAny _ _ (eval (PySem.Expr.Compare _ [_] [_] _) _) _ _ _); refine wpAny_Compare1 ?_)
      | ((with_reducible show wpAny _ _ (eval (PySem.Expr.BinOp _ _ _ _) _) _ _ _); refine wpAny_BinOp ?_)
      | ((with_reducible show wpAny _ _ (eval (PySem.Expr.Call (PySem.Expr.Attribute _ _ _) _ [] _) _) _ _ _); refine MethodCall_ ?_)
      | ((with_reducible show wpAny _ _ (eval (PySem.Expr.Call _ _ [] _) _) _ _ _); refine Call_ ?_)
      | ((with_reducible show wpAny _ _ (eval (PySem.Expr.Subscript _ _ _) _) _ _ _); refine Subscript_ ?_)
      | ((with_reducible show wpAny _ _ (eval (PySem.Expr.Dict [] [] _) _) _ _ _); refine r_dict0 ‹W _ _ _ _ _ _› ?_; intro _ _ _)
      | ((with_reducible show wpAny _ _ (eval (PySem.Expr.List [] _) _) _ _ _); refine r_list0 ‹W _ _ _ _ _ _› ?_; intro _ _ _)
      | ((with_reducible show wpAny _ _ (eval (PySem.Expr.Tuple _ _ _) _) _ _ _); refine r_tuple ‹W _ _ _ _ _ _› ?_)
      | ((with_reducible show wpAny _ _ (eval (PySem.Expr.List (_ :: _) _) _) _ _ _); refine r_list ‹W _ _ _ _ _ _› ?_)
      | ((with_reducible show wpAny _ _ (eval (PySem.Expr.UnaryOp _ _ _) _) _ _ _); refine PyProof.Rows.UnaryOp_ ?_)
      | ((with_reducible show wpAny _ _ (eval (PySem.Expr.IfExp _ _ _ _) _) _ _ _); refine IfExp_ ?_)
      | ((with_reducible show wpAny _ _ (eval (PySem.Expr.Slice _ _ none _) _) _ _ _); refine r_slice ?_))
  | ((with_reducible show wpAny _ _ (getAttr _ _ _) _ _ _); first
      | ((with_reducible show wpAny _ _ (getAttr (Value.ref _) (Str.ofString "_Cache__size") _) _ _ _); refine r_attr_size ‹W _ _ _ _ _ _› ‹BaseOk _ _› ‹Cc _ _ _› (by wtm_at "hxd2") (by wtm_at "hxd2") ?_; intro _ _)
      | ((with_reducible show wpAny _ _ (getAttr (Value.ref _) _ _) _ _ _); refine r_attr ‹W _ _ _ _ _ _› ‹BaseOk _ _› ‹Cls _ _ _› (by wtm_at "hxd2") (by wtm_at "hxd2") (by first | assumption | wtm_at "gxd2") (by rfl) ?_; intro _ _)
      | ((with_reducible show wpAny _ _ (getAttr (Value.ref _) _ _) _ _ _); refine r_clsattr (by wtm_at "cvxd2") ‹W _ _ _ _ _ _› ‹BaseOk _ _› ?_; intro _ _))
  | ((with_reducible show wpAny _ _ (PySem.isTrue _ _ _) _ _ _); first
      | ((with_reducible show wpAny _ _ (isTrue (PySem.Expr.Compare _ [_] [_] _) _ _) _ _ _); refine wpAny_isTrue_Compare1 ?_)
      | ((with_reducible show wpAny _ _ (isTrue (PySem.Expr.UnaryOp _ _ _) _ _) _ _ _); refine wpAny_isTrue_Not ?_)
      | ((with_reducible show wpAny _ _ (PySem.isTrue (PySem.Expr.Name _ _) _ _) _ _ _); refine wpAny_isTrue_value ?_)
      | ((with_reducible show wpAny _ _ (PySem.isTrue (PySem.Expr.Attribute _ _ _) _ _) _ _ _); refine wpAny_isTrue_value ?_)
      | ((with_reducible show wpAny _ _ (PySem.isTrue (PySem.Expr.BoolOp BoolOp.Or (_ :: _) _) _ _) _ _ _); refine isTrue_or ?_)
      | ((with_reducible show wpAny _ _ (PySem.isTrue (PySem.Expr.BoolOp BoolOp.Or [] _) _ _) _ _ _); refine isTrue_or_nil ?_)
      | ((with_reducible show wpAny _ _ (PySem.isTrue (PySem.Expr.BoolOp BoolOp.And (_ :: _) _) _ _) _ _ _); refine isTrue_and ?_)
      | ((with_reducible show wpAny _ _ (PySem.isTrue (PySem.Expr.BoolOp BoolOp.And [] _) _ _) _ _ _); refine isTrue_and_nil ?_))
  | ((with_reducible show wpAny _ _ (callWith _ _ _ _ _) _ _ _); first
      | ((with_reducible show wpAny _ _ (callWith _ (Value.builtin _) [] (backTo _ (starEach (_ :: _) _)) []) _ _ _); refine PyProof.Rows.callWith_builtin1 ?_)
      | ((with_reducible show wpAny _ _ (callWith _ (Value.builtin _) _ (backTo _ (starEach (_ :: _) _)) []) _ _ _); refine callWith_method1 ?_)
      | ((with_reducible show wpAny _ _ (callWith _ (Value.ref _) _ (backTo _ (starEach (_ :: _) _)) []) _ _ _); refine r_call (by kernel_rfl!) ?_)
      | ((with_reducible show wpAny _ _ (callWith _ (Value.ref _) _ (backTo _ (starEach [] _)) []) _ _ _); refine r_call0 (by kernel_rfl!) ‹W _ _ _ _ _ _› ‹BaseOk _ _› ?_)
      | ((with_reducible show wpAny _ _ (callWith _ (Value.builtin _) _ (backTo _ (starEach [] _)) []) _ _ _); refine callWith_method0 ?_))
  | ((with_reducible show wpAny _ _ (spliced (backTo _ (starEach (_ :: _) _))) _ _ _); refine args_cons ?_)
  | ((with_reducible show wpAny _ _ (spliced (backTo _ (starEach [] _))) _ _ _); refine args_nil ?_)
  | ((with_reducible show wpAny _ _ (exec _ _) _ _ _); first
      | ((with_reducible show wpAny _ _ (exec (Stmt.Return (some _) _) _) _ _ _); refine wpAny_Return_some ?_)
      | ((with_reducible show wpAny _ _ (exec (Stmt.If _ _ _ _) _) _ _ _); refine wpAny_If ?_)
      | ((with_reducible show wpAny _ _ (exec (Stmt.Assign [PySem.Expr.Name _ _] _ _) _) _ _ _); refine wpAny_Assign_Name ?_)
      | ((with_reducible show wpAny _ _ (exec (Stmt.Assign [PySem.Expr.Attribute _ _ _] _ _) _) _ _ _); refine plainObj_wpAny_Assign_Attribute ?_)
      | ((with_reducible show wpAny _ _ (exec (Stmt.Assign [PySem.Expr.Subscript _ _ _] _ _) _) _ _ _); refine wpAny_Assign_Subscript ?_)
      | ((with_reducible show wpAny _ _ (exec (Stmt.AugAssign (PySem.Expr.Attribute _ _ _) _ _ _) _) _ _ _); refine wpAny_AugAssign_AttributeAny ?_)
      | ((with_reducible show wpAny _ _ (exec (Stmt.Delete _ _) _) _ _ _); refine wpAny_Delete ?_)
      | ((with_reducible show wpAny _ _ (exec (Stmt.While _ _ _ _) _) _ _ _); refine r_while0 fun _ => ?_)
      | ((with_reducible show wpAny _ _ (exec (Stmt.Expr _ _) _) _ _ _); refine wpAny_Expr_any ?_)
      | ((with_reducible show wpAny _ _ (exec (Stmt.Assign [_, _] _ _) _) _ _ _); refine wpAny_Assign_two ?_)
      | ((with_reducible show wpAny _ _ (exec (Stmt.Return none _) _) _ _ _); refine wpAny_Return_none ?_)
      | ((with_reducible show wpAny _ _ (exec (Stmt.With [WithItem.mk _ (some (PySem.Expr.Name _ _))] _ _) _) _ _ _); refine r_withN ?_))
  | ((with_reducible show wpAny _ _ (deleteEach (_ :: _) _) _ _ _); refine wpAny_deleteEach_cons ?_)
  | ((with_reducible show wpAny _ _ (deleteEach [] _) _ _ _); refine wpAny_deleteEach_nil ?_)
  | ((with_reducible show wpAny _ _ (delete (PySem.Expr.Subscript _ _ _) _) _ _ _); refine wpAny_delete_Subscript ?_)
  | ((with_reducible show wpAny _ _ (storeName _ _ _) _ _ _); (first | refine r_store ‹W _ _ _ _ _ _› (by wtm_at "lsxd2") ?_ | refine r_storeC (by rfl) (by rfl) ‹W _ _ _ _ _ _› (by wtm_at "uxd2") ?_); intro _ _)
  | ((with_reducible show wpAny _ _ (setAttr (Value.ref _) _ _) _ _ _); refine r_setattr ‹W _ _ _ _ _ _› ‹BaseOk _ _› ‹Cls _ _ _› (by wtm_at "hxd2") (by wtm_at "uxd2") (by first | assumption | wtm_at "lsxd2") (by assumption) (by assumption) ?_; intro _ _)
  | ((with_reducible show wpAny _ _ (truthy (Value.bool _)) _ _ _); refine wpAny_truthy_bool ?_)
  | ((with_reducible show wpAny _ _ (truthy (Value.ref _)) _ _ _); (first | refine r_dtruth ‹W _ _ _ _ _ _› ‹BaseOk _ _› (by wtm_at "hxd2") (by omega) ?_ | refine r_ltruth ‹W _ _ _ _ _ _› (by wtm_at "hxd2") (by omega) ?_); intro _ _)
  | ((with_reducible show wpAny _ _ (binaryOp _ _ _) _ _ _); first
      | ((with_reducible show wpAny _ _ (binaryOp Operator.Add (Value.int _ _) (Value.int _ _)) _ _ _); refine r_add ‹W _ _ _ _ _ _› ?_; intro _ _ _)
      | ((with_reducible show wpAny _ _ (binaryOp Operator.Sub (Value.int _ _) (Value.int _ _)) _ _ _); refine r_sub ‹W _ _ _ _ _ _› ?_; intro _ _ _)
      | ((with_reducible show wpAny _ _ (binaryOp Operator.Mod (Value.int _ _) (Value.int _ _)) _ _ _); refine r_mod ‹W _ _ _ _ _ _› (by first | decide | omega) ?_; intro _ _ _)
      | ((with_reducible show wpAny _ _ (binaryOp Operator.FloorDiv (Value.int _ _) (Value.int _ _)) _ _ _); refine r_fdiv ‹W _ _ _ _ _ _› (by first | decide | omega) (by first | decide | omega) ?_; intro _ _ _))
  | ((with_reducible show wpAny _ _ (inplaceOp Operator.Add (Value.int _ _) (Value.int _ _)) _ _ _); refine r_iadd ‹W _ _ _ _ _ _› ?_; intro _ _ _)
  | ((with_reducible show wpAny _ _ (inplaceOp Operator.Sub (Value.int _ _) (Value.int _ _)) _ _ _); refine r_isub ‹W _ _ _ _ _ _› ?_; intro _ _ _)
  | ((with_reducible show wpAny _ _ (compareOp _ _ _) _ _ _); first
      | ((with_reducible show wpAny _ _ (compareOp CmpOp.Lt (Value.int _ _) (Value.int _ _)) _ _ _); refine r_lt ?_)
      | ((with_reducible show wpAny _ _ (compareOp CmpOp.Gt (Value.int _ _) (Value.int _ _)) _ _ _); refine r_gt ?_)
      | ((with_reducible show wpAny _ _ (compareOp CmpOp.Eq (Value.int _ _) (Value.int _ _)) _ _ _); refine r_eq ?_)
      | ((with_reducible show wpAny _ _ (compareOp CmpOp.NotEq (Value.int _ _) (Value.int _ _)) _ _ _); refine r_ne ?_)
      | ((with_reducible show wpAny _ _ (compareOp CmpOp.Is _ Value.none) _ _ _); refine PySem.is_none ?_)
      | ((with_reducible show wpAny _ _ (compareOp CmpOp.IsNot _ Value.none) _ _ _); refine PySem.isNot_none ?_)
      | ((with_reducible show wpAny _ _ (compareOp CmpOp.In (Value.int _ _) (Value.ref _)) _ _ _); refine r_din ‹W _ _ _ _ _ _› ‹BaseOk _ _› (by wtm_at "hxd2") _ (by assumption) ?_; intro _ _)
      | ((with_reducible show wpAny _ _ (compareOp CmpOp.NotIn (Value.int _ _) (Value.ref _)) _ _ _); refine r_dnin ‹W _ _ _ _ _ _› ‹BaseOk _ _› (by wtm_at "hxd2") _ (by assumption) ?_; intro _ _)
      | ((with_reducible show wpAny _ _ (compareOp CmpOp.GtE (Value.int _ _) (Value.int _ _)) _ _ _); refine r_ge ?_))
  | ((with_reducible show (if _ = true then _ else _)); first | refine if_t (by first | rfl | assumption | (apply decide_eq_true; omega)) ?_ | refine if_f (by first | rfl | assumption | (apply decide_eq_false; omega)) ?_)
  | ((with_reducible show (_ = false ∧ _)); refine ⟨by first | rfl | assumption | (apply decide_eq_false; omega), ?_⟩)
  | ((with_reducible show (_ ∧ ∃ _, Made' _ _ _ _ _ _ _ _ _)); refine ⟨by simp, _, r_made ‹W _ _ _ _ _ _› ?_⟩; intro _ _ _)
  | ((with_reducible show Ready _ _ _ _ _ _ _ _); refine r_ready ‹W _ _ _ _ _ _› ‹BaseOk _ _› ?_)
  | ((with_reducible show wpAny _ _ (setItem (Value.ref _) (Value.int _ _) _) _ _ _); refine r_dset ‹W _ _ _ _ _ _› (by wtm_at "uxd2") (by omega) ?_; intro _ _)
  | ((with_reducible show wpAny _ _ (delItem (Value.ref _) (Value.int _ _)) _ _ _); refine r_ddel ‹W _ _ _ _ _ _› (by wtm_at "uxd2") (by assumption) (by omega) ?_; intro _ _)
  | ((with_reducible show wpAny _ _ (subscriptTail _ _ (Value.ref _) (Value.int _ _)) _ _ _); refine r_dsubA ‹W _ _ _ _ _ _› (by wtm_at "hxd2") (by assumption) ?_ (by with_unfolding_all rfl); intro _ _)
  | ((with_reducible show wpAny _ _ (getMethod _ _ _) _ _ _); first
      | ((with_reducible show wpAny _ _ (getMethod (Value.ref _) (Str.ofString "get") _) _ _ _); refine r_meth_dget ‹W _ _ _ _ _ _› (by wtm_at "hxd2") ?_)
      | ((with_reducible show wpAny _ _ (getMethod (Value.ref _) (Str.ofString "pop") _) _ _ _); first | refine r_meth_dpop ‹W _ _ _ _ _ _› (by wtm_at "hxd2") ?_ | refine r_meth_lpop ‹W _ _ _ _ _ _› (by wtm_at "hxd2") ?_)
      | ((with_reducible show wpAny _ _ (getMethod (Value.ref _) (Str.ofString "append") _) _ _ _); refine r_meth_lappend ‹W _ _ _ _ _ _› (by wtm_at "hxd2") ?_)
      | ((with_reducible show wpAny _ _ (getMethod (Value.ref _) _ _) _ _ _); refine r_clsmeth (by wtm_at "cvxd2") ‹W _ _ _ _ _ _› ‹BaseOk _ _› ?_; intro _ _))
  | ((with_reducible show wpAny _ _ (call _ _) _ _ _); first
      | ((with_reducible show wpAny _ _ (call (Value.builtin "dict.pop") _) _ _ _); refine r_dpop ‹W _ _ _ _ _ _› (by wtm_at "uxd2") (by assumption) (by omega) ?_; intro _ _)
      | ((with_reducible show wpAny _ _ (call (Value.builtin "list.append") _) _ _ _); refine r_lappend ‹W _ _ _ _ _ _› (by wtm_at "uxd2") (by omega) ?_; intro _ _)
      | ((with_reducible show wpAny _ _ (call (Value.builtin "iter") _) _ _ _); refine r_diter ‹W _ _ _ _ _ _› ‹BaseOk _ _› (fun _ => by wtm_at "uxd2") ?_; intro _ _ _ _)
      | ((with_reducible show wpAny _ _ (call (Value.builtin "next") _) _ _ _); refine r_dnext ‹W _ _ _ _ _ _› (by wtm_at "uxd2") (by assumption) ?_; intro _ _ _)
      | ((with_reducible show wpAny _ _ (call (Value.builtin "list.pop") _) _ _ _); refine r_lpop ‹W _ _ _ _ _ _› (by wtm_at "uxd2") (by omega) ?_; intro _ _))
  | ((with_reducible show wpAny _ _ (unaryOp UnaryOp.USub (Value.int _ _)) _ _ _); refine r_neg ‹W _ _ _ _ _ _› ?_; intro _ _ _)
  | ((with_reducible show wpAny _ _ (assign _ _ _) _ _ _); first
      | ((with_reducible show wpAny _ _ (assign (PySem.Expr.Name _ _) _ _) _ _ _); refine wpAny_assign_Name ?_)
      | ((with_reducible show wpAny _ _ (assign (PySem.Expr.Attribute _ _ _) _ _) _ _ _); refine r_assign_attr ?_)
      | ((with_reducible show wpAny _ _ (assign (PySem.Expr.Subscript _ _ _) _ _) _ _ _); refine kas_sub ?_))
  | ((with_reducible show wpAny _ _ (evalPart (some _) _) _ _ _); refine r_partS ?_)
  | ((with_reducible show wpAny _ _ (evalPart none _) _ _ _); refine r_partN ?_))
structure TLk where
  dx : Addr
  e : Value
  k : Value
  nx : Addr
  pv : Addr
def IsTLk (k : TLk) : Obj → Prop := IsSl 1312 k.dx [some k.e, some k.k, some (.ref k.nx), some (.ref k.pv)]
def tls (k : TLk) (a : Addr) : Led := [(a, IsTLk k), (k.dx, IsNs [] [])]
section
variable {wd : World} {A : Around} {E : Value → Shared → Prop} {c : Cx} {env : Env} {T : List Str} {vs : List (Option Value)} {l l' : Led} {s : Shared} {a : Addr} {as : List Addr} {st : Addr → TLk} {expr : Bool}
theorem r_tl_expires {v : Value} {Q : Value → Shared → Prop} (w : W c env T vs l s) (bo : BaseOk wd c.B) (t : Tls (ringOf tls as st) (ringOf tls as st) l l) (ha : a ∈ as) (hv : (st a).e = v) (hh : handedIn v = true) (h : ∀ s', W c env T vs l s' → Q v s') : wpAny (model pw wd) A (getAttr (.ref a) "expires" expr) Q E s :=
  r_slot w bo (sl_expires wd) (t.has (ring_has ha .head)) (t.has (ring_has ha (.tail .head))) (by rw [← hv]; rfl) hh h
theorem r_tl_key {v : Value} {Q : Value → Shared → Prop} (w : W c env T vs l s) (bo : BaseOk wd c.B) (t : Tls (ringOf tls as st) (ringOf tls as st) l l) (ha : a ∈ as) (hv : (st a).k = v) (hh : handedIn v = true) (h : ∀ s', W c env T vs l s' → Q v s') : wpAny (model pw wd) A (getAttr (.ref a) "key" expr) Q E s :=
  r_slot w bo (sl_key wd) (t.has (ring_has ha .head)) (t.has (ring_has ha (.tail .head))) (by rw [← hv]; rfl) hh h
theorem r_tl_next {Q : Value → Shared → Prop} (w : W c env T vs l s) (bo : BaseOk wd c.B) (t : Tls (ringOf tls as st) (ringOf tls as st) l l) (ha : a ∈ as) (h : ∀ s', W c env T vs l s' → Q (.ref (st a).nx) s') : wpAny (model pw wd) A (getAttr (.ref a) "next" expr) Q E s :=
  r_slot w bo (sl_next' wd) (t.has (ring_has ha .head)) (t.has (ring_has ha (.tail .head))) rfl rfl h
theorem r_tl_prev {Q : Value → Shared → Prop} (w : W c env T vs l s) (bo : BaseOk wd c.B) (t : Tls (ringOf tls as st) (ringOf tls as st) l l) (ha : a ∈ as) (h : ∀ s', W c env T vs l s' → Q (.ref (st a).pv) s') : wpAny (model pw wd) A (getAttr (.ref a) "prev" expr) Q E s :=
  r_slot w bo (sl_prev' wd) (t.has (ring_has ha .head)) (t.has (ring_has ha (.tail .head))) rfl rfl h
theorem r_tl_setnext {b : Addr} {Q : Unit → Shared → Prop} (w : W c env T vs l s) (bo : BaseOk wd c.B) (t0 : Tls (ringOf tls as st) (ringOf tls as st) l l) (t : Tls (ringOf tls as st) (ringOf tls as (upd st a { st a with nx := b })) l l') (nd : as.Nodup) (ha : a ∈ as)
    (h : ∀ s', W c env T vs l' s' → Q () s') : wpAny (model pw wd) A (setAttr (.ref a) "next" (.ref b)) Q E s :=
  r_setslot w bo (sl_next' wd) rfl (t0.has (ring_has ha (.tail .head))) (t.up (ring_up nd ha .head)) h
theorem r_tl_setprev {b : Addr} {Q : Unit → Shared → Prop} (w : W c env T vs l s) (bo : BaseOk wd c.B) (t0 : Tls (ringOf tls as st) (ringOf tls as st) l l) (t : Tls (ringOf tls as st) (ringOf tls as (upd st a { st a with pv := b })) l l') (nd : as.Nodup) (ha : a ∈ as)
    (h : ∀ s', W c env T vs l' s' → Q () s') : wpAny (model pw wd) A (setAttr (.ref a) "prev" (.ref b)) Q E s :=
  r_setslot w bo (sl_prev' wd) rfl (t0.has (ring_has ha (.tail .head))) (t.up (ring_up nd ha .head)) h
theorem r_tl_unlink {pl : Sem Bool} {Q : Value × List Value → Shared → Prop} (w : W c env T vs l s) (bo : BaseOk wd c.B) (t : Tls (ringOf tls as st) (ringOf tls as st) l l) (ha : a ∈ as) (hg : plainGet (KF wd.params) 1312 "unlink" = true) (hm : findIn (KF wd.params) (.ref 1312) "unlink" = some (some (.ref 1308))) (hf : isFn (KF wd.params) (.ref 1308) = true) (h : Q (.ref 1308, [.ref a]) s) : wpAny (model pw wd) A (getMethod (.ref a) "unlink" pl) Q E s := by
  obtain ⟨ox, h1, sl, rfl, h2, h3⟩ := w.own.get (t.has (ring_has (f := tls) ha .head))
  obtain ⟨od, h4, hno⟩ := w.own.get (t.has (ring_has (f := tls) ha (.tail .head)))
  have I : InstAt s.heap a { instObj 1312 (st a).dx with slots := sl } 1312 (some od) := ⟨h1, rfl, rfl, h4⟩
  exact method_fn (bo.K.keeps w.own.base) I (plainGet_of hg).1 (plainGet_of hg).2 hm (beq_iff_eq.mp hf) (by show (lookIn _ od).map _ = _; rw [lookIn_of hno]; rfl) h
theorem r_tl_is_other {b : Addr} {Q : Value → Shared → Prop} (w : W c env T vs l s) (t : Tls (ringOf tls as st) (ringOf tls as st) l l) (ha : a ∈ as) (hb : b ∈ as) (h : a ≠ b) (hq : Q (.bool false) s) : wpAny (model pw wd) A (compareOp .Is (.ref a) (.ref b)) Q E s := by
  obtain ⟨ox, h1, sl, rfl, _⟩ := w.own.get (t.has (ring_has (f := tls) ha .head))
  obtain ⟨oy, h2, sl', rfl, _⟩ := w.own.get (t.has (ring_has (f := tls) hb .head))
  show wpAny (model pw wd) A (do return .bool (← isSame (.ref a) (.ref b))) Q E s
  exact wpAny_bind (wpAny_isSame_ref_other h h1 h2 (by intro z; cases z) (wpAny_pure hq))
theorem r_tl_isnot_other {b : Addr} {Q : Value → Shared → Prop} (w : W c env T vs l s) (t : Tls (ringOf tls as st) (ringOf tls as st) l l) (ha : a ∈ as) (hb : b ∈ as) (h : a ≠ b) (hq : Q (.bool true) s) : wpAny (model pw wd) A (compareOp .IsNot (.ref a) (.ref b)) Q E s := by
  obtain ⟨ox, h1, sl, rfl, _⟩ := w.own.get (t.has (ring_has (f := tls) ha .head))
  obtain ⟨oy, h2, sl', rfl, _⟩ := w.own.get (t.has (ring_has (f := tls) hb .head))
  show wpAny (model pw wd) A (do return .bool (!(← isSame (.ref a) (.ref b)))) Q E s
  exact wpAny_bind (wpAny_isSame_ref_other h h1 h2 (by intro z; cases z) (wpAny_pure hq))
end
theorem ul_1312 (wd : World) : findIn (KF wd.params) (.ref 1312) "unlink" = some (some (.ref 1308)) := by kernel_rfl
theorem ulg_1312 (wd : World) : plainGet (KF wd.params) 1312 "unlink" = true := by kernel_rfl
theorem ulf_1312 (wd : World) : isFn (KF wd.params) (.ref 1308) = true := by kernel_rfl
theorem mk_1312 (wd : World) : makesIn (KF wd.params) 1312 = true := by kernel_rfl
theorem init_1312 (wd : World) : findIn (KF wd.params) (.ref 1312) "__init__" = some (some (.ref 1294)) := by kernel_rfl
theorem ty_1294 (wd : World) : typeIn (KF wd.params) (.ref 1294) = some (.type "function") := by kernel_rfl
theorem mk_1178 (wd : World) : makesIn (KF wd.params) 1178 = true := by kernel_rfl
theorem init_1178 (wd : World) : findIn (KF wd.params) (.ref 1178) "__init__" = some (some (.ref 1140)) := by kernel_rfl
theorem ty_1140 (wd : World) : typeIn (KF wd.params) (.ref 1140) = some (.type "function") := by kernel_rfl
abbrev T5 : List Str := ["_Cache__data", "_Cache__currsize", "_Cache__maxsize", "_TimedCache__timer", "_TTLCache__root", "_TTLCache__links", "_TTLCache__ttl"]
theorem cc_1404 (wd : World) : Cc wd 1404 T5 := ⟨⟨by kernel_rfl⟩, by kernel_rfl, by kernel_rfl, by kernel_rfl, by decide, by decide⟩
theorem cr_1404 (wd : World) : Cr wd 1404 := ⟨by kernel_rfl, by kernel_rfl⟩
theorem cv_1404_Link (wd : World) : Cv wd 1404 "_Link" (.ref 1312) := ⟨cr_1404 wd, by kernel_rfl, rfl⟩
theorem cr_1262 (wd : World) : Cr wd 1262 := ⟨by kernel_rfl, by kernel_rfl⟩
theorem cv_1262_Timer (wd : World) : Cv wd 1262 "_Timer" (.ref 1178) := ⟨cr_1262 wd, by kernel_rfl, rfl⟩
theorem cv_1262_init (wd : World) : Cv wd 1262 "__init__" (.ref 1190) := ⟨cr_1262 wd, by kernel_rfl, rfl⟩
theorem gz_1404 (wd : World) : findIn (KF wd.params) (.ref 1404) "getsizeof" = some (some (.ref 840)) := by kernel_rfl
theorem mt_1404_setitem (wd : World) : Mt wd 1404 "__setitem__" 1349 := ⟨by kernel_rfl, by kernel_rfl, by kernel_rfl⟩
theorem mt_1404_expire (wd : World) : Mt wd 1404 "expire" 1387 := ⟨by kernel_rfl, by kernel_rfl, by kernel_rfl⟩
theorem bd_1294_1 (wd : World) (v0 : Value) (s : Shared) (X : (KF wd.params).In s.heap) : BindsTo s (fdOf (o_1294 wd.params)) ⟨[v0], []⟩ [("self", v0), ("key", .none), ("expires", .none)] := binds_load (a := 1287) (o := o_1287 wd.params) (X _ _ (by kernel_rfl)) (by kernel_rfl) (by kernel_rfl)
section
variable {wd : World} {as : List Addr} {st : Addr → TLk} {a p n x dx : Addr} {i : Int} {ti : Tok} {C self tx : Addr} {T : List Str} {us : List (Option Value)}
theorem con_tl_unlink (ha : a ∈ as) (hp : p ∈ as) (hn : n ∈ as) (en : (st a).nx = n) (ep : (st a).pv = p) (nd : as.Nodup) :
    Spec wd 3 (call (.ref 1308) [.ref a]) (ringOf tls as st) (fun r l => r = .none ∧ l = ringOf tls as (upd (upd st p { st p with nx := n }) n { (upd st p { st p with nx := n }) n with pv := p })) := by
  refine spec_def (fn_1308 wd) (bd_1308_1 wd _) (bv_1308_1 _) ?_
  intro c A L s Q E bo rm sk hq w
  refine wpAny_execs_cons ?_
  repeat wtm_at "sxd2"
  refine r_tl_next ‹W _ _ _ _ _ _› bo .here ha ?_
  intro s1 w1
  rw [en]
  repeat wtm_at "sxd2"
  refine r_tl_prev ‹W _ _ _ _ _ _› bo .here ha ?_
  intro s2 w2
  rw [ep]
  repeat wtm_at "sxd2"
  refine r_tl_setnext ‹W _ _ _ _ _ _› bo .here .here nd hp ?_
  intro s3 w3
  repeat wtm_at "sxd2"
  refine r_tl_setprev ‹W _ _ _ _ _ _› bo .here .here nd hn ?_
  intro s4 w4
  repeat wtm_at "sxd2"
  exact hq _ _ _ ⟨rfl, rfl⟩ w4.own
theorem con_tl_init {k : Value} (args : List Value) (hb : ∀ s : Shared, (KF wd.params).In s.heap → BindsTo s (fdOf (o_1294 wd.params)) ⟨args, []⟩ [("self", .ref x), ("key", k), ("expires", .none)]) :
    SpecC wd 3 1294 args [(x, IsInst 1312 dx), (dx, IsNs [] [])] (fun r l => r = .none ∧ l = [(x, IsSl 1312 dx [some .none, some k, none, none]), (dx, IsNs [] [])]) := by
  refine spec_defC (fn_1294 wd) hb (T := ["self", "key", "expires"]) (.cons (.cons (.cons .nil))) ?_
  intro c A L s Q E bo rm sk hq w
  have w : W c (callEnv (fdOf (o_1294 wd.params)) L 1294) _ _ [(x, IsSl 1312 dx [none, none, none, none]), (dx, IsNs [] [])] s := w.weak .head fun o _ h => sl_new h
  refine wpAny_execs_cons ?_
  repeat wtm_at "sxd2"
  refine r_setslot ‹W _ _ _ _ _ _› bo (sl_key wd) rfl (by wtm_at "hxd2") (by wtm_at "uxd2") ?_
  intro s1 w1
  repeat wtm_at "sxd2"
  refine r_setslot ‹W _ _ _ _ _ _› bo (sl_expires wd) rfl (by wtm_at "hxd2") (by wtm_at "uxd2") ?_
  intro s2 w2
  repeat wtm_at "sxd2"
  exact hq _ _ _ ⟨rfl, rfl⟩ w2.own
theorem con_ttl_timer (hu : Lget "_TimedCache__timer" (.ref tx) T5 us) : SpecC wd 3 1222 [.ref self] [(self, IsInst 1404 dx), (dx, IsNs T5 us)] (fun r l => r = .ref tx ∧ l = [(self, IsInst 1404 dx), (dx, IsNs T5 us)]) := by
  have K1 := (cc_1404 wd).cls
  refine spec_defC (fn_1222 wd) (bd_1222_1 wd _) (bv_1222_1 _) ?_
  intro c A L s Q E bo rm sk hq w
  refine wpAny_execs_cons ?_
  repeat wtm_at "sxd2"
  exact hq _ _ _ ⟨rfl, rfl⟩ (‹W _ _ _ _ _ _›).own
end

def Ch (nx pv : Addr → Addr) : Addr → List Addr → Addr → Prop
  | p, [], r => nx p = r ∧ pv r = p
  | p, a :: as, r => nx p = a ∧ pv a = p ∧ Ch nx pv a as r
section
variable {nx pv nx' pv' : Addr → Addr} {p r a x : Addr} {l l1 l2 : List Addr}
theorem Ch.congr (h : Ch nx pv p l r) (h1 : ∀ a ∈ p :: l, nx' a = nx a) (h2 : ∀ a ∈ l ++ [r], pv' a = pv a) : Ch nx' pv' p l r := by
  induction l generalizing p with
  | nil => exact ⟨(h1 p (.head _)).trans h.1, (h2 r (.head _)).trans h.2⟩
  | cons b l ih => exact ⟨(h1 p (.head _)).trans h.1, (h2 b (.head _)).trans h.2.1, ih h.2.2 (fun a ha => h1 a (.tail _ ha)) fun a ha => h2 a (.tail _ ha)⟩
theorem Ch.first (h : Ch nx pv p l r) : nx p = l.headD r := by
  cases l with
  | nil => exact h.1
  | cons b l => exact h.1
theorem Ch.split (h : Ch nx pv p (l1 ++ a :: l2) r) : Ch nx pv p l1 a ∧ Ch nx pv a l2 r := by
  induction l1 generalizing p with
  | nil => exact ⟨⟨h.1, h.2.1⟩, h.2.2⟩
  | cons b l ih => exact ⟨⟨h.1, h.2.1, (ih h.2.2).1⟩, (ih h.2.2).2⟩
theorem Ch.last (h : Ch nx pv p l r) : pv r = l.getLastD p := by
  induction l generalizing p with
  | nil => exact h.2
  | cons b l ih => rw [ih h.2.2]; cases l <;> rfl
theorem headD_mem : l.headD r ∈ l ++ [r] := by
  cases l with
  | nil => exact .head _
  | cons b l => exact .head _
theorem getLastD_mem : l.getLastD p ∈ p :: l := by
  induction l generalizing p with
  | nil => exact .head _
  | cons b l ih =>
    have := ih (p := b)
    have e : (b :: l).getLastD p = l.getLastD b := by cases l <;> rfl
    rw [e]
    exact .tail _ this
theorem Ch.unlink (nd : (p :: (l1 ++ a :: l2)).Nodup) (hr : r ∉ l1 ++ a :: l2) (h : Ch nx pv p (l1 ++ a :: l2) r) (e1 : ∀ b, nx' b = if b = pv a then nx a else nx b) (e2 : ∀ b, pv' b = if b = nx a then pv a else pv b) : Ch nx' pv' p (l1 ++ l2) r := by
  induction l1 generalizing p with
  | nil =>
    obtain ⟨h1, h2, h3⟩ := h
    have nd1 := List.nodup_cons.mp nd
    have nd2 := List.nodup_cons.mp nd1.2
    cases l2 with
    | nil => exact ⟨by rw [e1, if_pos h2.symm]; exact h3.1, by rw [e2, if_pos h3.1.symm]; exact h2⟩
    | cons b l2 =>
      have nd3 := List.nodup_cons.mp nd2.2
      have hrb : r ≠ b := fun e => hr (by rw [e]; exact .tail _ (.head _))
      refine ⟨by rw [e1, if_pos h2.symm]; exact h3.1, by rw [e2, if_pos h3.1.symm]; exact h2, h3.2.2.congr (fun c hc => ?_) fun c hc => ?_⟩
      · rw [e1, h2, if_neg]
        intro e; subst e
        exact nd1.1 (.tail _ hc)
      · rw [e2, h3.1, if_neg]
        intro e; subst e
        rcases List.mem_append.mp hc with q | q
        · exact nd3.1 q
        · exact hrb (List.mem_singleton.mp q).symm
  | cons b l1 ih =>
    have nd1 := List.nodup_cons.mp nd
    have nd2 := List.nodup_cons.mp nd1.2
    have hs := Ch.split (l1 := l1) h.2.2
    have m1 : pv a ∈ b :: l1 := by rw [hs.1.last]; exact getLastD_mem
    have m2 : nx a ∈ l2 ++ [r] := by rw [hs.2.first]; exact headD_mem
    refine ⟨?_, ?_, ih nd1.2 (fun hm => hr (.tail _ hm)) h.2.2⟩
    · rw [e1, if_neg]
      · exact h.1
      · intro e
        rw [e] at nd1
        exact nd1.1 (List.mem_append_left (as := b :: l1) _ m1)
    · rw [e2, if_neg]
      · exact h.2.1
      · intro e
        rw [← e] at m2
        rcases List.mem_append.mp m2 with q | q
        · exact nd2.1 (List.mem_append_right _ (.tail _ q))
        · exact hr (by rw [← List.mem_singleton.mp q]; exact .head _)
theorem Ch.insert (nd : (p :: (l1 ++ l2)).Nodup) (hr : r ∉ l1 ++ l2) (h : Ch nx pv p (l1 ++ l2) r) (hx : x ∉ p :: (l1 ++ l2)) (hxr : x ≠ r)
    (e1 : ∀ b, nx' b = if b = x then l2.headD r else if b = l1.getLastD p then x else nx b) (e2 : ∀ b, pv' b = if b = x then l1.getLastD p else if b = l2.headD r then x else pv b) : Ch nx' pv' p (l1 ++ x :: l2) r := by
  induction l1 generalizing p with
  | nil =>
    have nd1 := List.nodup_cons.mp nd
    have hpx : p ≠ x := fun e => hx (by rw [e]; exact .head _)
    refine ⟨by rw [e1, if_neg hpx]; exact if_pos rfl, by rw [e2, if_pos rfl]; rfl, ?_⟩
    cases l2 with
    | nil => exact ⟨by rw [e1, if_pos rfl]; rfl, by rw [e2, if_neg hxr.symm]; exact if_pos rfl⟩
    | cons b l2 =>
      have nd3 := List.nodup_cons.mp nd1.2
      have hbx : b ≠ x := fun e => hx (by rw [e]; exact .tail _ (.head _))
      have hrb : r ≠ b := fun e => hr (by rw [e]; exact .head _)
      refine ⟨by rw [e1, if_pos rfl]; rfl, by rw [e2, if_neg hbx]; exact if_pos rfl, Ch.congr h.2.2 (fun c hc => ?_) fun c hc => ?_⟩
      · have : c ≠ x := fun e => hx (by rw [← e]; exact .tail _ hc)
        rw [e1, if_neg this, if_neg]
        intro e
        have e : c = p := e
        rw [e] at hc
        exact nd1.1 hc
      · have : c ≠ x := fun e => by
          rcases List.mem_append.mp hc with q | q
          · exact hx (by rw [← e]; exact .tail _ (.tail _ q))
          · exact hxr (by rw [← e]; exact List.mem_singleton.mp q)
        rw [e2, if_neg this, if_neg]
        intro e
        have e : c = b := e
        rw [e] at hc
        rcases List.mem_append.mp hc with q | q
        · exact nd3.1 q
        · exact hrb (List.mem_singleton.mp q).symm
  | cons b l1 ih =>
    have nd1 := List.nodup_cons.mp nd
    have nd2 := List.nodup_cons.mp nd1.2
    have el : (b :: l1).getLastD p = l1.getLastD b := by cases l1 <;> rfl
    rw [el] at e1 e2
    have m1 : l1.getLastD b ∈ b :: l1 := getLastD_mem
    have m2 : l2.headD r ∈ l2 ++ [r] := headD_mem
    have hpx : p ≠ x := fun e => hx (by rw [e]; exact .head _)
    have hbx : b ≠ x := fun e => hx (by rw [e]; exact .tail _ (.head _))
    refine ⟨?_, ?_, ih nd1.2 (fun hm => hr (.tail _ hm)) h.2.2 (fun hm => hx (.tail _ hm)) e1 e2⟩
    · rw [e1, if_neg hpx, if_neg]
      · exact h.1
      · intro e
        rw [← e] at m1
        exact nd1.1 (List.mem_append_left (as := b :: l1) _ m1)
    · rw [e2, if_neg hbx, if_neg]
      · exact h.2.1
      · intro e
        rw [← e] at m2
        rcases List.mem_append.mp m2 with q | q
        · exact nd2.1 (List.mem_append_right _ q)
        · exact hr (by rw [← List.mem_singleton.mp q]; exact .head _)
end

structure HR where
  a : Addr
  g : Int
  tg : Tok
  e : Int
  te : Tok
  v : Value
structure HA where
  self : Addr
  dx : Addr
  dd : Addr
  tx : Addr
  tdx : Addr
  ld : Addr
  root : Addr
  f : Addr
  m : Int
  tm : Tok
  S : Int
  ts : Tok
def houseH (wd : World) (H : HA) (n : Int) (tn : Tok) (i : Int) (ti : Tok) (u : Option Value) (kvs lkvs : List (Int × Value)) : Led :=
  [(H.self, IsInst 1404 H.dx), (H.dx, IsNs T5 [some (.ref H.dd), some (.int n tn), some (.int H.m H.tm), some (.ref H.tx), some (.ref H.root), some (.ref H.ld), some (.int H.S H.ts)]), (H.dd, IsD wd kvs), (H.ld, IsD wd lkvs), (H.tx, IsInst 1178 H.tdx), (H.tdx, IsNs Tt [some (.ref H.f), some (.int i ti), u])]
structure HInv (root : Addr) (st : Addr → TLk) (hs : List HR) : Prop where
  nd : (root :: hs.map (·.a)).Nodup
  ch : Ch (fun a => (st a).nx) (fun a => (st a).pv) root (hs.map (·.a)) root
  fld : ∀ h ∈ hs, (st h.a).k = .int h.g h.tg ∧ (st h.a).e = .int h.e h.te
  ndg : (hs.map (·.g)).Nodup
def hkv (hs : List HR) : List (Int × Value) := hs.map fun h => (h.g, h.v)
def hlv (hs : List HR) : List (Int × Value) := hs.map fun h => (h.g, .ref h.a)
def NoneDue (h : Int) : List HR → Prop
  | [] => True
  | x :: _ => h < x.e
section
variable {wd : World} {H : HA} {n h i : Int} {tn th ti : Tok} {u : Option Value} {hs : List HR} {st : Addr → TLk}
theorem con_expire_none (I : HInv H.root st hs) (hd : NoneDue h hs) : Spec wd 5 (call (.ref 1387) [.ref H.self, .int h th]) (houseH wd H n tn i ti u (hkv hs) (hlv hs) ++ ringOf tls (H.root :: hs.map (·.a)) st)
    (fun r l => ∃ ls, r = .ref ls ∧ l = (ls, IsLs []) :: (houseH wd H n tn i ti u (hkv hs) (hlv hs) ++ ringOf tls (H.root :: hs.map (·.a)) st)) := by
  have K := cc_1404 wd
  have K1 := K.cls
  have K2 := K.short
  have hr : H.root ∈ H.root :: hs.map (·.a) := .head _
  refine spec_def (fn_1387 wd) (bd_1387_2 wd _ _) (bv_1387_2 _ _) ?_
  intro c A L s Q E bo rm sk hq w
  unfold houseH at w
  refine wpAny_execs_cons ?_
  repeat wtm_at "sxd2"
  refine r_tl_next ‹W _ _ _ _ _ _› bo (.there (.there (.there (.there (.there (.there .here)))))) hr ?_
  intro s1 w1
  cases hs with
  | nil =>
    rw [show (st H.root).nx = H.root from I.ch.1]
    repeat wtm_at "sxd2"
    refine r_is_self ?_
    repeat wtm_at "sxd2"
    exact hq _ _ _ ⟨_, rfl, rfl⟩ (‹W _ _ _ _ _ _›).own
  | cons x xs =>
    have hx : x.a ∈ H.root :: (x :: xs).map (·.a) := .tail _ (.head _)
    have hne : x.a ≠ H.root := fun e => (List.nodup_cons.mp I.nd).1 (e ▸ .head _)
    have hlt : h < x.e := hd
    rw [show (st H.root).nx = x.a from I.ch.1]
    repeat wtm_at "sxd2"
    refine r_tl_is_other ‹W _ _ _ _ _ _› (.there (.there (.there (.there (.there (.there .here)))))) hx hr hne ?_
    repeat wtm_at "sxd2"
    refine r_tl_expires ‹W _ _ _ _ _ _› bo (.there (.there (.there (.there (.there (.there .here)))))) hx (I.fld x (.head _)).2 rfl ?_
    intro s2 w2
    repeat wtm_at "sxd2"
    exact hq _ _ _ ⟨_, rfl, rfl⟩ (‹W _ _ _ _ _ _›).own
end

theorem W.picks {c : Cx} {env : Env} {T : List Str} {vs : List (Option Value)} {l fp r : Led} {s : Shared} (w : W c env T vs l s) (p : Pick fp l r) : W c env T vs (fp ++ r) s := w.perm p.perm
theorem perm4 {α : Type} (a b r c : List α) : (a ++ (b ++ (r ++ c))).Perm ((b ++ c) ++ (a ++ r)) := by
  have h1 : (b ++ (r ++ c)).Perm ((b ++ c) ++ r) := by
    rw [List.append_assoc]
    exact List.perm_append_comm.append_left _
  exact (h1.append_left a).trans (List.perm_append_comm_assoc _ _ _)
def tupL (tps : List Addr) (xs : List HR) : Led := (tps.zip xs).map fun p => (p.1, IsTu [.int p.2.g p.2.tg, p.2.v])
def AllDue (h : Int) (xs : List HR) : Prop := ∀ x ∈ xs, x.e ≤ h
theorem valueAt_head {k : Int} {v : Value} {r : List (Int × Value)} : valueAt ((k, v) :: r) k = some v := by
  unfold valueAt
  simp
theorem without_head {k : Int} {v : Value} {r : List (Int × Value)} (h : k ∉ r.map (·.1)) : without ((k, v) :: r) k = r := by
  unfold without
  simp only [List.filter_cons]
  have e : ∀ {r : List (Int × Value)}, k ∉ r.map (·.1) → r.filter (fun p => p.1 != k) = r := by
    intro r h
    rw [List.filter_eq_self]
    intro p hp
    have : p.1 ≠ k := fun e => h (by rw [← e]; exact List.mem_map_of_mem hp)
    simpa using this
  simp
  exact fun a b hab e => h (List.mem_map.mpr ⟨(a, b), hab, e⟩)
theorem hkv_keys (hs : List HR) : (hkv hs).map (·.1) = hs.map (·.g) := by unfold hkv; rw [List.map_map]; rfl
theorem hlv_keys (hs : List HR) : (hlv hs).map (·.1) = hs.map (·.g) := by unfold hlv; rw [List.map_map]; rfl
def tunl (st : Addr → TLk) (p n : Addr) : Addr → TLk := upd (upd st p { st p with nx := n }) n { (upd st p { st p with nx := n }) n with pv := p }
theorem tunl_k {st : Addr → TLk} {p n b : Addr} : (tunl st p n b).k = (st b).k ∧ (tunl st p n b).e = (st b).e := by
  unfold tunl
  by_cases h : b = n
  · subst h
    rw [upd_self]
    by_cases h2 : b = p
    · subst h2; rw [upd_self]; exact ⟨rfl, rfl⟩
    · rw [upd_ne h2]; exact ⟨rfl, rfl⟩
  · rw [upd_ne h]
    by_cases h2 : b = p
    · subst h2; rw [upd_self]; exact ⟨rfl, rfl⟩
    · rw [upd_ne h2]; exact ⟨rfl, rfl⟩
theorem tunl_nx {st : Addr → TLk} {p n b : Addr} : (tunl st p n b).nx = if b = p then n else (st b).nx := by
  unfold tunl
  by_cases h : b = n
  · subst h
    rw [upd_self]
    by_cases h2 : b = p
    · subst h2; rw [upd_self, if_pos rfl]
    · rw [upd_ne h2, if_neg h2]
  · rw [upd_ne h]
    by_cases h2 : b = p
    · subst h2; rw [upd_self, if_pos rfl]
    · rw [upd_ne h2, if_neg h2]
theorem tunl_pv {st : Addr → TLk} {p n b : Addr} : (tunl st p n b).pv = if b = n then p else (st b).pv := by
  unfold tunl
  by_cases h : b = n
  · subst h
    rw [upd_self, if_pos rfl]
  · rw [upd_ne h, if_neg h]
    by_cases h2 : b = p
    · subst h2; rw [upd_self]
    · rw [upd_ne h2]
theorem HInv.pop {root : Addr} {st : Addr → TLk} {z : HR} {hs : List HR} (I : HInv root st (z :: hs)) : HInv root (tunl st root (st z.a).nx) hs := by
  have nd1 := List.nodup_cons.mp I.nd
  have e : (st z.a).pv = root := I.ch.2.1
  refine ⟨?_, ?_, fun h hh => ?_, ?_⟩
  · refine List.nodup_cons.mpr ⟨fun m => nd1.1 (.tail _ m), (List.nodup_cons.mp nd1.2).2⟩
  · have := Ch.unlink (nx' := fun a => (tunl st root (st z.a).nx a).nx) (pv' := fun a => (tunl st root (st z.a).nx a).pv) (l1 := []) (a := z.a) (l2 := hs.map (·.a)) I.nd nd1.1 I.ch (fun b => by rw [e]; exact tunl_nx) (fun b => by rw [e]; exact tunl_pv)
    exact this
  · rw [tunl_k.1, tunl_k.2]
    exact I.fld h (.tail _ hh)
  · exact (List.nodup_cons.mp I.ndg).2
theorem HInv.zg {root : Addr} {st : Addr → TLk} {z : HR} {hs : List HR} (I : HInv root st (z :: hs)) : z.g ∉ hs.map (·.g) := (List.nodup_cons.mp I.ndg).1

local macro_rules | `(tactic| wtm_at "nyd6") => `(tactic| ((fail_if_success (with_reducible show wpAny _ _ (exec (Stmt.While _ _ _ _) _) _ _ _)); wtm_at "sxd2"))
section
variable {wd : World} {H : HA} {n h : Int} {tn th ti : Tok} {u : Option Value} {xs ys : List HR} {st : Addr → TLk} {cx : Led} {fd : FuncData}
def hdA (root : Addr) (hs : List HR) : Addr := (hs.map (·.a)).headD root
def expInv (wd : World) (H : HA) (n h : Int) (th ti : Tok) (u : Option Value) (xs ys : List HR) (cx : Led) (c : Cx) (env : Env) (k : Nat) (s : Shared) : Prop :=
  ∃ (done zs : List HR) (st' : Addr → TLk) (t : Tok) (tps : List Addr) (ls : Addr) (nx : Option Value), xs = done ++ zs ∧ zs.length = k ∧ tps.length = done.length ∧ HInv H.root st' (zs ++ ys) ∧
    W c env ["self", "time", "root", "curr", "links", "expired", "cache_delitem", "cache_getitem", "next"] [some (.ref H.self), some (.int h th), some (.ref H.root), some (.ref (hdA H.root (zs ++ ys))), some (.ref H.ld), some (.ref ls), some (.ref 756), some (.ref 742), nx]
      ((ls, IsLs (tps.map .ref)) :: (houseH wd H (n - done.length) t 0 ti u (hkv (zs ++ ys)) (hlv (zs ++ ys)) ++ (ringOf tls (H.root :: (zs ++ ys).map (·.a)) st' ++ (tupL tps done ++ cx)))) s
theorem exp_end {c : Cx} {env : Env} {T : List Str} {vs : List (Option Value)} {s : Shared} {ls tp : Addr} {tps : List Addr} {done : List HR} {z : HR} {kvs lkvs : List (Int × Value)} {t : Tok} {as : List Addr} (el : tps.length = done.length)
    (w : W c env T vs ([(ls, IsLs (tps.map Value.ref ++ [Value.ref tp])), (H.self, IsInst 1404 H.dx), (H.dx, IsNs T5 [some (.ref H.dd), some (.int (n - (done.length : Int) - 1) t), some (.int H.m H.tm), some (.ref H.tx), some (.ref H.root), some (.ref H.ld), some (.int H.S H.ts)]), (H.dd, IsD wd kvs), (H.ld, IsD wd lkvs), (H.tx, IsInst 1178 H.tdx), (H.tdx, IsNs Tt [some (.ref H.f), some (.int 0 ti), u]), (tp, IsTu [.int z.g z.tg, z.v])] ++ (ringOf tls (H.root :: z.a :: as) st ++ (tupL tps done ++ cx))) s) :
    W c env T vs ((ls, IsLs ((tps ++ [tp]).map .ref)) :: (houseH wd H (n - (done ++ [z]).length) t 0 ti u kvs lkvs ++ (ringOf tls (H.root :: as) st ++ (tupL (tps ++ [tp]) (done ++ [z]) ++ cx)))) s := by
  have e1 : n - ((done ++ [z]).length : Int) = n - (done.length : Int) - 1 := by rw [List.length_append]; simp; omega
  have e2 : tupL (tps ++ [tp]) (done ++ [z]) = tupL tps done ++ [(tp, IsTu [.int z.g z.tg, z.v])] := by
    unfold tupL
    rw [List.zip_append el, List.map_append]; rfl
  have e3 : (tps ++ [tp]).map Value.ref = tps.map Value.ref ++ [Value.ref tp] := by rw [List.map_append]; rfl
  rw [e1, e2, e3]
  have w2 := w.sub (l' := [_, _, _, _, _, _, _] ++ ((tp, IsTu [.int z.g z.tg, z.v]) :: (ringOf tls (H.root :: as) st ++ (tupL tps done ++ cx)))) (List.Sublist.append_left (List.Sublist.cons_cons _ (List.Sublist.append_right (by
    show (tls (st H.root) H.root ++ ringOf tls as st).Sublist (tls (st H.root) H.root ++ (tls (st z.a) z.a ++ ringOf tls as st))
    exact (List.sublist_append_right _ _).append_left _) _)) [_, _, _, _, _, _, _])
  refine w2.perm (List.Perm.append_left [_, _, _, _, _, _, _] ?_)
  refine List.perm_middle.symm.trans ?_
  refine List.Perm.append_left _ ?_
  rw [List.append_assoc]
  exact List.perm_middle.symm
theorem exp_zero {c : Cx} {env : Env} {T : List Str} {vs : List (Option Value)} {s : Shared} {ls : Addr} {kvs lkvs : List (Int × Value)} {t : Tok} {r : Led} (w : W c env T vs ((ls, IsLs []) :: (houseH wd H n t 0 ti u kvs lkvs ++ (r ++ cx))) s) :
    W c env T vs ((ls, IsLs (([] : List Addr).map .ref)) :: (houseH wd H (n - (([] : List HR).length : Int)) t 0 ti u kvs lkvs ++ (r ++ (tupL [] [] ++ cx)))) s := by
  rw [show n - (([] : List HR).length : Int) = n by simp]
  exact w
set_option maxHeartbeats 4000000 in
theorem con_expire (I : HInv H.root st (xs ++ ys)) (hx : AllDue h xs) (hy : NoneDue h ys) (hz : (xs ++ ys).length ≤ 900) (hf : Has H.f (IsFnObj fd) cx) (hsp : Spec wd 5 (call (.ref H.f) []) cx (fun r l => r = .int h th ∧ l = cx)) :
    Spec wd 9 (call (.ref 1387) [.ref H.self]) (houseH wd H n tn 0 ti u (hkv (xs ++ ys)) (hlv (xs ++ ys)) ++ (ringOf tls (H.root :: (xs ++ ys).map (·.a)) st ++ cx))
    (fun r l => ∃ ls tps st' t, tps.length = xs.length ∧ r = .ref ls ∧ HInv H.root st' ys ∧ l = (ls, IsLs (tps.map .ref)) :: (houseH wd H (n - xs.length) t 0 ti u (hkv ys) (hlv ys) ++ (ringOf tls (H.root :: ys.map (·.a)) st' ++ (tupL tps xs ++ cx)))) := by
  have K := cc_1404 wd
  have K1 := K.cls
  have K2 := K.short
  have hr : ∀ zs : List HR, H.root ∈ H.root :: zs.map (·.a) := fun _ => .head _
  refine spec_def (fn_1387 wd) (bd_1387_1 wd _) (bv_1387_1 _) ?_
  intro c A L s Q E bo rm sk hq w
  unfold houseH at w
  refine wpAny_execs_cons ?_
  repeat wtm_at "nyd6"
  refine r_prop_meth (n := 7) ‹W _ _ _ _ _ _› bo (rm.le (by decide)) sk (pr_1404_timer wd) (by wtm_at "hxd2") (by wtm_at "hxd2") (Pick.perm (by wtm_at "pkxd2")) (fun c A s bo rm bel o R h => con_ttl_timer (by wtm_at "gxd2") c A s bo (rm.le (by decide)) bel o R h) ?_
  rintro _ _ s2 ⟨rfl, rfl⟩ w2
  refine ⟨rfl, ?_⟩
  refine r_icall (fp := [_, _] ++ cx) (rest := [_, _, _, _] ++ ringOf tls (H.root :: (xs ++ ys).map (·.a)) st) w2 bo (rm.le (by decide)) sk (mt_1178_call wd) (by wtm_at "hxd2") (by wtm_at "hxd2") (perm4 [_, _, _, _] [_, _] _ _) (con_timer_call hf hsp) ?_
  rintro _ _ s3 ⟨rfl, rfl⟩ w3
  have w4 := w3.perm (perm4 [_, _, _, _] [_, _] _ _).symm
  clear w2 w3 w
  repeat wtm_at "nyd6"
  refine r_tl_next ‹W _ _ _ _ _ _› bo (.there (.there (.there (.there (.there (.there .hereA)))))) (hr _) ?_
  intro s1 w1
  rw [show (st H.root).nx = hdA H.root (xs ++ ys) from I.ch.first]
  cases xs with
  | nil =>
    have e0 : n - (([] : List HR).length : Int) = n := by simp
    cases ys with
    | nil =>
      repeat wtm_at "nyd6"
      refine r_is_self ?_
      repeat wtm_at "nyd6"
      exact hq _ _ _ ⟨_, [], st, tn, rfl, rfl, I, by rw [e0]; first | done | rfl⟩ (‹W _ _ _ _ _ _›).own
    | cons y ys =>
      have hya : y.a ∈ H.root :: ([] ++ y :: ys).map (fun x : HR => x.a) := .tail _ (.head _)
      have hne : y.a ≠ H.root := fun e => (List.nodup_cons.mp I.nd).1 (e ▸ .head _)
      have hlt : h < y.e := hy
      repeat wtm_at "nyd6"
      refine r_tl_is_other ‹W _ _ _ _ _ _› (.there (.there (.there (.there (.there (.there .hereA)))))) hya (hr _) hne ?_
      repeat wtm_at "nyd6"
      refine r_tl_expires ‹W _ _ _ _ _ _› bo (.there (.there (.there (.there (.there (.there .hereA)))))) hya (I.fld y (.head _)).2 rfl ?_
      intro s2 w2
      repeat wtm_at "nyd6"
      exact hq _ _ _ ⟨_, [], st, tn, rfl, rfl, I, by rw [e0]; first | done | rfl⟩ (‹W _ _ _ _ _ _›).own
  | cons x xs =>
    have hxa : x.a ∈ H.root :: (x :: xs ++ ys).map (·.a) := .tail _ (.head _)
    have hne : x.a ≠ H.root := fun e => (List.nodup_cons.mp I.nd).1 (e ▸ .head _)
    have hle : ¬ h < x.e := Int.not_lt.mpr (hx x (.head _))
    repeat wtm_at "nyd6"
    refine r_tl_is_other ‹W _ _ _ _ _ _› (.there (.there (.there (.there (.there (.there .hereA)))))) hxa (hr _) hne ?_
    repeat wtm_at "nyd6"
    refine r_tl_expires ‹W _ _ _ _ _ _› bo (.there (.there (.there (.there (.there (.there .hereA)))))) hxa (I.fld x (.head _)).2 rfl ?_
    intro s2 w2
    repeat wtm_at "nyd6"
    refine wpAny_While (codeAny_whileLoop (I := expInv wd H n h th ti u (x :: xs) ys cx c (callEnv (fdOf (o_1387 wd.params)) L 1387)) ?_ (x :: xs).length ?_)
    · intro k s5 ⟨done, zs, st', t, tps, ls, nx, e, ek, el, I', w⟩
      unfold houseH at w
      cases zs with
      | nil =>
        have e : x :: xs = done := by rw [e, List.append_nil]
        subst e
        cases ys with
        | nil =>
          repeat wtm_at "nyd6"
          refine r_isnot_self ?_
          repeat wtm_at "nyd6"
          exact hq _ _ _ ⟨ls, tps, st', t, el, rfl, I', rfl⟩ (‹W _ _ _ _ _ _›).own
        | cons y ys =>
          have hya : y.a ∈ H.root :: ([] ++ y :: ys).map (fun x : HR => x.a) := .tail _ (.head _)
          have hne : y.a ≠ H.root := fun e => (List.nodup_cons.mp I'.nd).1 (e ▸ .head _)
          have hlt : h < y.e := hy
          repeat wtm_at "nyd6"
          refine r_tl_isnot_other ‹W _ _ _ _ _ _› (.there (.there (.there (.there (.there (.there (.there .hereA))))))) hya (hr _) hne ?_
          repeat wtm_at "nyd6"
          refine r_tl_expires ‹W _ _ _ _ _ _› bo (.there (.there (.there (.there (.there (.there (.there .hereA))))))) hya (I'.fld y (.head _)).2 rfl ?_
          intro s2 w2
          repeat wtm_at "nyd6"
          refine if_f (by simpa using hlt) ?_
          repeat wtm_at "nyd6"
          exact hq _ _ _ ⟨ls, tps, st', t, el, rfl, I', rfl⟩ (‹W _ _ _ _ _ _›).own
      | cons z zs =>
        have hza : z.a ∈ H.root :: (z :: zs ++ ys).map (·.a) := .tail _ (.head _)
        have hne : z.a ≠ H.root := fun e => (List.nodup_cons.mp I'.nd).1 (e ▸ .head _)
        have hle : ¬ h < z.e := Int.not_lt.mpr (hx z (by rw [e]; exact List.mem_append_right _ (.head _)))
        have hkz : valueAt (hkv (z :: zs ++ ys)) z.g = some z.v := valueAt_head
        have hkz' : (valueAt (hkv (z :: zs ++ ys)) z.g).isSome = true := by rw [hkz]; rfl
        have hlz : (valueAt (hlv (z :: zs ++ ys)) z.g).isSome = true := by rw [show valueAt (hlv (z :: zs ++ ys)) z.g = some (.ref z.a) from valueAt_head]; rfl
        have hlen : (x :: xs).length + ys.length ≤ 900 := by rw [← List.length_append]; exact hz
        have hlen2 : done.length + (zs.length + 1) + ys.length ≤ 900 := by
          rw [e, List.length_append] at hlen
          exact hlen
        have hk9 : (hkv (z :: zs ++ ys)).length ≤ 900 := by unfold hkv; rw [List.length_map, List.length_append]; show zs.length + 1 + ys.length ≤ 900; omega
        have hl9 : (hlv (z :: zs ++ ys)).length ≤ 900 := by unfold hlv; rw [List.length_map, List.length_append]; show zs.length + 1 + ys.length ≤ 900; omega
        have ht9 : (tps.map Value.ref).length ≤ 900 := by rw [List.length_map]; omega
        rw [show hdA H.root (z :: zs ++ ys) = z.a from rfl] at w
        repeat wtm_at "nyd6"
        refine r_tl_isnot_other ‹W _ _ _ _ _ _› (.there (.there (.there (.there (.there (.there (.there .hereA))))))) hza (hr _) hne ?_
        repeat wtm_at "nyd6"
        refine r_tl_expires ‹W _ _ _ _ _ _› bo (.there (.there (.there (.there (.there (.there (.there .hereA))))))) hza (I'.fld z (.head _)).2 rfl ?_
        intro s6 w6
        repeat wtm_at "nyd6"
        refine if_t (by simpa using hle) ?_
        repeat wtm_at "nyd6"
        refine r_tl_key ‹W _ _ _ _ _ _› bo (.there (.there (.there (.there (.there (.there (.there .hereA))))))) hza (I'.fld z (.head _)).1 rfl ?_
        intro s7 w7
        repeat wtm_at "nyd6"
        refine r_tl_key ‹W _ _ _ _ _ _› bo (.there (.there (.there (.there (.there (.there (.there .hereA))))))) hza (I'.fld z (.head _)).1 rfl ?_
        intro s8 w8
        repeat wtm_at "nyd6"
        refine (‹W _ _ _ _ _ _›).use bo (rm.le (by decide)) sk (by wtm_at "pkxd2") (con_getitem K (by wtm_at "gxd2") hkz) ?_
        rintro _ _ s9 ⟨rfl, rfl⟩ w9
        repeat wtm_at "nyd6"
        refine r_tl_key ‹W _ _ _ _ _ _› bo (.there (.there (.there (.there (.there (.there (.there (.there .hereA)))))))) hza (I'.fld z (.head _)).1 rfl ?_
        intro s10 w10
        repeat wtm_at "nyd6"
        refine (‹W _ _ _ _ _ _›).use bo (rm.le (by decide)) sk (by wtm_at "pkxd2") (con_delitem K (by wtm_at "gxd2") (by wtm_at "gxd2") (fun t => by wtm_at "lsxd2") (fun t => by simp) hkz' hk9) ?_
        rintro _ _ s11 ⟨rfl, t2, rfl⟩ w11
        repeat wtm_at "nyd6"
        refine r_tl_key ‹W _ _ _ _ _ _› bo (.there (.there (.there (.there (.there (.there (.there (.there .hereA)))))))) hza (I'.fld z (.head _)).1 rfl ?_
        intro s12 w12
        repeat wtm_at "nyd6"
        refine r_tl_next ‹W _ _ _ _ _ _› bo (.there (.there (.there (.there (.there (.there (.there (.there .hereA)))))))) hza ?_
        intro s13 w13
        repeat wtm_at "nyd6"
        refine r_tl_unlink ‹W _ _ _ _ _ _› bo (.there (.there (.there (.there (.there (.there (.there (.there .hereA)))))))) hza (ulg_1312 wd) (ul_1312 wd) (ulf_1312 wd) ?_
        repeat wtm_at "nyd6"
        have hnx : (st' z.a).nx = hdA H.root (zs ++ ys) := I'.ch.2.2.first
        have hnm : (st' z.a).nx ∈ H.root :: (z :: zs ++ ys).map (·.a) := by
          rw [hnx]
          have := headD_mem (l := (zs ++ ys).map (·.a)) (r := H.root)
          rcases List.mem_append.mp this with q | q
          · exact .tail _ (.tail _ q)
          · rw [show hdA H.root (zs ++ ys) = H.root from List.mem_singleton.mp q]; exact .head _
        refine (‹W _ _ _ _ _ _›).useP (fp := ringOf tls (H.root :: (z :: zs ++ ys).map (·.a)) st') (rest := [_, _, _, _, _, _, _, _] ++ (tupL tps done ++ cx)) bo (rm.le (by decide)) sk (List.perm_append_comm_assoc [_, _, _, _, _, _, _, _] _ _) (con_tl_unlink hza (hr _) hnm rfl (show (st' z.a).pv = H.root from I'.ch.2.1) I'.nd) ?_
        rintro _ _ s14 ⟨rfl, rfl⟩ w14
        have w15 := w14.perm (List.perm_append_comm_assoc _ [_, _, _, _, _, _, _, _] _)
        clear w14
        repeat wtm_at "nyd6"
        have w16 := ‹W _ _ _ _ _ _›
        have w17 := w16.picks (fp := [(ls, _), (H.self, _), (H.dx, _), (H.dd, _), (H.ld, _), (H.tx, _), (H.tdx, _), (_, _)]) (by wtm_at "pkxd2")
        clear w15 w16
        rw [hnx, show hkv (z :: zs ++ ys) = (z.g, z.v) :: hkv (zs ++ ys) from rfl, show hlv (z :: zs ++ ys) = (z.g, .ref z.a) :: hlv (zs ++ ys) from rfl, without_head (by rw [hkv_keys]; exact I'.zg), without_head (by rw [hlv_keys]; exact I'.zg)] at w17
        refine ⟨zs.length, by rw [← ek]; exact Nat.lt_succ_self _, done ++ [z], zs, tunl st' H.root (hdA H.root (zs ++ ys)), t2, tps ++ [_], ls, _, by rw [e, List.append_assoc]; rfl, rfl, by rw [List.length_append, List.length_append, el]; rfl, hnx ▸ I'.pop, exp_end el w17⟩
    · exact ⟨[], x :: xs, st, tn, [], _, none, rfl, rfl, rfl, I, exp_zero ‹W _ _ _ _ _ _›⟩
end

theorem W.neq {c : Cx} {env : Env} {T : List Str} {vs : List (Option Value)} {s : Shared} {a b : Addr} {P P' : Obj → Prop} {post : Led} (w : W c env T vs ((a, P) :: post) s) (h : Has b P' post) : a ≠ b := fun e => by
  have nd := w.own.nd
  rw [List.cons_append, List.map_cons, List.nodup_cons] at nd
  exact nd.1 (by rw [e]; exact List.mem_map_of_mem (f := (·.1)) (List.mem_append_left _ h.mem))
theorem stored_new {kvs : List (Int × Value)} {k : Int} (v : Value) (h : k ∉ kvs.map (·.1)) : stored kvs k v = kvs ++ [(k, v)] := stored_absent (valueAt_none_of_not_mem h) v
def tins (st : Addr → TLk) (p root x : Addr) (L : TLk) : Addr → TLk := upd (upd (upd st p { st p with nx := x }) root { (upd st p { st p with nx := x }) root with pv := x }) x L
theorem tins_k {st : Addr → TLk} {p root x b : Addr} {L : TLk} (h : b ≠ x) : (tins st p root x L b).k = (st b).k ∧ (tins st p root x L b).e = (st b).e := by
  unfold tins
  rw [upd_ne h]
  by_cases h : b = root
  · subst h
    rw [upd_self]
    by_cases h2 : b = p
    · subst h2; rw [upd_self]; exact ⟨rfl, rfl⟩
    · rw [upd_ne h2]; exact ⟨rfl, rfl⟩
  · rw [upd_ne h]
    by_cases h2 : b = p
    · subst h2; rw [upd_self]; exact ⟨rfl, rfl⟩
    · rw [upd_ne h2]; exact ⟨rfl, rfl⟩
theorem tins_nx {st : Addr → TLk} {p root x b : Addr} {L : TLk} : (tins st p root x L b).nx = if b = x then L.nx else if b = p then x else (st b).nx := by
  unfold tins
  by_cases h0 : b = x
  · subst h0; rw [upd_self, if_pos rfl]
  · rw [upd_ne h0, if_neg h0]
    by_cases h : b = root
    · subst h
      rw [upd_self]
      by_cases h2 : b = p
      · subst h2; rw [upd_self, if_pos rfl]
      · rw [upd_ne h2, if_neg h2]
    · rw [upd_ne h]
      by_cases h2 : b = p
      · subst h2; rw [upd_self, if_pos rfl]
      · rw [upd_ne h2, if_neg h2]
theorem tins_pv {st : Addr → TLk} {p root x b : Addr} {L : TLk} : (tins st p root x L b).pv = if b = x then L.pv else if b = root then x else (st b).pv := by
  unfold tins
  by_cases h0 : b = x
  · subst h0; rw [upd_self, if_pos rfl]
  · rw [upd_ne h0, if_neg h0]
    by_cases h : b = root
    · subst h
      rw [upd_self, if_pos rfl]
    · rw [upd_ne h, if_neg h]
      by_cases h2 : b = p
      · subst h2; rw [upd_self]
      · rw [upd_ne h2]
theorem HInv.push {root : Addr} {st : Addr → TLk} {z : HR} {hs : List HR} {p dxx : Addr} (I : HInv root st hs) (hx : z.a ∉ root :: hs.map (·.a)) (hg : z.g ∉ hs.map (·.g)) (hp : p = (st root).pv) :
    HInv root (tins st p root z.a ⟨dxx, .int z.e z.te, .int z.g z.tg, root, p⟩) (hs ++ [z]) := by
  have hl : p = (hs.map (·.a)).getLastD root := hp.trans I.ch.last
  have em : (hs ++ [z]).map (·.a) = hs.map (·.a) ++ [z.a] := by rw [List.map_append]; rfl
  have hrz : z.a ≠ root := fun e => hx (by rw [e]; exact .head _)
  have nd1 := List.nodup_cons.mp I.nd
  refine ⟨?_, ?_, fun h hh => ?_, ?_⟩
  · rw [em]
    show ((root :: hs.map (·.a)) ++ [z.a]).Nodup
    rw [List.nodup_append]
    refine ⟨I.nd, List.nodup_cons.mpr ⟨List.not_mem_nil, List.nodup_nil⟩, fun a ha b hb e => ?_⟩
    rw [List.mem_singleton.mp hb] at e
    exact hx (e ▸ ha)
  · rw [em]
    refine Ch.insert (nx := fun a => (st a).nx) (pv := fun a => (st a).pv) (l1 := hs.map (·.a)) (l2 := []) (by rw [List.append_nil]; exact I.nd) (by rw [List.append_nil]; exact nd1.1) (by rw [List.append_nil]; exact I.ch) (by rw [List.append_nil]; exact hx) hrz (fun b => ?_) fun b => ?_
    · rw [tins_nx, hl]; rfl
    · rw [tins_pv, hl]; rfl
  · rcases List.mem_append.mp hh with q | q
    · have : h.a ≠ z.a := fun e => hx (by rw [← e]; exact .tail _ (List.mem_map_of_mem q))
      rw [(tins_k this).1, (tins_k this).2]
      exact I.fld h q
    · rw [List.mem_singleton.mp q]
      unfold tins
      rw [upd_self]
      exact ⟨rfl, rfl⟩
  · rw [List.map_append, List.nodup_append]
    refine ⟨I.ndg, List.nodup_cons.mpr ⟨List.not_mem_nil, List.nodup_nil⟩, fun a ha b hb e => ?_⟩
    have hb' : b = z.g := List.mem_singleton.mp hb
    rw [hb'] at e
    exact hg (e ▸ ha)
section
variable {wd : World} {H : HA} {n h g : Int} {tn th ti tg : Tok} {u : Option Value} {v : Value} {hs : List HR} {st : Addr → TLk} {cx : Led} {fd : FuncData}
theorem house_set_end {c : Cx} {env : Env} {T : List Str} {vs : List (Option Value)} {s : Shared} {x dxx : Addr} {te t8 t9 : Tok} {Q : Value → Shared → Prop} (I : HInv H.root st hs) (hxn : ∀ b ∈ H.root :: hs.map (·.a), x ≠ b) (hg : g ∉ hs.map (·.g))
    (hq : ∀ (r : Value) (l : Led) (s : Shared), (r = .none ∧ ∃ (st' : Addr → TLk) (t t' : Tok) (x : Addr) (te : Tok), HInv H.root st' (hs ++ [⟨x, g, tg, h + H.S, te, v⟩]) ∧ l = houseH wd H (n + 1) t 0 t' (some (.int h th)) (hkv (hs ++ [⟨x, g, tg, h + H.S, te, v⟩])) (hlv (hs ++ [⟨x, g, tg, h + H.S, te, v⟩])) ++ (ringOf tls (H.root :: (hs ++ [(⟨x, g, tg, h + H.S, te, v⟩ : HR)]).map (·.a)) st' ++ cx)) → Own c l s → Q r s)
    (w : W c env T vs ([(H.self, IsInst 1404 H.dx), (H.dx, IsNs T5 [some (.ref H.dd), some (.int (n + 1) t8), some (.int H.m H.tm), some (.ref H.tx), some (.ref H.root), some (.ref H.ld), some (.int H.S H.ts)]), (H.dd, IsD wd (hkv hs ++ [(g, v)])), (H.ld, IsD wd (hlv hs ++ [(g, .ref x)])), (H.tx, IsInst 1178 H.tdx), (H.tdx, IsNs Tt [some (.ref H.f), some (.int 0 t9), some (.int h th)]),
      (x, IsSl 1312 dxx [some (.int (h + H.S) te), some (.int g tg), some (.ref H.root), some (.ref (st H.root).pv)]), (dxx, IsNs [] [])] ++ (ringOf tls (H.root :: hs.map (·.a)) (upd (upd st (st H.root).pv { st (st H.root).pv with nx := x }) H.root { (upd st (st H.root).pv { st (st H.root).pv with nx := x }) H.root with pv := x }) ++ cx)) s) : Q .none s := by
  let z : HR := ⟨x, g, tg, h + H.S, te, v⟩
  have I' := I.push (z := z) (p := (st H.root).pv) (dxx := dxx) (fun hm => hxn x hm rfl) hg rfl
  refine hq .none _ s ⟨rfl, _, t8, t9, x, te, I', rfl⟩ ?_
  have e1 : hkv (hs ++ [z]) = hkv hs ++ [(g, v)] := by unfold hkv; rw [List.map_append]; rfl
  have e2 : hlv (hs ++ [z]) = hlv hs ++ [(g, .ref x)] := by unfold hlv; rw [List.map_append]; rfl
  rw [e1, e2]
  generalize hst : upd (upd st (st H.root).pv { st (st H.root).pv with nx := x }) H.root { (upd st (st H.root).pv { st (st H.root).pv with nx := x }) H.root with pv := x } = st2 at w
  have hst' : tins st (st H.root).pv H.root x ⟨dxx, .int (h + H.S) te, .int g tg, H.root, (st H.root).pv⟩ = upd st2 x ⟨dxx, .int (h + H.S) te, .int g tg, H.root, (st H.root).pv⟩ := by rw [← hst]; rfl
  show Own c (_ ++ (ringOf tls _ (tins st (st H.root).pv H.root x ⟨dxx, .int (h + H.S) te, .int g tg, H.root, (st H.root).pv⟩) ++ cx)) s
  rw [hst']
  have ec : ringOf tls (H.root :: hs.map (·.a)) st2 = ringOf tls (H.root :: hs.map (·.a)) (upd st2 x ⟨dxx, .int (h + H.S) te, .int g tg, H.root, (st H.root).pv⟩) := ring_congr fun b hb => (upd_ne fun e => hxn b hb e.symm).symm
  rw [ec] at w
  have em : (hs ++ [z]).map (·.a) = hs.map (·.a) ++ [x] := by rw [List.map_append]; rfl
  have e3 : (ringOf tls (H.root :: (hs ++ [z]).map (·.a)) (upd st2 x ⟨dxx, .int (h + H.S) te, .int g tg, H.root, (st H.root).pv⟩)) = ringOf tls (H.root :: hs.map (·.a)) (upd st2 x ⟨dxx, .int (h + H.S) te, .int g tg, H.root, (st H.root).pv⟩) ++ ([(x, IsSl 1312 dxx [some (.int (h + H.S) te), some (.int g tg), some (.ref H.root), some (.ref (st H.root).pv)]), (dxx, IsNs [] [])] : Led) := by
    rw [em]
    unfold ringOf
    rw [← List.cons_append, List.flatMap_append]
    show _ ++ (tls (upd st2 x _ x) x ++ []) = _
    rw [upd_self, List.append_nil]
    rfl
  refine (w.perm ?_).own
  rw [e3]
  have p : ∀ (a r cx : Led), (a ++ (r ++ cx)).Perm ((r ++ a) ++ cx) := fun a r cx => by
    rw [← List.append_assoc]
    exact List.perm_append_comm.append_right cx
  exact (p [(x, _), (dxx, _)] _ cx).append_left [_, _, _, _, _, _]
set_option maxHeartbeats 4000000 in
theorem con_house_set (I : HInv H.root st hs) (hd : NoneDue h hs) (hg : g ∉ hs.map (·.g)) (h1 : n + 1 ≤ H.m) (h2 : 1 ≤ H.m) (hz : hs.length ≤ 900) (hf : Has H.f (IsFnObj fd) cx) (hsp : Spec wd 5 (call (.ref H.f) []) cx (fun r l => r = .int h th ∧ l = cx)) :
    Spec wd 9 (call (.ref 1349) [.ref H.self, .int g tg, v]) (houseH wd H n tn 0 ti u (hkv hs) (hlv hs) ++ (ringOf tls (H.root :: hs.map (·.a)) st ++ cx))
    (fun r l => r = .none ∧ ∃ (st' : Addr → TLk) (t t' : Tok) (x : Addr) (te : Tok), HInv H.root st' (hs ++ [⟨x, g, tg, h + H.S, te, v⟩]) ∧ l = houseH wd H (n + 1) t 0 t' (some (.int h th)) (hkv (hs ++ [⟨x, g, tg, h + H.S, te, v⟩])) (hlv (hs ++ [⟨x, g, tg, h + H.S, te, v⟩])) ++ (ringOf tls (H.root :: (hs ++ [(⟨x, g, tg, h + H.S, te, v⟩ : HR)]).map (·.a)) st' ++ cx)) := by
  have K := cc_1404 wd
  have K1 := K.cls
  have K2 := K.short
  have hr : ∀ zs : List HR, H.root ∈ H.root :: zs.map (·.a) := fun _ => .head _
  have hgk : g ∉ (hkv hs).map (·.1) := by rw [hkv_keys]; exact hg
  have hgl : g ∉ (hlv hs).map (·.1) := by rw [hlv_keys]; exact hg
  have hv0 : valueAt (hkv hs) g = none := valueAt_none_of_not_mem hgk
  have hl0 : valueAt (hlv hs) g = none := valueAt_none_of_not_mem hgl
  have hk9 : (hkv hs).length ≤ 900 := by unfold hkv; rw [List.length_map]; exact hz
  have hl9 : (hlv hs).length ≤ 900 := by unfold hlv; rw [List.length_map]; exact hz
  refine spec_def (fn_1349 wd) (bd_1349_3 wd _ _ _) (bv_1349_3 _ _ _) ?_
  intro c A L s Q E bo rm sk hq w
  unfold houseH at w
  refine wpAny_execs_cons ?_
  repeat wtm_at "sxd2"
  refine r_prop (n := 7) ‹W _ _ _ _ _ _› bo (rm.le (by decide)) sk (pr_1404_timer wd) (by wtm_at "hxd2") (by wtm_at "hxd2") (Pick.perm (by wtm_at "pkxd2")) (fun c A s bo rm bel o R h => con_ttl_timer (by wtm_at "gxd2") c A s bo (rm.le (by decide)) bel o R h) ?_
  rintro _ _ s2 ⟨rfl, rfl⟩ w2
  refine ⟨rfl, ?_⟩
  refine r_kwin w2 bo (mt_1178_enter wd) (mt_1178_exit wd) (by wtm_at "hxd2") (by wtm_at "hxd2") ?_
  refine w2.useP (fp := [_, _] ++ cx) (rest := [_, _, _, _] ++ ringOf tls (H.root :: hs.map (·.a)) st) bo (rm.le (by decide)) sk (perm4 [_, _, _, _] [_, _] _ _) (con_timer_enter hf hsp) ?_
  rintro _ _ s3 ⟨rfl, t3, rfl⟩ w3
  have w4 := w3.perm (perm4 [_, _, _, _] [_, _] _ _).symm
  clear w2 w3 w
  repeat wtm_at "sxd2"
  refine r_method ‹W _ _ _ _ _ _› bo K (mt_1404_expire wd) (by wtm_at "hxd2") (by wtm_at "hxd2") (by decide) ?_
  repeat wtm_at "sxd2"
  have w5 := ‹W _ _ _ _ _ _›
  refine (w5.perm (l' := (houseH wd H n tn 1 t3 (some (.int h th)) (hkv hs) (hlv hs) ++ ringOf tls (H.root :: hs.map (·.a)) st) ++ cx) (by rw [List.append_assoc]; exact .refl _)).useP (fp := houseH wd H n tn 1 t3 (some (.int h th)) (hkv hs) (hlv hs) ++ ringOf tls (H.root :: hs.map (·.a)) st) (rest := cx) bo (rm.le (by decide)) sk (.refl _) (con_expire_none I hd) ?_
  rintro _ _ s6 ⟨ls, rfl, rfl⟩ w6
  have w7 := (w6.sub (l' := (houseH wd H n tn 1 t3 (some (.int h th)) (hkv hs) (hlv hs) ++ ringOf tls (H.root :: hs.map (·.a)) st) ++ cx) (List.sublist_cons_self _ _)).perm (l' := houseH wd H n tn 1 t3 (some (.int h th)) (hkv hs) (hlv hs) ++ (ringOf tls (H.root :: hs.map (·.a)) st ++ cx)) (by rw [List.append_assoc])
  unfold houseH at w7
  clear w5 w6
  repeat wtm_at "sxd2"
  refine (‹W _ _ _ _ _ _›).use bo (rm.le (by decide)) sk (by wtm_at "pkxd2") (con_setitem K (by wtm_at "gxd2") (by wtm_at "gxd2") (by wtm_at "gxd2") (fun t => by wtm_at "lsxd2") (fun t => by simp) hv0 h1 h2 hk9) ?_
  rintro _ _ s8 ⟨rfl, t8, rfl⟩ w8
  repeat wtm_at "sxd2"
  refine (‹W _ _ _ _ _ _›).use bo (rm.le (by decide)) sk (by wtm_at "pkxd2") con_timer_exit ?_
  rintro _ _ s9 ⟨t9, rfl⟩ w9
  repeat wtm_at "sxd2"
  refine r_dgetm ‹W _ _ _ _ _ _› bo (by wtm_at "hxd2") none hl0 ?_
  intro s10 w10
  repeat wtm_at "sxd2"
  refine r_clsmeth (cv_1404_Link wd) ‹W _ _ _ _ _ _› bo ?_
  intro s5 w5
  repeat wtm_at "sxd2"
  refine r_make (T' := []) (post := fun x dxx r l => r = .none ∧ l = [(x, IsSl 1312 dxx [some .none, some (.int g tg), none, none]), (dxx, IsNs [] [])]) (n := 3) ‹W _ _ _ _ _ _› bo (rm.le (by decide)) sk (mk_1312 wd) (init_1312 wd) (ty_1294 wd) (fun x dxx => con_tl_init _ (bd_1294_2 wd _ _)) ?_
  rintro x dxx _ _ s6 ⟨rfl, rfl⟩ w6
  refine ⟨rfl, ?_⟩
  have hxn : ∀ b ∈ H.root :: hs.map (·.a), x ≠ b := fun b hb => w6.neq (.tail (.tail (.tail (.tail (.tail (.tail (.tail (Has.pre (x := []) (Has.app (ring_has (f := tls) hb .head))))))))))
  have hpm : (st H.root).pv ∈ H.root :: hs.map (·.a) := by rw [show (st H.root).pv = _ from I.ch.last]; exact getLastD_mem
  repeat wtm_at "sxd2"
  refine r_setslot ‹W _ _ _ _ _ _› bo (sl_expires wd) rfl (by wtm_at "hxd2") (by wtm_at "uxd2") ?_
  intro s11 w11
  repeat wtm_at "sxd2"
  refine r_setslot ‹W _ _ _ _ _ _› bo (sl_next' wd) rfl (by wtm_at "hxd2") (by wtm_at "uxd2") ?_
  intro s12 w12
  repeat wtm_at "sxd2"
  refine r_tl_prev ‹W _ _ _ _ _ _› bo (.there (.there (.there (.there (.there (.there (.there (.there .hereA)))))))) (hr _) ?_
  intro s13 w13
  repeat wtm_at "sxd2"
  refine r_setslot ‹W _ _ _ _ _ _› bo (sl_prev' wd) rfl (by wtm_at "hxd2") (by wtm_at "uxd2") ?_
  intro s14 w14
  repeat wtm_at "sxd2"
  refine r_tl_setnext ‹W _ _ _ _ _ _› bo (.there (.there (.there (.there (.there (.there (.there (.there .hereA)))))))) (.there (.there (.there (.there (.there (.there (.there (.there .hereA)))))))) I.nd hpm ?_
  intro s15 w15
  repeat wtm_at "sxd2"
  refine r_tl_setprev ‹W _ _ _ _ _ _› bo (.there (.there (.there (.there (.there (.there (.there (.there .hereA)))))))) (.there (.there (.there (.there (.there (.there (.there (.there .hereA)))))))) I.nd (hr _) ?_
  intro s16 w16
  repeat wtm_at "sxd2"
  have w17 := ‹W _ _ _ _ _ _›
  have w18 := w17.picks (fp := [(H.self, _), (H.dx, _), (H.dd, _), (H.ld, _), (H.tx, _), (H.tdx, _), (x, _), (dxx, _)]) (by wtm_at "pkxd2")
  rw [stored_new _ hgk, stored_new _ hgl] at w18
  exact house_set_end I hxn hg hq w18
end

section
variable {wd : World} {self dx f : Addr} {m S : Int} {tm ts : Tok}
theorem con_timed_init (hm : 0 ≤ m) : SpecC wd 7 1190 [.ref self, .int m tm, .ref f, .none] [(self, IsInst 1404 dx), (dx, IsNs T5 (T5.map fun _ => none))]
    (fun r l => r = .none ∧ ∃ (dd tx tdx : Addr) (t ti : Tok), l = [(self, IsInst 1404 dx), (dx, IsNs T5 [some (.ref dd), some (.int 0 t), some (.int m tm), some (.ref tx), none, none, none]), (dd, IsD wd []), (tx, IsInst 1178 tdx), (tdx, IsNs Tt [some (.ref f), some (.int 0 ti), none])]) := by
  have K := cc_1404 wd
  have K1 := K.cls
  have K2 := K.short
  refine spec_defC (fn_1190 wd) (bd_1190_4 wd _ _ _ _) (bv_1190_4 _ _ _ _) ?_
  intro c A L s Q E bo rm sk hq w
  refine wpAny_execs_cons ?_
  repeat wtm_at "sxd2"
  refine (‹W _ _ _ _ _ _›).use bo (rm.le (by decide)) sk (by wtm_at "pkxd2") (con_initC K (gz_1404 wd) (by decide) (fun d => by wtm_at "lsxd2") (fun d t => by wtm_at "lsxd2") (fun d t => by wtm_at "lsxd2") (fun d => by simp) (fun d t => by simp) (fun d t => by simp) hm (bd_728_3 wd _ _ _)).spec ?_
  rintro _ _ s2 ⟨rfl, dd, t, rfl⟩ w2
  repeat wtm_at "sxd2"
  refine r_clsmeth (cv_1262_Timer wd) ‹W _ _ _ _ _ _› bo ?_
  intro s5 w5
  repeat wtm_at "sxd2"
  refine r_make (T' := Tt) (post := fun x dxx r l => r = .none ∧ ∃ t, l = [(x, IsInst 1178 dxx), (dxx, IsNs Tt [some (.ref f), some (.int 0 t), none])]) (n := 3) ‹W _ _ _ _ _ _› bo (rm.le (by decide)) sk (mk_1178 wd) (init_1178 wd) (ty_1140 wd) (fun x dxx => con_timer_init) ?_
  rintro x dxx _ _ s6 ⟨rfl, ti, rfl⟩ w6
  refine ⟨rfl, ?_⟩
  repeat wtm_at "sxd2"
  have w9 := ‹W _ _ _ _ _ _›
  have w10 := w9.picks (fp := [(self, _), (dx, _), (dd, _), (x, _), (dxx, _)]) (by wtm_at "pkxd2")
  exact hq .none _ _ ⟨rfl, dd, x, dxx, t, ti, rfl⟩ w10.own
theorem con_house_init (hm : 0 ≤ m) : SpecC wd 9 1326 [.ref self, .int m tm, .int S ts, .ref f] [(self, IsInst 1404 dx), (dx, IsNs T5 (T5.map fun _ => none))]
    (fun r l => r = .none ∧ ∃ (dd tx tdx ld root : Addr) (t ti : Tok) (st : Addr → TLk), HInv root st [] ∧ l = houseH wd ⟨self, dx, dd, tx, tdx, ld, root, f, m, tm, S, ts⟩ 0 t 0 ti none [] [] ++ ringOf tls [root] st) := by
  have K := cc_1404 wd
  have K1 := K.cls
  have K2 := K.short
  refine spec_defC (fn_1326 wd) (bd_1326_4 wd _ _ _ _) (bv_1326_4 _ _ _ _) ?_
  intro c A L s Q E bo rm sk hq w
  refine wpAny_execs_cons ?_
  repeat wtm_at "sxd2"
  refine r_clsmeth (cv_1262_init wd) ‹W _ _ _ _ _ _› bo ?_
  intro s1 w1
  repeat wtm_at "sxd2"
  refine (‹W _ _ _ _ _ _›).use bo (rm.le (by decide)) sk (by wtm_at "pkxd2") (con_timed_init hm).spec ?_
  rintro _ _ s2 ⟨rfl, dd, tx, tdx, t, ti, rfl⟩ w2
  repeat wtm_at "sxd2"
  refine r_clsmeth (cv_1404_Link wd) ‹W _ _ _ _ _ _› bo ?_
  intro s5 w5
  repeat wtm_at "sxd2"
  refine r_make (T' := []) (post := fun x dxx r l => r = .none ∧ l = [(x, IsSl 1312 dxx [some .none, some .none, none, none]), (dxx, IsNs [] [])]) (n := 3) ‹W _ _ _ _ _ _› bo (rm.le (by decide)) sk (mk_1312 wd) (init_1312 wd) (ty_1294 wd) (fun x dxx => con_tl_init _ (bd_1294_1 wd _)) ?_
  rintro x dxx _ _ s6 ⟨rfl, rfl⟩ w6
  refine ⟨rfl, ?_⟩
  repeat wtm_at "sxd2"
  refine r_setslot ‹W _ _ _ _ _ _› bo (sl_prev' wd) rfl (by wtm_at "hxd2") (by wtm_at "uxd2") ?_
  intro s8 w8
  repeat wtm_at "sxd2"
  refine r_setslot ‹W _ _ _ _ _ _› bo (sl_next' wd) rfl (by wtm_at "hxd2") (by wtm_at "uxd2") ?_
  intro s9 w9
  repeat wtm_at "sxd2"
  rename_i ld s10 w10 s11 w11 s12 w12
  have w13 := w12.picks (fp := [(self, _), (dx, _), (dd, _), (ld, _), (tx, _), (tdx, _), (x, _), (dxx, _)]) (by wtm_at "pkxd2")
  refine hq .none _ _ ⟨rfl, dd, tx, tdx, ld, x, t, ti, fun _ => ⟨dxx, .none, .none, x, x⟩, ⟨List.nodup_cons.mpr ⟨List.not_mem_nil, List.nodup_nil⟩, ⟨rfl, rfl⟩, fun h hh => absurd hh List.not_mem_nil, List.nodup_nil⟩, rfl⟩ w13.own
end

abbrev T1 : List Str := ["_Cache__data", "_Cache__currsize", "_Cache__maxsize", "_FIFOCache__order"]
theorem cc_896 (wd : World) : Cc wd 896 T1 := ⟨⟨by kernel_rfl⟩, by kernel_rfl, by kernel_rfl, by kernel_rfl, by decide, by decide⟩
def fifo (wd : World) (self dx dd od : Addr) (n m : Int) (tn tm : Tok) (kvs okvs : List (Int × Value)) : Led :=
  [(self, IsInst 896 dx), (dx, IsNs T1 [some (.ref dd), some (.int n tn), some (.int m tm), some (.ref od)]), (dd, IsD wd kvs), (od, IsD wd okvs)]
section
variable {wd : World} {dx dd od self : Addr} {n m : Int} {tn tm : Tok} {kvs okvs : List (Int × Value)} {k : Int} {tk : Tok} {v : Value}
theorem con_fifo_set (hv : valueAt kvs k = none) (ho : valueAt okvs k = none) (h1 : n + 1 ≤ m) (h2 : 1 ≤ m) (hz : kvs.length ≤ 900) (hz2 : okvs.length ≤ 900) :
    Spec wd 7 (call (.ref 871) [.ref self, .int k tk, v]) (fifo wd self dx dd od n m tn tm kvs okvs) (fun r l => r = .none ∧ ∃ t, l = fifo wd self dx dd od (n + 1) m t tm (stored kvs k v) (stored okvs k .none)) := by
  have K := cc_896 wd
  have K1 := K.cls
  have K2 := K.short
  have hb : (valueAt okvs k).isSome = false := by rw [ho]; rfl
  refine spec_def (fn_871 wd) (bd_871_3 wd _ _ _) (bv_871_3 _ _ _) ?_
  intro c A L s Q E bo rm sk hq w
  unfold fifo at w
  refine wpAny_execs_cons ?_
  repeat wtm_at "sxd2"
  refine (‹W _ _ _ _ _ _›).use bo (rm.le (by decide)) sk (by wtm_at "pkxd2") (con_setitem K (by wtm_at "gxd2") (by wtm_at "gxd2") (by wtm_at "gxd2") (fun t => by wtm_at "lsxd2") (fun t => by simp) hv h1 h2 hz) ?_
  rintro _ _ s2 ⟨rfl, t, rfl⟩ w2
  repeat wtm_at "sxd2"
  exact hq _ _ _ ⟨rfl, t, rfl⟩ (‹W _ _ _ _ _ _›).own
theorem con_fifo_del (hv : (valueAt kvs k).isSome = true) (ho : (valueAt okvs k).isSome = true) (hz : kvs.length ≤ 900) (hz2 : okvs.length ≤ 900) :
    Spec wd 7 (call (.ref 879) [.ref self, .int k tk]) (fifo wd self dx dd od n m tn tm kvs okvs) (fun r l => r = .none ∧ ∃ t, l = fifo wd self dx dd od (n - 1) m t tm (without kvs k) (without okvs k)) := by
  have K := cc_896 wd
  have K1 := K.cls
  have K2 := K.short
  refine spec_def (fn_879 wd) (bd_879_2 wd _ _) (bv_879_2 _ _) ?_
  intro c A L s Q E bo rm sk hq w
  unfold fifo at w
  refine wpAny_execs_cons ?_
  repeat wtm_at "sxd2"
  refine (‹W _ _ _ _ _ _›).use bo (rm.le (by decide)) sk (by wtm_at "pkxd2") (con_delitem K (by wtm_at "gxd2") (by wtm_at "gxd2") (fun t => by wtm_at "lsxd2") (fun t => by simp) hv hz) ?_
  rintro _ _ s2 ⟨rfl, t, rfl⟩ w2
  repeat wtm_at "sxd2"
  exact hq _ _ _ ⟨rfl, t, rfl⟩ (‹W _ _ _ _ _ _›).own
end
section
variable {wd : World} {dx dd od self : Addr} {n m : Int} {tn tm : Tok} {kvs okvs : List (Int × Value)} {k : Int} {tk : Tok} {v u : Value}
theorem mt_896_delitem (wd : World) : Mt wd 896 "__delitem__" 879 := ⟨by kernel_rfl, by kernel_rfl, by kernel_rfl⟩
theorem con_fifo_pop (ho : okvs[0]? = some (k, u)) (hv : valueAt kvs k = some v) (hz : kvs.length ≤ 900) (hz2 : okvs.length ≤ 900) (hk : (valueAt okvs k).isSome = true) :
    Spec wd 9 (call (.ref 886) [.ref self]) (fifo wd self dx dd od n m tn tm kvs okvs) (fun r l => ∃ tp t tk, r = .ref tp ∧ l = (tp, IsTu [.int k tk, v]) :: fifo wd self dx dd od (n - 1) m t tm (without kvs k) (without okvs k)) := by
  have K := cc_896 wd
  have K1 := K.cls
  have K2 := K.short
  refine spec_def (fn_886 wd) (bd_886_1 wd _) (bv_886_1 _) ?_
  intro c A L s Q E bo rm sk hq w
  unfold fifo at w
  refine wpAny_execs_cons ?_
  refine r_try fun _ => ?_
  repeat wtm_at "sxd2"
  refine (‹W _ _ _ _ _ _›).use bo (rm.le (by decide)) sk (by wtm_at "pkxd2") (con_getitem K (by wtm_at "gxd2") hv) ?_
  rintro _ _ s2 ⟨rfl, rfl⟩ w2
  repeat wtm_at "sxd2"
  refine r_idelitem ‹W _ _ _ _ _ _› bo K (mt_896_delitem wd) (by wtm_at "hxd2") (by wtm_at "hxd2") ?_
  refine (‹W _ _ _ _ _ _›).use bo (rm.le (by decide)) sk (fp := fifo wd self dx dd od n m tn tm kvs okvs) (by unfold fifo; wtm_at "pkxd2") (con_fifo_del (by rw [hv]; rfl) hk hz hz2) ?_
  rintro _ _ s2 ⟨rfl, t, rfl⟩ w2
  unfold fifo at w2
  repeat wtm_at "sxd2"
  have w9 := ‹W _ _ _ _ _ _›
  exact hq _ _ _ ⟨_, t, _, rfl, rfl⟩ w9.own
end

section
variable {wd : World} {dx self : Addr} {m : Int} {tm : Tok}
theorem gz_896 (wd : World) : findIn (KF wd.params) (.ref 896) "getsizeof" = some (some (.ref 840)) := by kernel_rfl
theorem con_fifo_init (hm : 0 ≤ m) : SpecC wd 7 863 [.ref self, .int m tm] [(self, IsInst 896 dx), (dx, IsNs T1 (T1.map fun _ => none))]
    (fun r l => r = .none ∧ ∃ dd od t, l = (od, IsD wd []) :: (dd, IsD wd []) :: [(self, IsInst 896 dx), (dx, IsNs T1 [some (.ref dd), some (.int 0 t), some (.int m tm), some (.ref od)])]) := by
  have K := cc_896 wd
  have K1 := K.cls
  have K2 := K.short
  refine spec_defC (fn_863 wd) (bd_863_2 wd _ _) (bv_863_2 _ _) ?_
  intro c A L s Q E bo rm sk hq w
  refine wpAny_execs_cons ?_
  repeat wtm_at "sxd2"
  refine (‹W _ _ _ _ _ _›).use bo (rm.le (by decide)) sk (by wtm_at "pkxd2") (con_initC K (gz_896 wd) (by decide) (fun d => by wtm_at "lsxd2") (fun d t => by wtm_at "lsxd2") (fun d t => by wtm_at "lsxd2") (fun d => by simp) (fun d t => by simp) (fun d t => by simp) hm (bd_728_3 wd _ _ _)).spec ?_
  rintro _ _ s2 ⟨rfl, dd, t, rfl⟩ w2
  repeat wtm_at "sxd2"
  have w9 := ‹W _ _ _ _ _ _›
  exact hq _ _ _ ⟨rfl, dd, _, t, rfl⟩ w9.own
end

abbrev T2 : List Str := ["_Cache__data", "_Cache__currsize", "_Cache__maxsize", "_LRUCache__order"]
theorem cc_1058 (wd : World) : Cc wd 1058 T2 := ⟨⟨by kernel_rfl⟩, by kernel_rfl, by kernel_rfl, by kernel_rfl, by decide, by decide⟩
theorem gz_1058 (wd : World) : findIn (KF wd.params) (.ref 1058) "getsizeof" = some (some (.ref 840)) := by kernel_rfl
theorem mt_1058_delitem (wd : World) : Mt wd 1058 "__delitem__" 1034 := ⟨by kernel_rfl, by kernel_rfl, by kernel_rfl⟩
theorem mt_1058_touch (wd : World) : Mt wd 1058 "_LRUCache__touch" 1055 := ⟨by kernel_rfl, by kernel_rfl, by kernel_rfl⟩
def lru (wd : World) (self dx dd od : Addr) (n m : Int) (tn tm : Tok) (kvs okvs : List (Int × Value)) : Led :=
  [(self, IsInst 1058 dx), (dx, IsNs T2 [some (.ref dd), some (.int n tn), some (.int m tm), some (.ref od)]), (dd, IsD wd kvs), (od, IsD wd okvs)]
section
variable {wd : World} {dx dd od self : Addr} {n m : Int} {tn tm : Tok} {kvs okvs : List (Int × Value)} {k : Int} {tk : Tok} {v u : Value}
theorem con_lru_touch (ho : valueAt okvs k = none) (hz2 : okvs.length ≤ 900) :
    Spec wd 3 (call (.ref 1055) [.ref self, .int k tk]) (lru wd self dx dd od n m tn tm kvs okvs) (fun r l => r = .none ∧ l = lru wd self dx dd od n m tn tm kvs (stored okvs k .none)) := by
  have K := cc_1058 wd
  have K1 := K.cls
  have K2 := K.short
  refine spec_def (fn_1055 wd) (bd_1055_2 wd _ _) (bv_1055_2 _ _) ?_
  intro c A L s Q E bo rm sk hq w
  unfold lru at w
  refine wpAny_execs_cons ?_
  refine r_tryE ?_
  repeat wtm_at "sxd2"
  refine r_dpop_miss ‹W _ _ _ _ _ _› bo (by wtm_at "hxd2") ho rm.handled ?_
  intro h' e hx
  refine caught ‹W _ _ _ _ _ _› bo sk hx rfl rfl rfl fun s2 w2 => ?_
  repeat wtm_at "sxd2"
  exact hq _ _ _ ⟨rfl, rfl⟩ (‹W _ _ _ _ _ _›).own
theorem con_lru_set (hv : valueAt kvs k = none) (ho : valueAt okvs k = none) (h1 : n + 1 ≤ m) (h2 : 1 ≤ m) (hz : kvs.length ≤ 900) (hz2 : okvs.length ≤ 900) :
    Spec wd 7 (call (.ref 1026) [.ref self, .int k tk, v]) (lru wd self dx dd od n m tn tm kvs okvs) (fun r l => r = .none ∧ ∃ t, l = lru wd self dx dd od (n + 1) m t tm (stored kvs k v) (stored okvs k .none)) := by
  have K := cc_1058 wd
  have K1 := K.cls
  have K2 := K.short
  refine spec_def (fn_1026 wd) (bd_1026_3 wd _ _ _) (bv_1026_3 _ _ _) ?_
  intro c A L s Q E bo rm sk hq w
  unfold lru at w
  refine wpAny_execs_cons ?_
  repeat wtm_at "sxd2"
  refine (‹W _ _ _ _ _ _›).use bo (rm.le (by decide)) sk (by wtm_at "pkxd2") (con_setitem K (by wtm_at "gxd2") (by wtm_at "gxd2") (by wtm_at "gxd2") (fun t => by wtm_at "lsxd2") (fun t => by simp) hv h1 h2 hz) ?_
  rintro _ _ s2 ⟨rfl, t, rfl⟩ w2
  repeat wtm_at "sxd2"
  refine r_method ‹W _ _ _ _ _ _› bo K (mt_1058_touch wd) (by wtm_at "hxd2") (by wtm_at "hxd2") (by decide) ?_
  repeat wtm_at "sxd2"
  refine (‹W _ _ _ _ _ _›).use bo (rm.le (by decide)) sk (fp := lru wd self dx dd od (n + 1) m t tm (stored kvs k v) okvs) (by unfold lru; wtm_at "pkxd2") (con_lru_touch ho hz2) ?_
  rintro _ _ s2 ⟨rfl, rfl⟩ w2
  repeat wtm_at "sxd2"
  exact hq _ _ _ ⟨rfl, t, rfl⟩ w2.own
theorem con_lru_get (hv : valueAt kvs k = some v) (ho : valueAt okvs k = some u) (hz : kvs.length ≤ 900) (hz2 : okvs.length ≤ 900) :
    Spec wd 7 (call (.ref 1018) [.ref self, .int k tk]) (lru wd self dx dd od n m tn tm kvs okvs) (fun r l => r = v ∧ l = lru wd self dx dd od n m tn tm kvs (stored (without okvs k) k u)) := by
  have K := cc_1058 wd
  have K1 := K.cls
  have K2 := K.short
  have hz3 : (without okvs k).length ≤ 900 := Nat.le_trans (List.length_filter_le _ _) hz2
  refine spec_def (fn_1018 wd) (bd_1018_2 wd _ _) (bv_1018_2 _ _) ?_
  intro c A L s Q E bo rm sk hq w
  unfold lru at w
  refine wpAny_execs_cons ?_
  repeat wtm_at "sxd2"
  refine (‹W _ _ _ _ _ _›).use bo (rm.le (by decide)) sk (by wtm_at "pkxd2") (con_getitem K (by wtm_at "gxd2") hv) ?_
  rintro _ _ s2 ⟨rfl, rfl⟩ w2
  repeat wtm_at "sxd2"
  refine r_try fun _ => ?_
  repeat wtm_at "sxd2"
  exact hq _ _ _ ⟨rfl, rfl⟩ (‹W _ _ _ _ _ _›).own
theorem con_lru_del (hv : (valueAt kvs k).isSome = true) (ho : (valueAt okvs k).isSome = true) (hz : kvs.length ≤ 900) (hz2 : okvs.length ≤ 900) :
    Spec wd 7 (call (.ref 1034) [.ref self, .int k tk]) (lru wd self dx dd od n m tn tm kvs okvs) (fun r l => r = .none ∧ ∃ t, l = lru wd self dx dd od (n - 1) m t tm (without kvs k) (without okvs k)) := by
  have K := cc_1058 wd
  have K1 := K.cls
  have K2 := K.short
  refine spec_def (fn_1034 wd) (bd_1034_2 wd _ _) (bv_1034_2 _ _) ?_
  intro c A L s Q E bo rm sk hq w
  unfold lru at w
  refine wpAny_execs_cons ?_
  repeat wtm_at "sxd2"
  refine (‹W _ _ _ _ _ _›).use bo (rm.le (by decide)) sk (by wtm_at "pkxd2") (con_delitem K (by wtm_at "gxd2") (by wtm_at "gxd2") (fun t => by wtm_at "lsxd2") (fun t => by simp) hv hz) ?_
  rintro _ _ s2 ⟨rfl, t, rfl⟩ w2
  repeat wtm_at "sxd2"
  exact hq _ _ _ ⟨rfl, t, rfl⟩ (‹W _ _ _ _ _ _›).own
theorem con_lru_pop (ho : okvs[0]? = some (k, u)) (hv : valueAt kvs k = some v) (hz : kvs.length ≤ 900) (hz2 : okvs.length ≤ 900) (hk : (valueAt okvs k).isSome = true) :
    Spec wd 9 (call (.ref 1041) [.ref self]) (lru wd self dx dd od n m tn tm kvs okvs) (fun r l => ∃ tp t tk, r = .ref tp ∧ l = (tp, IsTu [.int k tk, v]) :: lru wd self dx dd od (n - 1) m t tm (without kvs k) (without okvs k)) := by
  have K := cc_1058 wd
  have K1 := K.cls
  have K2 := K.short
  refine spec_def (fn_1041 wd) (bd_1041_1 wd _) (bv_1041_1 _) ?_
  intro c A L s Q E bo rm sk hq w
  unfold lru at w
  refine wpAny_execs_cons ?_
  refine r_try fun _ => ?_
  repeat wtm_at "sxd2"
  refine (‹W _ _ _ _ _ _›).use bo (rm.le (by decide)) sk (by wtm_at "pkxd2") (con_getitem K (by wtm_at "gxd2") hv) ?_
  rintro _ _ s2 ⟨rfl, rfl⟩ w2
  repeat wtm_at "sxd2"
  refine r_idelitem ‹W _ _ _ _ _ _› bo K (mt_1058_delitem wd) (by wtm_at "hxd2") (by wtm_at "hxd2") ?_
  refine (‹W _ _ _ _ _ _›).use bo (rm.le (by decide)) sk (fp := lru wd self dx dd od n m tn tm kvs okvs) (by unfold lru; wtm_at "pkxd2") (con_lru_del (by rw [hv]; rfl) hk hz hz2) ?_
  rintro _ _ s2 ⟨rfl, t, rfl⟩ w2
  unfold lru at w2
  repeat wtm_at "sxd2"
  have w9 := ‹W _ _ _ _ _ _›
  exact hq _ _ _ ⟨_, t, _, rfl, rfl⟩ w9.own
theorem con_lru_init (hm : 0 ≤ m) : SpecC wd 7 1010 [.ref self, .int m tm] [(self, IsInst 1058 dx), (dx, IsNs T2 (T2.map fun _ => none))]
    (fun r l => r = .none ∧ ∃ dd od t, l = (od, IsD wd []) :: (dd, IsD wd []) :: [(self, IsInst 1058 dx), (dx, IsNs T2 [some (.ref dd), some (.int 0 t), some (.int m tm), some (.ref od)])]) := by
  have K := cc_1058 wd
  have K1 := K.cls
  have K2 := K.short
  refine spec_defC (fn_1010 wd) (bd_1010_2 wd _ _) (bv_1010_2 _ _) ?_
  intro c A L s Q E bo rm sk hq w
  refine wpAny_execs_cons ?_
  repeat wtm_at "sxd2"
  refine (‹W _ _ _ _ _ _›).use bo (rm.le (by decide)) sk (by wtm_at "pkxd2") (con_initC K (gz_1058 wd) (by decide) (fun d => by wtm_at "lsxd2") (fun d t => by wtm_at "lsxd2") (fun d t => by wtm_at "lsxd2") (fun d => by simp) (fun d t => by simp) (fun d t => by simp) hm (bd_728_3 wd _ _ _)).spec ?_
  rintro _ _ s2 ⟨rfl, dd, t, rfl⟩ w2
  repeat wtm_at "sxd2"
  have w9 := ‹W _ _ _ _ _ _›
  exact hq _ _ _ ⟨rfl, dd, _, t, rfl⟩ w9.own
end

theorem mt_844_iter (wd : World) : Mt wd 844 "__iter__" 777 := ⟨by kernel_rfl, by kernel_rfl, by kernel_rfl⟩
theorem mt_844_getitem (wd : World) : Mt wd 844 "__getitem__" 742 := ⟨by kernel_rfl, by kernel_rfl, by kernel_rfl⟩
theorem mt_844_delitem (wd : World) : Mt wd 844 "__delitem__" 756 := ⟨by kernel_rfl, by kernel_rfl, by kernel_rfl⟩
def plainC (wd : World) (self dx dd : Addr) (n m : Int) (tn tm : Tok) (kvs : List (Int × Value)) : Led :=
  [(self, IsInst 844 dx), (dx, IsNs T0 [some (.ref dd), some (.int n tn), some (.int m tm)]), (dd, IsD wd kvs)]
section
variable {wd : World} {dx dd self : Addr} {n m : Int} {tn tm : Tok} {kvs : List (Int × Value)} {k : Int} {tk : Tok} {v u : Value}
theorem con_plain_pop (h0 : kvs[0]? = some (k, v)) (hv : valueAt kvs k = some v) (hz : kvs.length ≤ 900) :
    Spec wd 9 (call (.ref 674) [.ref self]) (plainC wd self dx dd n m tn tm kvs) (fun r l => ∃ tp t tk, r = .ref tp ∧ l = (tp, IsTu [.int k tk, v]) :: plainC wd self dx dd (n - 1) m t tm (without kvs k)) := by
  have K := cc_844 wd
  have K1 := K.cls
  have K2 := K.short
  refine spec_def (fn_674 wd) (bd_674_1 wd _) (bv_674_1 _) ?_
  intro c A L s Q E bo rm sk hq w
  unfold plainC at w
  refine wpAny_execs_cons ?_
  refine r_try fun _ => ?_
  repeat wtm_at "sxd2"
  refine r_iiter ‹W _ _ _ _ _ _› bo (mt_844_iter wd) (by wtm_at "hxd2") (by wtm_at "hxd2") ?_
  refine (‹W _ _ _ _ _ _›).use bo ((rm.in1 (n := 7)).le (by decide)) sk (by wtm_at "pkxd2") (con_iter K (by wtm_at "gxd2")) ?_
  rintro _ _ s2 ⟨it, ep, rfl, rfl⟩ w2
  refine ⟨it, rfl, w2.own.get (P := IsIt dd 0 kvs.length ep) .head |>.elim fun o h => ⟨o, h.1, h.2.1⟩, ?_⟩
  repeat wtm_at "sxd2"
  refine r_isubscr ‹W _ _ _ _ _ _› bo (mt_844_getitem wd) (by wtm_at "hxd2") (by wtm_at "hxd2") ?_
  refine (‹W _ _ _ _ _ _›).use bo ((rm.in1 (n := 7)).le (by decide)) sk (by wtm_at "pkxd2") (con_getitem K (by wtm_at "gxd2") hv) ?_
  rintro _ _ s3 ⟨rfl, rfl⟩ w3
  repeat wtm_at "sxd2"
  refine r_idelitem ‹W _ _ _ _ _ _› bo K (mt_844_delitem wd) (by wtm_at "hxd2") (by wtm_at "hxd2") ?_
  refine (‹W _ _ _ _ _ _›).use bo (rm.le (by decide)) sk (by wtm_at "pkxd2") (con_delitem K (by wtm_at "gxd2") (by wtm_at "gxd2") (fun t => by wtm_at "lsxd2") (fun t => by simp) (by rw [hv]; rfl) hz) ?_
  rintro _ _ s4 ⟨rfl, t, rfl⟩ w4
  repeat wtm_at "sxd2"
  have w9 := ‹W _ _ _ _ _ _›
  exact hq _ _ _ ⟨_, t, _, rfl, rfl⟩ w9.own
end

abbrev T4 : List Str := ["_Cache__data", "_Cache__currsize", "_Cache__maxsize", "_RRCache__choice", "_RRCache__index", "_RRCache__keys"]
theorem cc_1116 (wd : World) : Cc wd 1116 T4 := ⟨⟨by kernel_rfl⟩, by kernel_rfl, by kernel_rfl, by kernel_rfl, by decide, by decide⟩
theorem gz_1116 (wd : World) : findIn (KF wd.params) (.ref 1116) "getsizeof" = some (some (.ref 840)) := by kernel_rfl
theorem mt_1116_delitem (wd : World) : Mt wd 1116 "__delitem__" 1099 := ⟨by kernel_rfl, by kernel_rfl, by kernel_rfl⟩
theorem no_1116_choice (wd : World) : findIn (KF wd.params) (.ref 1116) "_RRCache__choice" = some none := by kernel_rfl
def rr (wd : World) (self dx dd xd kl : Addr) (n m : Int) (tn tm : Tok) (ch : Value) (kvs ikvs : List (Int × Value)) (xs : List Value) : Led :=
  [(self, IsInst 1116 dx), (dx, IsNs T4 [some (.ref dd), some (.int n tn), some (.int m tm), some ch, some (.ref xd), some (.ref kl)]), (dd, IsD wd kvs), (xd, IsD wd ikvs), (kl, IsLs xs)]
section
variable {wd : World} {dx dd xd kl self : Addr} {n m : Int} {tn tm : Tok} {ch : Value} {kvs ikvs : List (Int × Value)} {xs : List Value} {k : Int} {tk : Tok} {v u : Value}
theorem con_rr_init (hm : 0 ≤ m) : SpecC wd 7 1075 [.ref self, .int m tm, ch] [(self, IsInst 1116 dx), (dx, IsNs T4 (T4.map fun _ => none))]
    (fun r l => r = .none ∧ ∃ dd xd kl t, l = (kl, IsLs []) :: (xd, IsD wd []) :: (dd, IsD wd []) :: [(self, IsInst 1116 dx), (dx, IsNs T4 [some (.ref dd), some (.int 0 t), some (.int m tm), some ch, some (.ref xd), some (.ref kl)])]) := by
  have K := cc_1116 wd
  have K1 := K.cls
  have K2 := K.short
  refine spec_defC (fn_1075 wd) (bd_1075_3 wd _ _ _) (bv_1075_3 _ _ _) ?_
  intro c A L s Q E bo rm sk hq w
  refine wpAny_execs_cons ?_
  repeat wtm_at "sxd2"
  refine (‹W _ _ _ _ _ _›).use bo (rm.le (by decide)) sk (by wtm_at "pkxd2") (con_initC K (gz_1116 wd) (by decide) (fun d => by wtm_at "lsxd2") (fun d t => by wtm_at "lsxd2") (fun d t => by wtm_at "lsxd2") (fun d => by simp) (fun d t => by simp) (fun d t => by simp) hm (bd_728_3 wd _ _ _)).spec ?_
  rintro _ _ s2 ⟨rfl, dd, t, rfl⟩ w2
  repeat wtm_at "sxd2"
  have w9 := ‹W _ _ _ _ _ _›
  exact hq _ _ _ ⟨rfl, dd, _, _, t, rfl⟩ w9.own
theorem con_rr_set (hv : valueAt kvs k = none) (ho : valueAt ikvs k = none) (h1 : n + 1 ≤ m) (h2 : 1 ≤ m) (hz : kvs.length ≤ 900) (hz2 : ikvs.length ≤ 900) (hz3 : xs.length ≤ 900) :
    Spec wd 7 (call (.ref 1091) [.ref self, .int k tk, v]) (rr wd self dx dd xd kl n m tn tm ch kvs ikvs xs) (fun r l => r = .none ∧ ∃ t ti, l = rr wd self dx dd xd kl (n + 1) m t tm ch (stored kvs k v) (stored ikvs k (.int xs.length ti)) (xs ++ [.int k tk])) := by
  have K := cc_1116 wd
  have K1 := K.cls
  have K2 := K.short
  have hb : (valueAt ikvs k).isSome = false := by rw [ho]; rfl
  refine spec_def (fn_1091 wd) (bd_1091_3 wd _ _ _) (bv_1091_3 _ _ _) ?_
  intro c A L s Q E bo rm sk hq w
  unfold rr at w
  refine wpAny_execs_cons ?_
  repeat wtm_at "sxd2"
  refine (‹W _ _ _ _ _ _›).use bo (rm.le (by decide)) sk (by wtm_at "pkxd2") (con_setitem K (by wtm_at "gxd2") (by wtm_at "gxd2") (by wtm_at "gxd2") (fun t => by wtm_at "lsxd2") (fun t => by simp) hv h1 h2 hz) ?_
  rintro _ _ s2 ⟨rfl, t, rfl⟩ w2
  repeat wtm_at "sxd2"
  refine r_llen ‹W _ _ _ _ _ _› (by wtm_at "hxd2") (by omega) ?_
  intro ti s3 w3
  repeat wtm_at "sxd2"
  have w9 := ‹W _ _ _ _ _ _›
  exact hq _ _ _ ⟨rfl, t, ti, rfl⟩ w9.own
theorem con_rr_del {i : Int} {ti tz : Tok} {z : Int} {xr : List Value} (hv : (valueAt kvs k).isSome = true) (ho : valueAt ikvs k = some (.int i ti)) (hx : xs = xr ++ [.int z tz]) (hi : 0 ≤ i ∧ i < xs.length) (hz : kvs.length ≤ 900) (hz2 : ikvs.length ≤ 900) (hz3 : xs.length ≤ 900) :
    Spec wd 7 (call (.ref 1099) [.ref self, .int k tk]) (rr wd self dx dd xd kl n m tn tm ch kvs ikvs xs) (fun r l => r = .none ∧ ∃ t, l = rr wd self dx dd xd kl (n - 1) m t tm ch (without kvs k)
      (if i = xr.length then without ikvs k else stored (without ikvs k) z (.int i ti)) (if i = xr.length then xr else xr.set i.toNat (.int z tz))) := by
  have K := cc_1116 wd
  have K1 := K.cls
  have K2 := K.short
  subst hx
  have hz4 : (without ikvs k).length ≤ 900 := Nat.le_trans (List.length_filter_le _ _) hz2
  refine spec_def (fn_1099 wd) (bd_1099_2 wd _ _) (bv_1099_2 _ _) ?_
  intro c A L s Q E bo rm sk hq w
  unfold rr at w
  refine wpAny_execs_cons ?_
  repeat wtm_at "sxd2"
  refine (‹W _ _ _ _ _ _›).use bo (rm.le (by decide)) sk (by wtm_at "pkxd2") (con_delitem K (by wtm_at "gxd2") (by wtm_at "gxd2") (fun t => by wtm_at "lsxd2") (fun t => by simp) hv hz) ?_
  rintro _ _ s2 ⟨rfl, t, rfl⟩ w2
  repeat wtm_at "sxd2"
  refine r_llen ‹W _ _ _ _ _ _› (by wtm_at "hxd2") (by omega) ?_
  intro tl s3 w3
  repeat wtm_at "sxd2"
  by_cases hi2 : i = xr.length
  · rw [if_pos hi2, if_pos hi2] at hq
    refine if_f (by subst hi2; simp) ?_
    repeat wtm_at "sxd2"
    have w9 := ‹W _ _ _ _ _ _›
    exact hq _ _ _ ⟨rfl, t, rfl⟩ w9.own
  · rw [if_neg hi2, if_neg hi2] at hq
    refine if_t (by simp; omega) ?_
    repeat wtm_at "sxd2"
    refine r_lsub_last ‹W _ _ _ _ _ _› (by wtm_at "hxd2") (v := .int z tz) (by simp) ?_ (by with_unfolding_all rfl)
    intro s4 w4
    repeat wtm_at "sxd2"
    refine r_lset ‹W _ _ _ _ _ _› (by wtm_at "uxd2") hi.1 hi.2 (by omega) ?_
    intro s5 w5
    repeat wtm_at "sxd2"
    have hi3 : i < xr.length := by have := hi.2; rw [List.length_append] at this; simp at this; omega
    have es : (xr ++ [Value.int z tz]).set i.toNat (.int z tz) = xr.set i.toNat (.int z tz) ++ [.int z tz] := List.set_append_left _ _ (by omega)
    have w6 := ‹W _ _ _ _ _ _›
    rw [es] at w6
    refine r_lpop w6 (by wtm_at "uxd2") (by rw [List.length_set]; simp at hz3; omega) ?_
    intro s7 w7
    repeat wtm_at "sxd2"
    have w9 := ‹W _ _ _ _ _ _›
    exact hq _ _ _ ⟨rfl, t, rfl⟩ w9.own
theorem con_rr_pop {i : Int} {ti tz : Tok} {z : Int} {xr : List Value} {cx : Led} {f : Addr} {fd : FuncData} (hf : Has f (IsFnObj fd) cx) (hsp : Spec wd 6 (call (.ref f) [.ref kl]) ((kl, IsLs xs) :: cx) (fun r l => (∃ tk, r = .int k tk) ∧ l = (kl, IsLs xs) :: cx))
    (hv : valueAt kvs k = some v) (ho : valueAt ikvs k = some (.int i ti)) (hx : xs = xr ++ [.int z tz]) (hi : 0 ≤ i ∧ i < xs.length) (hz : kvs.length ≤ 900) (hz2 : ikvs.length ≤ 900) (hz3 : xs.length ≤ 900) :
    Spec wd 9 (call (.ref 1106) [.ref self]) (rr wd self dx dd xd kl n m tn tm (.ref f) kvs ikvs xs ++ cx) (fun r l => ∃ tp t tk, r = .ref tp ∧ l = (tp, IsTu [.int k tk, v]) :: (rr wd self dx dd xd kl (n - 1) m t tm (.ref f) (without kvs k)
      (if i = xr.length then without ikvs k else stored (without ikvs k) z (.int i ti)) (if i = xr.length then xr else xr.set i.toNat (.int z tz)) ++ cx)) := by
  have K := cc_1116 wd
  have K1 := K.cls
  have K2 := K.short
  have hne : xs.isEmpty = false := by rw [hx]; cases xr <;> rfl
  refine spec_def (fn_1106 wd) (bd_1106_1 wd _) (bv_1106_1 _) ?_
  intro c A L s Q E bo rm sk hq w
  unfold rr at w
  refine wpAny_execs_cons ?_
  repeat wtm_at "sxd2"
  refine if_f (by rw [hne]; rfl) ?_
  repeat wtm_at "sxd2"
  refine r_method_own ‹W _ _ _ _ _ _› bo K (no_1116_choice wd) (by wtm_at "hxd2") (by wtm_at "hxd2") (by wtm_at "gxd2") rfl ?_
  intro s1 w1
  have hf' : Has f (IsFnObj fd) ([(self, IsInst 1116 dx), (dx, IsNs T4 [some (.ref dd), some (.int n tn), some (.int m tm), some (.ref f), some (.ref xd), some (.ref kl)]), (dd, IsD wd kvs), (xd, IsD wd ikvs), (kl, IsLs xs)] ++ cx) := .tail (.tail (.tail (.tail (.tail hf))))
  refine r_callF w1 hf' ?_
  repeat wtm_at "sxd2"
  refine r_readyF ‹W _ _ _ _ _ _› hf' ?_
  refine (‹W _ _ _ _ _ _›).useP (fp := (kl, IsLs xs) :: cx) (rest := [(self, IsInst 1116 dx), (dx, IsNs T4 [some (.ref dd), some (.int n tn), some (.int m tm), some (.ref f), some (.ref xd), some (.ref kl)]), (dd, IsD wd kvs), (xd, IsD wd ikvs)]) bo (rm.le (by decide)) sk (List.perm_append_comm (l₁ := [_, _, _, _]) (l₂ := _ :: cx)) hsp ?_
  rintro _ _ s2 ⟨⟨tk, rfl⟩, rfl⟩ w2
  have w3 := w2.perm (List.perm_append_comm (l₂ := [_, _, _, _]) (l₁ := _ :: cx))
  clear w2
  repeat wtm_at "sxd2"
  refine (‹W _ _ _ _ _ _›).useP (fp := [_, _, _]) (rest := [_, _] ++ cx) bo (rm.le (by decide)) sk (.refl _) (con_getitem K (by wtm_at "gxd2") hv) ?_
  rintro _ _ s4 ⟨rfl, rfl⟩ w4
  repeat wtm_at "sxd2"
  refine r_idelitem ‹W _ _ _ _ _ _› bo K (mt_1116_delitem wd) (by wtm_at "hxd2") (by wtm_at "hxd2") ?_
  refine (‹W _ _ _ _ _ _›).useP (fp := rr wd self dx dd xd kl n m tn tm (.ref f) kvs ikvs xs) (rest := cx) bo (rm.le (by decide)) sk (.refl _) (con_rr_del (by rw [hv]; rfl) ho hx hi hz hz2 hz3) ?_
  rintro _ _ s5 ⟨rfl, t, rfl⟩ w5
  unfold rr at w5
  repeat wtm_at "sxd2"
  have w9 := ‹W _ _ _ _ _ _›
  exact hq _ _ _ ⟨_, t, tk, rfl, rfl⟩ w9.own
end

theorem cc_993 (wd : World) : Cc wd 993 ["_Cache__data", "_Cache__currsize", "_Cache__maxsize", "_LFUCache__root", "_LFUCache__links"] := ⟨⟨by kernel_rfl⟩, by kernel_rfl, by kernel_rfl, by kernel_rfl, by decide, by decide⟩
section
variable {wd : World} {as : List Addr} {st : Addr → Lk} {a p n x dx : Addr} {i : Int} {ti : Tok}
theorem con_unlink (ha : a ∈ as) (hp : p ∈ as) (hn : n ∈ as) (en : (st a).nx = n) (ep : (st a).pv = p) (nd : as.Nodup) :
    Spec wd 3 (call (.ref 927) [.ref a]) (ringOf (lks wd) as st) (fun r l => r = .none ∧ l = ringOf (lks wd) as (upd (upd st p { st p with nx := n }) n { (upd st p { st p with nx := n }) n with pv := p })) := by
  refine spec_def (fn_927 wd) (bd_927_1 wd _) (bv_927_1 _) ?_
  intro c A L s Q E bo rm sk hq w
  refine wpAny_execs_cons ?_
  repeat wtm_at "sxd2"
  refine r_lk_next ‹W _ _ _ _ _ _› bo .here ha ?_
  intro s1 w1
  rw [en]
  repeat wtm_at "sxd2"
  refine r_lk_prev ‹W _ _ _ _ _ _› bo .here ha ?_
  intro s2 w2
  rw [ep]
  repeat wtm_at "sxd2"
  refine r_lk_setnext ‹W _ _ _ _ _ _› bo .here .here nd hp ?_
  intro s3 w3
  repeat wtm_at "sxd2"
  refine r_lk_setprev ‹W _ _ _ _ _ _› bo .here .here nd hn ?_
  intro s4 w4
  repeat wtm_at "sxd2"
  exact hq _ _ _ ⟨rfl, rfl⟩ w4.own
theorem con_link_init : SpecC wd 3 920 [.ref x, .int i ti] [(x, IsInst 931 dx), (dx, IsNs [] [])] (fun r l => r = .none ∧ ∃ ks, l = [(ks, IsD wd []), (x, IsSl 931 dx [some (.int i ti), some (.ref ks), none, none]), (dx, IsNs [] [])]) := by
  refine spec_defC (fn_920 wd) (bd_920_2 wd _ _) (bv_920_2 _ _) ?_
  intro c A L s Q E bo rm sk hq w
  have w : W c (callEnv (fdOf (o_920 wd.params)) L 920) _ _ [(x, IsSl 931 dx [none, none, none, none]), (dx, IsNs [] [])] s := w.weak .head fun o _ h => sl_new h
  refine wpAny_execs_cons ?_
  repeat wtm_at "sxd2"
  refine r_setslot ‹W _ _ _ _ _ _› bo (sl_count wd) rfl (by wtm_at "hxd2") (by wtm_at "uxd2") ?_
  intro s1 w1
  repeat wtm_at "sxd2"
  refine r_setslot ‹W _ _ _ _ _ _› bo (sl_keys wd) rfl (by wtm_at "hxd2") (by wtm_at "uxd2") ?_
  intro s2 w2
  repeat wtm_at "sxd2"
  exact hq _ _ _ ⟨rfl, _, rfl⟩ w2.own
end
abbrev T3 : List Str := ["_Cache__data", "_Cache__currsize", "_Cache__maxsize", "_LFUCache__root", "_LFUCache__links"]
theorem cr_993 (wd : World) : Cr wd 993 := ⟨by kernel_rfl, by kernel_rfl⟩
theorem cv_993_Link (wd : World) : Cv wd 993 "_Link" (.ref 931) := ⟨cr_993 wd, by kernel_rfl, rfl⟩
theorem mk_931 (wd : World) : makesIn (KF wd.params) 931 = true := by kernel_rfl
theorem init_931 (wd : World) : findIn (KF wd.params) (.ref 931) "__init__" = some (some (.ref 920)) := by kernel_rfl
theorem ty_920 (wd : World) : typeIn (KF wd.params) (.ref 920) = some (.type "function") := by kernel_rfl
theorem gz_993 (wd : World) : findIn (KF wd.params) (.ref 993) "getsizeof" = some (some (.ref 840)) := by kernel_rfl
theorem mt_993_delitem (wd : World) : Mt wd 993 "__delitem__" 969 := ⟨by kernel_rfl, by kernel_rfl, by kernel_rfl⟩
theorem mt_993_touch (wd : World) : Mt wd 993 "_LFUCache__touch" 990 := ⟨by kernel_rfl, by kernel_rfl, by kernel_rfl⟩
def lfu (wd : World) (self dx dd ld root : Addr) (n m : Int) (tn tm : Tok) (kvs lkvs : List (Int × Value)) (as : List Addr) (st : Addr → Lk) : Led :=
  (self, IsInst 993 dx) :: (dx, IsNs T3 [some (.ref dd), some (.int n tn), some (.int m tm), some (.ref root), some (.ref ld)]) :: (dd, IsD wd kvs) :: (ld, IsD wd lkvs) :: ringOf (lks wd) (root :: as) st
section
variable {wd : World} {dx dd ld root self f : Addr} {n m : Int} {tn tm : Tok} {kvs lkvs : List (Int × Value)} {as : List Addr} {st : Addr → Lk} {k : Int} {tk : Tok} {v : Value}
theorem con_lfu_setA (hf : f ∈ root :: as) (en : (st root).nx = f) (ec : (st f).c = 1) (nd : (root :: as).Nodup) (hv : valueAt kvs k = none) (ho : valueAt lkvs k = none) (h1 : n + 1 ≤ m) (h2 : 1 ≤ m) (hz : kvs.length ≤ 900) (hz2 : lkvs.length ≤ 900) (hz3 : (st f).kv.length ≤ 900) :
    Spec wd 7 (call (.ref 961) [.ref self, .int k tk, v]) (lfu wd self dx dd ld root n m tn tm kvs lkvs as st)
      (fun r l => r = .none ∧ ∃ t, l = lfu wd self dx dd ld root (n + 1) m t tm (stored kvs k v) (stored lkvs k (.ref f)) as (upd st f { st f with kv := stored (st f).kv k .none })) := by
  have K := cc_993 wd
  have K1 := K.cls
  have K2 := K.short
  have hb : (valueAt lkvs k).isSome = false := by rw [ho]; rfl
  have hr : root ∈ root :: as := .head _
  refine spec_def (fn_961 wd) (bd_961_3 wd _ _ _) (bv_961_3 _ _ _) ?_
  intro c A L s Q E bo rm sk hq w
  unfold lfu at w
  refine wpAny_execs_cons ?_
  repeat wtm_at "sxd2"
  refine (‹W _ _ _ _ _ _›).useP (fp := [_, _, _]) (rest := _ :: ringOf (lks wd) (root :: as) st) bo (rm.le (by decide)) sk (.refl _) (con_setitem K (by wtm_at "gxd2") (by wtm_at "gxd2") (by wtm_at "gxd2") (fun t => by wtm_at "lsxd2") (fun t => by simp) hv h1 h2 hz) ?_
  rintro _ _ s2 ⟨rfl, t, rfl⟩ w2
  repeat wtm_at "sxd2"
  refine r_lk_next ‹W _ _ _ _ _ _› bo (by wtm_at "tlxd2") hr ?_
  intro s3 w3
  rw [en]
  repeat wtm_at "sxd2"
  refine r_lk_count ‹W _ _ _ _ _ _› bo (by wtm_at "tlxd2") hf ?_
  intro s4 w4
  rw [ec]
  repeat wtm_at "sxd2"
  refine r_lk_keys ‹W _ _ _ _ _ _› bo (by wtm_at "tlxd2") hf ?_
  intro s5 w5
  repeat wtm_at "sxd2"
  refine r_dset ‹W _ _ _ _ _ _› (lk_keys_up nd hf (by wtm_at "tlxd2")) (by omega) ?_
  intro s6 w6
  repeat wtm_at "sxd2"
  have w9 := ‹W _ _ _ _ _ _›
  exact hq _ _ _ ⟨rfl, t, rfl⟩ w9.own
end
theorem mt_931_unlink (wd : World) : findIn (KF wd.params) (.ref 931) "unlink" = some (some (.ref 927)) := by kernel_rfl
theorem mt_931_ga (wd : World) : plainGet (KF wd.params) 931 "unlink" = true := by kernel_rfl
theorem mt_931_fn (wd : World) : isFn (KF wd.params) (.ref 927) = true := by kernel_rfl
section
variable {wd : World} {A : Around} {E : Value → Shared → Prop} {c : Cx} {env : Env} {T : List Str} {vs : List (Option Value)} {l : Led} {s : Shared} {a : Addr} {as : List Addr} {st : Addr → Lk}
theorem r_lk_unlink {pl : Sem Bool} {Q : Value × List Value → Shared → Prop} (w : W c env T vs l s) (bo : BaseOk wd c.B) (t : Tls (ringOf (lks wd) as st) (ringOf (lks wd) as st) l l) (ha : a ∈ as) (h : Q (.ref 927, [.ref a]) s) : wpAny (model pw wd) A (getMethod (.ref a) "unlink" pl) Q E s := by
  obtain ⟨ox, h1, sl, rfl, h2, h3⟩ := w.own.get (t.has (ring_has (f := lks wd) ha .head))
  obtain ⟨od, h4, hno⟩ := w.own.get (t.has (ring_has (f := lks wd) ha (.tail .head)))
  have I : InstAt s.heap a { instObj 931 (st a).dx with slots := sl } 931 (some od) := ⟨h1, rfl, rfl, h4⟩
  exact method_fn (bo.K.keeps w.own.base) I (plainGet_of (mt_931_ga wd)).1 (plainGet_of (mt_931_ga wd)).2 (mt_931_unlink wd) (beq_iff_eq.mp (mt_931_fn wd)) (by show (lookIn _ od).map _ = _; rw [lookIn_of hno]; rfl) h
end
section
variable {wd : World} {dx dd ld root self f p q : Addr} {n m : Int} {tn tm : Tok} {kvs lkvs : List (Int × Value)} {as : List Addr} {st : Addr → Lk} {k : Int} {tk : Tok} {v : Value}
theorem con_lfu_delA (hf : f ∈ root :: as) (el : valueAt lkvs k = some (.ref f)) (nd : (root :: as).Nodup) (hk : (valueAt (st f).kv k).isSome = true) (hne : (without (st f).kv k).isEmpty = false) (hv : (valueAt kvs k).isSome = true) (hz : kvs.length ≤ 900) (hz2 : lkvs.length ≤ 900) (hz3 : (st f).kv.length ≤ 900) :
    Spec wd 7 (call (.ref 969) [.ref self, .int k tk]) (lfu wd self dx dd ld root n m tn tm kvs lkvs as st)
      (fun r l => r = .none ∧ ∃ t, l = lfu wd self dx dd ld root (n - 1) m t tm (without kvs k) (without lkvs k) as (upd st f { st f with kv := without (st f).kv k })) := by
  have K := cc_993 wd
  have K1 := K.cls
  have K2 := K.short
  have hz4 : (without (st f).kv k).length ≤ 900 := Nat.le_trans (List.length_filter_le _ _) hz3
  refine spec_def (fn_969 wd) (bd_969_2 wd _ _) (bv_969_2 _ _) ?_
  intro c A L s Q E bo rm sk hq w
  unfold lfu at w
  refine wpAny_execs_cons ?_
  repeat wtm_at "sxd2"
  refine (‹W _ _ _ _ _ _›).useP (fp := [_, _, _]) (rest := _ :: ringOf (lks wd) (root :: as) st) bo (rm.le (by decide)) sk (.refl _) (con_delitem K (by wtm_at "gxd2") (by wtm_at "gxd2") (fun t => by wtm_at "lsxd2") (fun t => by simp) hv hz) ?_
  rintro _ _ s2 ⟨rfl, t, rfl⟩ w2
  repeat wtm_at "sxd2"
  refine r_lk_keys ‹W _ _ _ _ _ _› bo (by wtm_at "tlxd2") hf ?_
  intro s5 w5
  repeat wtm_at "sxd2"
  refine r_ddel ‹W _ _ _ _ _ _› (lk_keys_up nd hf (by wtm_at "tlxd2")) hk (by omega) ?_
  intro s6 w6
  repeat wtm_at "sxd2"
  refine r_lk_keys ‹W _ _ _ _ _ _› bo (by wtm_at "tlxd2") hf ?_
  intro s7 w7
  rw [upd_self]
  refine r_dtruth ‹W _ _ _ _ _ _› bo (kvs := without (st f).kv k) (by
    have := lk_keys_has (wd := wd) (as := root :: as) (st := upd st f { st f with kv := without (st f).kv k }) hf .here
    rw [upd_self] at this
    exact .tail (.tail (.tail (.tail this)))) (by omega) ?_
  intro s8 w8
  refine if_f (by rw [hne]; rfl) ?_
  repeat wtm_at "sxd2"
  have w9 := ‹W _ _ _ _ _ _›
  exact hq _ _ _ ⟨rfl, t, rfl⟩ w9.own
end
def unlinked (st : Addr → Lk) (p q : Addr) : Addr → Lk := upd (upd st p { st p with nx := q }) q { (upd st p { st p with nx := q }) q with pv := p }
section
variable {wd : World} {dx dd ld root self f p q : Addr} {n m : Int} {tn tm : Tok} {kvs lkvs : List (Int × Value)} {as : List Addr} {st : Addr → Lk} {k : Int} {tk : Tok} {v : Value}
theorem con_lfu_delB (hf : f ∈ as) (hp : p ∈ root :: as) (hq' : q ∈ root :: as) (ep : (st f).pv = p) (eq : (st f).nx = q) (el : valueAt lkvs k = some (.ref f)) (nd : (root :: as).Nodup) (hk : (valueAt (st f).kv k).isSome = true) (hne : without (st f).kv k = []) (hv : (valueAt kvs k).isSome = true) (hz : kvs.length ≤ 900) (hz2 : lkvs.length ≤ 900) (hz3 : (st f).kv.length ≤ 900) :
    Spec wd 7 (call (.ref 969) [.ref self, .int k tk]) (lfu wd self dx dd ld root n m tn tm kvs lkvs as st)
      (fun r l => r = .none ∧ ∃ t, l = lfu wd self dx dd ld root (n - 1) m t tm (without kvs k) (without lkvs k) (as.erase f) (unlinked (upd st f { st f with kv := [] }) p q)) := by
  have K := cc_993 wd
  have K1 := K.cls
  have K2 := K.short
  have hf' : f ∈ root :: as := .tail _ hf
  have hz4 : (without (st f).kv k).length ≤ 900 := Nat.le_trans (List.length_filter_le _ _) hz3
  refine spec_def (fn_969 wd) (bd_969_2 wd _ _) (bv_969_2 _ _) ?_
  intro c A L s Q E bo rm sk hq w
  unfold lfu at w
  refine wpAny_execs_cons ?_
  repeat wtm_at "sxd2"
  refine (‹W _ _ _ _ _ _›).useP (fp := [_, _, _]) (rest := _ :: ringOf (lks wd) (root :: as) st) bo (rm.le (by decide)) sk (.refl _) (con_delitem K (by wtm_at "gxd2") (by wtm_at "gxd2") (fun t => by wtm_at "lsxd2") (fun t => by simp) hv hz) ?_
  rintro _ _ s2 ⟨rfl, t, rfl⟩ w2
  repeat wtm_at "sxd2"
  refine r_lk_keys ‹W _ _ _ _ _ _› bo (by wtm_at "tlxd2") hf' ?_
  intro s5 w5
  repeat wtm_at "sxd2"
  refine r_ddel ‹W _ _ _ _ _ _› (lk_keys_up nd hf' (by wtm_at "tlxd2")) hk (by omega) ?_
  intro s6 w6
  rw [hne] at w6
  repeat wtm_at "sxd2"
  refine r_lk_keys ‹W _ _ _ _ _ _› bo (by wtm_at "tlxd2") hf' ?_
  intro s7 w7
  rw [upd_self]
  refine r_dtruth ‹W _ _ _ _ _ _› bo (kvs := []) (by
    have := lk_keys_has (wd := wd) (as := root :: as) (st := upd st f { st f with kv := [] }) hf' .here
    rw [upd_self] at this
    exact .tail (.tail (.tail (.tail this)))) (by simp) ?_
  intro s8 w8
  refine if_t rfl ?_
  repeat wtm_at "sxd2"
  refine r_lk_unlink ‹W _ _ _ _ _ _› bo (by wtm_at "tlxd2") hf' ?_
  repeat wtm_at "sxd2"
  refine (‹W _ _ _ _ _ _›).useP (fp := ringOf (lks wd) (root :: as) (upd st f { st f with kv := [] })) (rest := [_, _, _, _]) bo (rm.le (by decide)) sk (List.perm_append_comm (l₁ := [_, _, _, _])) (con_unlink (p := p) (n := q) hf' hp hq' (by rw [upd_self]; exact eq) (by rw [upd_self]; exact ep) nd) ?_
  rintro _ _ s9 ⟨rfl, rfl⟩ w9
  have w10 := w9.perm (List.perm_append_comm (l₂ := [_, _, _, _]))
  clear w9
  repeat wtm_at "sxd2"
  have pm : (root :: as).Perm (f :: root :: as.erase f) := ((List.perm_cons_erase hf).cons root).trans (List.Perm.swap _ _ _)
  have w11 := w10.perm ((ring_perm (f := lks wd) (st := unlinked (upd st f { st f with kv := [] }) p q) pm).append_left _)
  have w12 := w11.sub (l' := [_, _, _, _] ++ ringOf (lks wd) (root :: as.erase f) (unlinked (upd st f { st f with kv := [] }) p q)) ((List.sublist_append_right _ _).append_left _)
  exact hq _ _ _ ⟨rfl, t, rfl⟩ w12.own
end
section
variable {wd : World} {A : Around} {E : Value → Shared → Prop} {c : Cx} {env : Env} {T : List Str} {vs : List (Option Value)} {l : Led} {s : Shared} {a b : Addr} {as : List Addr} {st : Addr → Lk}
theorem r_lk_is_other {Q : Value → Shared → Prop} (w : W c env T vs l s) (t : Tls (ringOf (lks wd) as st) (ringOf (lks wd) as st) l l) (ha : a ∈ as) (hb : b ∈ as) (h : a ≠ b) (hq : Q (.bool false) s) : wpAny (model pw wd) A (compareOp .Is (.ref a) (.ref b)) Q E s := by
  obtain ⟨ox, h1, sl, rfl, _⟩ := w.own.get (t.has (ring_has (f := lks wd) ha .head))
  obtain ⟨oy, h2, sl', rfl, _⟩ := w.own.get (t.has (ring_has (f := lks wd) hb .head))
  show wpAny (model pw wd) A (do return .bool (← isSame (.ref a) (.ref b))) Q E s
  exact wpAny_bind (wpAny_isSame_ref_other h h1 h2 (by intro z; cases z) (wpAny_pure hq))
end
section
variable {wd : World} {dx dd ld root self f : Addr} {n m : Int} {tn tm : Tok} {kvs lkvs : List (Int × Value)} {as : List Addr} {st : Addr → Lk} {k : Int} {v u : Value} {P : Led → Prop}
theorem con_lfu_pop (hf : f ∈ as) (en : (st root).nx = f) (nd : (root :: as).Nodup) (h0 : (st f).kv[0]? = some (k, u)) (hv : valueAt kvs k = some v)
    (hsp : ∀ tk, Spec wd 7 (call (.ref 969) [.ref self, .int k tk]) (lfu wd self dx dd ld root n m tn tm kvs lkvs as st) (fun r l => r = .none ∧ P l)) :
    Spec wd 9 (call (.ref 976) [.ref self]) (lfu wd self dx dd ld root n m tn tm kvs lkvs as st) (fun r l => ∃ tp tk l', r = .ref tp ∧ P l' ∧ l = (tp, IsTu [.int k tk, v]) :: l') := by
  have K := cc_993 wd
  have K1 := K.cls
  have K2 := K.short
  have hr : root ∈ root :: as := .head _
  have hf' : f ∈ root :: as := .tail _ hf
  have hne : f ≠ root := fun e => (List.nodup_cons.mp nd).1 (e ▸ hf)
  refine spec_def (fn_976 wd) (bd_976_1 wd _) (bv_976_1 _) ?_
  intro c A L s Q E bo rm sk hq w
  unfold lfu at w
  refine wpAny_execs_cons ?_
  repeat wtm_at "sxd2"
  refine r_lk_next ‹W _ _ _ _ _ _› bo (by wtm_at "tlxd2") hr ?_
  intro s3 w3
  rw [en]
  repeat wtm_at "sxd2"
  refine r_lk_is_other ‹W _ _ _ _ _ _› (by wtm_at "tlxd2") hf' hr hne ?_
  repeat wtm_at "sxd2"
  refine r_lk_keys ‹W _ _ _ _ _ _› bo (by wtm_at "tlxd2") hf' ?_
  intro s4 w4
  obtain ⟨pre, post, e⟩ := (lk_keys_has (wd := wd) (as := root :: as) (st := st) hf' .here).split
  rw [e] at w4
  repeat wtm_at "sxd2"
  refine r_diter (g := fun ep => _ :: _ :: _ :: _ :: (pre ++ ((st f).ks, IsDE wd (st f).kv ep) :: post)) ‹W _ _ _ _ _ _› bo (fun ep => .tail (.tail (.tail (.tail (Up.pre .head))))) ?_
  intro it ep s5 w5
  repeat wtm_at "sxd2"
  refine r_dnext ‹W _ _ _ _ _ _› (l' := _ :: _ :: _ :: _ :: (pre ++ ((st f).ks, IsD wd (st f).kv) :: post)) (.tail (.tail (.tail (.tail (Up.pre .head))))) h0 ?_
  intro tk s6 w6
  rw [← e] at w6
  repeat wtm_at "sxd2"
  refine (‹W _ _ _ _ _ _›).useP (fp := [_, _, _]) (rest := _ :: ringOf (lks wd) (root :: as) st) bo (rm.le (by decide)) sk (.refl _) (con_getitem K (by wtm_at "gxd2") hv) ?_
  rintro _ _ s7 ⟨rfl, rfl⟩ w7
  repeat wtm_at "sxd2"
  refine r_idelitem ‹W _ _ _ _ _ _› bo K (mt_993_delitem wd) (by wtm_at "hxd2") (by wtm_at "hxd2") ?_
  refine (‹W _ _ _ _ _ _›).useP (fp := lfu wd self dx dd ld root n m tn tm kvs lkvs as st) (rest := []) bo (rm.le (by decide)) sk (by rw [List.append_nil]; exact .refl _) (hsp tk) ?_
  rintro _ l9 s9 ⟨rfl, hP⟩ w9
  rw [List.append_nil] at w9
  repeat wtm_at "sxd2"
  have w10 := ‹W _ _ _ _ _ _›
  exact hq _ _ _ ⟨_, tk, l9, rfl, hP, rfl⟩ w10.own
end
theorem W.ne {c : Cx} {env : Env} {T : List Str} {vs : List (Option Value)} {s : Shared} {a b : Addr} {P P' : Obj → Prop} {pre post : Led} (w : W c env T vs (pre ++ (a, P) :: post) s) (h : Has b P' post) : a ≠ b := fun e => by
  have nd := w.own.nd
  rw [List.append_assoc, List.map_append, List.nodup_append] at nd
  have nd2 := nd.2.1
  rw [List.cons_append, List.map_cons, List.nodup_cons] at nd2
  exact nd2.1 (by rw [e]; exact List.mem_map_of_mem (f := (·.1)) (List.mem_append_left _ h.mem))
section
variable {wd : World} {dx dd ld root self f : Addr} {n m : Int} {tn tm : Tok} {kvs lkvs : List (Int × Value)} {as : List Addr} {st : Addr → Lk} {k : Int} {tk : Tok} {v : Value}
theorem con_lfu_setB (hf : f ∈ root :: as) (en : (st root).nx = f) (ec : (st f).c ≠ 1) (nd : (root :: as).Nodup) (hv : valueAt kvs k = none) (ho : valueAt lkvs k = none) (h1 : n + 1 ≤ m) (h2 : 1 ≤ m) (hz : kvs.length ≤ 900) (hz2 : lkvs.length ≤ 900) :
    Spec wd 9 (call (.ref 961) [.ref self, .int k tk, v]) (lfu wd self dx dd ld root n m tn tm kvs lkvs as st)
      (fun r l => r = .none ∧ ∃ t x dxx ks t1, x ∉ root :: as ∧ l = lfu wd self dx dd ld root (n + 1) m t tm (stored kvs k v) (stored lkvs k (.ref x)) (x :: as)
        (upd (upd (upd st root { st root with nx := x }) f { (upd st root { st root with nx := x }) f with pv := x }) x ⟨dxx, ks, 1, t1, f, root, [(k, .none)]⟩)) := by
  have K := cc_993 wd
  have K1 := K.cls
  have K2 := K.short
  have hb : (valueAt lkvs k).isSome = false := by rw [ho]; rfl
  have hr : root ∈ root :: as := .head _
  refine spec_def (fn_961 wd) (bd_961_3 wd _ _ _) (bv_961_3 _ _ _) ?_
  intro c A L s Q E bo rm sk hq w
  unfold lfu at w
  refine wpAny_execs_cons ?_
  repeat wtm_at "sxd2"
  refine (‹W _ _ _ _ _ _›).useP (fp := [_, _, _]) (rest := _ :: ringOf (lks wd) (root :: as) st) bo (rm.le (by decide)) sk (.refl _) (con_setitem K (by wtm_at "gxd2") (by wtm_at "gxd2") (by wtm_at "gxd2") (fun t => by wtm_at "lsxd2") (fun t => by simp) hv h1 h2 hz) ?_
  rintro _ _ s2 ⟨rfl, t, rfl⟩ w2
  repeat wtm_at "sxd2"
  refine r_lk_next ‹W _ _ _ _ _ _› bo (by wtm_at "tlxd2") hr ?_
  intro s3 w3
  rw [en]
  repeat wtm_at "sxd2"
  refine r_lk_count ‹W _ _ _ _ _ _› bo (by wtm_at "tlxd2") hf ?_
  intro s4 w4
  repeat wtm_at "sxd2"
  refine if_t (by simpa using ec) ?_
  repeat wtm_at "sxd2"
  refine r_clsmeth (cv_993_Link wd) ‹W _ _ _ _ _ _› bo ?_
  intro s5 w5
  repeat wtm_at "sxd2"
  refine r_make (T' := []) (post := fun x dxx r l => r = .none ∧ ∃ ks, l = [(ks, IsD wd []), (x, IsSl 931 dxx [some (.int 1 _), some (.ref ks), none, none]), (dxx, IsNs [] [])]) (n := 3) ‹W _ _ _ _ _ _› bo (rm.le (by decide)) sk (mk_931 wd) (init_931 wd) (ty_920 wd) (fun x dxx => con_link_init) ?_
  rintro x dxx _ _ s6 ⟨rfl, ks, rfl⟩ w6
  refine ⟨rfl, ?_⟩
  repeat wtm_at "sxd2"
  have hxn : ∀ b ∈ root :: as, x ≠ b := fun b hb => w6.ne (pre := [_]) (.tail (.tail (.tail (.tail (.tail (ring_has (f := lks wd) hb .head))))))
  refine r_lk_next ‹W _ _ _ _ _ _› bo (by wtm_at "tlxd2") hr ?_
  intro s7 w7
  rw [en]
  repeat wtm_at "sxd2"
  refine r_setslot ‹W _ _ _ _ _ _› bo (sl_next wd) rfl (by wtm_at "hxd2") (by wtm_at "uxd2") ?_
  intro s8 w8
  repeat wtm_at "sxd2"
  refine r_lk_setnext ‹W _ _ _ _ _ _› bo (by wtm_at "tlxd2") (by wtm_at "tlxd2") nd hr ?_
  intro s9 w9
  repeat wtm_at "sxd2"
  refine r_slot ‹W _ _ _ _ _ _› bo (sl_next wd) (by wtm_at "hxd2") (by wtm_at "hxd2") (v := .ref f) rfl rfl ?_
  intro s10 w10
  repeat wtm_at "sxd2"
  refine r_lk_setprev ‹W _ _ _ _ _ _› bo (by wtm_at "tlxd2") (by wtm_at "tlxd2") nd hf ?_
  intro s11 w11
  repeat wtm_at "sxd2"
  refine r_setslot ‹W _ _ _ _ _ _› bo (sl_prev wd) rfl (by wtm_at "hxd2") (by wtm_at "uxd2") ?_
  intro s12 w12
  repeat wtm_at "sxd2"
  refine r_slot ‹W _ _ _ _ _ _› bo (sl_keys wd) (by wtm_at "hxd2") (by wtm_at "hxd2") (v := .ref ks) rfl rfl ?_
  intro s13 w13
  repeat wtm_at "sxd2"
  refine r_dset ‹W _ _ _ _ _ _› (by wtm_at "uxd2") (by simp) ?_
  intro s14 w14
  repeat wtm_at "sxd2"
  have w15 := ‹W _ _ _ _ _ _›
  generalize hst : upd (upd st root { st root with nx := x }) f { upd st root { st root with nx := x } f with pv := x } = st2 at w15
  obtain ⟨t1, w15⟩ : ∃ t1 : Tok, W c (callEnv (fdOf (o_961 wd.params)) L 961) _ _ ((ks, IsD wd [(k, .none)]) :: (x, IsSl 931 dxx [some (.int 1 t1), some (.ref ks), some (.ref f), some (.ref root)]) :: (dxx, IsNs [] []) ::
    (self, IsInst 993 dx) :: (dx, IsNs T3 [some (.ref dd), some (.int (n + 1) t), some (.int m tm), some (.ref root), some (.ref ld)]) :: (dd, IsD wd (stored kvs k v)) :: (ld, IsD wd (stored lkvs k (.ref x))) :: ringOf (lks wd) (root :: as) st2) _ := ⟨_, w15⟩
  refine hq .none _ _ ⟨rfl, t, x, dxx, ks, t1, fun hm => hxn x hm rfl, rfl⟩ ?_
  rw [hst]
  have ec : ringOf (lks wd) (root :: as) st2 = ringOf (lks wd) (root :: as) (upd st2 x ⟨dxx, ks, 1, t1, f, root, [(k, .none)]⟩) := ring_congr fun b hb => (upd_ne fun e => hxn b hb e.symm).symm
  rw [ec] at w15
  have w16 := w15.perm (l' := (x, IsSl 931 dxx [some (.int 1 t1), some (.ref ks), some (.ref f), some (.ref root)]) :: (dxx, IsNs [] []) :: (ks, IsD wd [(k, .none)]) :: _) ((List.perm_append_comm (l₁ := [_]) (l₂ := [_, _])).append_right _)
  have w17 := w16.perm (List.perm_append_comm_assoc [_, _, _] [_, _, _, _] _)
  have e2 : lks wd ⟨dxx, ks, 1, t1, f, root, [(k, .none)]⟩ x ++ ringOf (lks wd) (root :: as) (upd st2 x ⟨dxx, ks, 1, t1, f, root, [(k, .none)]⟩) = ringOf (lks wd) (x :: root :: as) (upd st2 x ⟨dxx, ks, 1, t1, f, root, [(k, .none)]⟩) := by rw [ring_cons (a := x), upd_self]
  have e3 : (lks wd ⟨dxx, ks, 1, t1, f, root, [(k, .none)]⟩ x ++ ringOf (lks wd) (root :: as) (upd st2 x ⟨dxx, ks, 1, t1, f, root, [(k, .none)]⟩)).Perm (ringOf (lks wd) (root :: x :: as) (upd st2 x ⟨dxx, ks, 1, t1, f, root, [(k, .none)]⟩)) := by
    rw [e2]
    exact ring_perm (.swap _ _ _)
  have w18 := w17.perm (l' := [_, _, _, _] ++ ringOf (lks wd) (root :: x :: as) (upd st2 x ⟨dxx, ks, 1, t1, f, root, [(k, .none)]⟩)) (List.Perm.append_left _ e3)
  exact w18.own
end

local macro_rules | `(tactic| wtm_at "lyc8") => `(tactic| first
  | ((with_reducible show wpAny _ _ (getAttr (Value.ref _) (Str.ofString "next") _) _ _ _); refine r_lk_next ‹W _ _ _ _ _ _› ‹BaseOk _ _› (by wtm_at "tlxd2") (by assumption) ?_; intro _ _)
  | ((with_reducible show wpAny _ _ (getAttr (Value.ref _) (Str.ofString "count") _) _ _ _); refine r_lk_count ‹W _ _ _ _ _ _› ‹BaseOk _ _› (by wtm_at "tlxd2") (by assumption) ?_; intro _ _)
  | ((with_reducible show wpAny _ _ (getAttr (Value.ref _) (Str.ofString "keys") _) _ _ _); refine r_lk_keys ‹W _ _ _ _ _ _› ‹BaseOk _ _› (by wtm_at "tlxd2") (by assumption) ?_; intro _ _)
  | ((with_reducible show wpAny _ _ (getAttr (Value.ref _) (Str.ofString "prev") _) _ _ _); refine r_lk_prev ‹W _ _ _ _ _ _› ‹BaseOk _ _› (by wtm_at "tlxd2") (by assumption) ?_; intro _ _)
  | wtm_at "sxd2")
section
variable {wd : World} {dx dd ld root self a b p q : Addr} {n m : Int} {tn tm : Tok} {kvs lkvs : List (Int × Value)} {as : List Addr} {st : Addr → Lk} {k : Int} {tk : Tok} {v : Value}
theorem con_lfu_touch2 (ha : a ∈ root :: as) (hq0 : q ∈ root :: as) (eq : (st a).nx = q) (el : valueAt lkvs k = some (.ref a)) (nd : (root :: as).Nodup) (ec : (st q).c ≠ (st a).c + 1) (h1 : (st a).kv.length = 1) :
    Spec wd 6 (call (.ref 990) [.ref self, .int k tk]) (lfu wd self dx dd ld root n m tn tm kvs lkvs as st)
      (fun r l => r = .none ∧ ∃ t, l = lfu wd self dx dd ld root n m tn tm kvs lkvs as (upd st a { st a with c := (st a).c + 1, tc := t })) := by
  have K := cc_993 wd
  have K1 := K.cls
  have K2 := K.short
  refine spec_def (fn_990 wd) (bd_990_2 wd _ _) (bv_990_2 _ _) ?_
  intro c A L s Q E bo rm sk hq w
  unfold lfu at w
  refine wpAny_execs_cons ?_
  repeat wtm_at "lyc8"
  rw [eq]
  repeat wtm_at "lyc8"
  refine if_t (by simpa using ec) ?_
  repeat wtm_at "lyc8"
  refine r_dlen ‹W _ _ _ _ _ _› bo (lk_keys_has ha (by wtm_at "tlxd2")) (by omega) ?_
  intro _ _ _
  repeat wtm_at "lyc8"
  refine r_lk_setcount ‹W _ _ _ _ _ _› bo (by wtm_at "tlxd2") (by wtm_at "tlxd2") nd ha ?_
  intro _ _
  repeat wtm_at "lyc8"
  have w9 := ‹W _ _ _ _ _ _›
  exact hq _ _ _ ⟨rfl, _, rfl⟩ w9.own
end

def moved (st : Addr → Lk) (a b : Addr) (k : Int) : Addr → Lk := upd (upd st b { st b with kv := stored (st b).kv k .none }) a { (upd st b { st b with kv := stored (st b).kv k .none }) a with kv := without (upd st b { st b with kv := stored (st b).kv k .none } a).kv k }
theorem moved_a {st : Addr → Lk} {a b : Addr} {k : Int} (h : a ≠ b) : moved st a b k a = { st a with kv := without (st a).kv k } := by
  unfold moved; rw [upd_self, upd_ne h]
theorem moved_b {st : Addr → Lk} {a b : Addr} {k : Int} (h : a ≠ b) : moved st a b k b = { st b with kv := stored (st b).kv k .none } := by
  unfold moved; rw [upd_ne h.symm, upd_self]
theorem moved_ne {st : Addr → Lk} {a b c : Addr} {k : Int} (h : c ≠ a) (h2 : c ≠ b) : moved st a b k c = st c := by
  unfold moved; rw [upd_ne h, upd_ne h2]
section
variable {wd : World} {dx dd ld root self a b p q : Addr} {n m : Int} {tn tm : Tok} {kvs lkvs : List (Int × Value)} {as : List Addr} {st : Addr → Lk} {k : Int} {tk : Tok} {v : Value}
theorem con_lfu_touch1a (ha : a ∈ root :: as) (hb : b ∈ root :: as) (hab : a ≠ b) (eq : (st a).nx = b) (el : valueAt lkvs k = some (.ref a)) (nd : (root :: as).Nodup) (ec : (st b).c = (st a).c + 1)
    (hk : (valueAt (st a).kv k).isSome = true) (hne : (without (st a).kv k).isEmpty = false) (hz2 : lkvs.length ≤ 900) (hz3 : (st a).kv.length ≤ 900) (hz4 : (st b).kv.length ≤ 900) :
    Spec wd 6 (call (.ref 990) [.ref self, .int k tk]) (lfu wd self dx dd ld root n m tn tm kvs lkvs as st)
      (fun r l => r = .none ∧ l = lfu wd self dx dd ld root n m tn tm kvs (stored lkvs k (.ref b)) as (moved st a b k)) := by
  have K := cc_993 wd
  have K1 := K.cls
  have K2 := K.short
  have hz5 : (without (st a).kv k).length ≤ 900 := Nat.le_trans (List.length_filter_le _ _) hz3
  refine spec_def (fn_990 wd) (bd_990_2 wd _ _) (bv_990_2 _ _) ?_
  intro c A L s Q E bo rm sk hq w
  unfold lfu at w
  refine wpAny_execs_cons ?_
  subst eq
  repeat wtm_at "lyc8"
  refine if_f (by simpa using ec) ?_
  repeat wtm_at "lyc8"
  refine r_dset ‹W _ _ _ _ _ _› (lk_keys_up nd hb (by wtm_at "tlxd2")) (by omega) ?_
  intro _ _
  repeat wtm_at "lyc8"
  refine r_ddel ‹W _ _ _ _ _ _› (lk_keys_up nd ha (by wtm_at "tlxd2")) (by rw [upd_ne hab]; exact hk) (by rw [upd_ne hab]; omega) ?_
  intro s6 w6
  obtain ⟨st2, hst⟩ : ∃ st2, moved st a (st a).nx k = st2 := ⟨_, rfl⟩
  rw [show upd (upd st (st a).nx _) a _ = st2 from hst] at w6
  have e1 : (st2 a).kv = without (st a).kv k := by rw [← hst, moved_a hab]
  repeat wtm_at "lyc8"
  refine r_dtruth ‹W _ _ _ _ _ _› bo (lk_keys_has ha (by wtm_at "tlxd2")) (by rw [e1]; omega) ?_
  intro s7 w7
  refine if_f (by rw [e1, hne]; rfl) ?_
  repeat wtm_at "lyc8"
  have w9 := ‹W _ _ _ _ _ _›
  exact hq _ _ _ ⟨rfl, by rw [hst]; rfl⟩ w9.own
theorem con_lfu_touch1b (ha : a ∈ as) (hb : b ∈ root :: as) (hp : p ∈ root :: as) (hab : a ≠ b) (eq : (st a).nx = b) (ep : (st a).pv = p) (el : valueAt lkvs k = some (.ref a)) (nd : (root :: as).Nodup) (ec : (st b).c = (st a).c + 1)
    (hk : (valueAt (st a).kv k).isSome = true) (hne : without (st a).kv k = []) (hz2 : lkvs.length ≤ 900) (hz3 : (st a).kv.length ≤ 900) (hz4 : (st b).kv.length ≤ 900) :
    Spec wd 6 (call (.ref 990) [.ref self, .int k tk]) (lfu wd self dx dd ld root n m tn tm kvs lkvs as st)
      (fun r l => r = .none ∧ l = lfu wd self dx dd ld root n m tn tm kvs (stored lkvs k (.ref b)) (as.erase a) (unlinked (moved st a b k) p b)) := by
  have K := cc_993 wd
  have K1 := K.cls
  have K2 := K.short
  have ha' : a ∈ root :: as := .tail _ ha
  refine spec_def (fn_990 wd) (bd_990_2 wd _ _) (bv_990_2 _ _) ?_
  intro c A L s Q E bo rm sk hq w
  unfold lfu at w
  refine wpAny_execs_cons ?_
  subst eq
  repeat wtm_at "lyc8"
  refine if_f (by simpa using ec) ?_
  repeat wtm_at "lyc8"
  refine r_dset ‹W _ _ _ _ _ _› (lk_keys_up nd hb (by wtm_at "tlxd2")) (by omega) ?_
  intro _ _
  repeat wtm_at "lyc8"
  refine r_ddel ‹W _ _ _ _ _ _› (lk_keys_up nd ha' (by wtm_at "tlxd2")) (by rw [upd_ne hab]; exact hk) (by rw [upd_ne hab]; omega) ?_
  intro s6 w6
  obtain ⟨st2, hst⟩ : ∃ st2, moved st a (st a).nx k = st2 := ⟨_, rfl⟩
  rw [show upd (upd st (st a).nx _) a _ = st2 from hst] at w6
  have e1 : (st2 a).kv = [] := by rw [← hst, moved_a hab]; exact hne
  have e2 : (st2 a).nx = (st a).nx := by rw [← hst, moved_a hab]
  have e3 : (st2 a).pv = p := by rw [← hst, moved_a hab]; exact ep
  repeat wtm_at "lyc8"
  refine r_dtruth ‹W _ _ _ _ _ _› bo (lk_keys_has ha' (by wtm_at "tlxd2")) (by rw [e1]; decide) ?_
  intro s7 w7
  refine if_t (by rw [e1]; rfl) ?_
  repeat wtm_at "lyc8"
  refine r_lk_unlink ‹W _ _ _ _ _ _› bo (by wtm_at "tlxd2") ha' ?_
  repeat wtm_at "lyc8"
  refine (‹W _ _ _ _ _ _›).useP (fp := ringOf (lks wd) (root :: as) st2) (rest := [_, _, _, _]) bo (rm.le (by decide)) sk (List.perm_append_comm (l₁ := [_, _, _, _])) (con_unlink (p := p) (n := (st a).nx) ha' hp hb e2 e3 nd) ?_
  rintro _ _ s9 ⟨rfl, rfl⟩ w9
  have w10 := w9.perm (List.perm_append_comm (l₂ := [_, _, _, _]))
  clear w9
  repeat wtm_at "lyc8"
  have w9 := ‹W _ _ _ _ _ _›
  have pm : (root :: as).Perm (a :: root :: as.erase a) := ((List.perm_cons_erase ha).cons root).trans (List.Perm.swap _ _ _)
  have w11 := w9.perm (l' := [_, _, _, _] ++ ringOf (lks wd) (a :: root :: as.erase a) (unlinked st2 p (st a).nx)) ((ring_perm (f := lks wd) (st := unlinked st2 p (st a).nx) pm).append_left [_, _, _, _])
  have w12 := w11.sub (l' := [_, _, _, _] ++ ringOf (lks wd) (root :: as.erase a) (unlinked st2 p (st a).nx)) ((List.sublist_append_right _ _).append_left _)
  exact hq _ _ _ ⟨rfl, by rw [hst]; rfl⟩ w12.own
end

section
variable {wd : World} {dx dd ld root self a b p q : Addr} {n m : Int} {tn tm : Tok} {kvs lkvs : List (Int × Value)} {as : List Addr} {st : Addr → Lk} {k : Int} {tk : Tok} {v : Value}
def insd (st : Addr → Lk) (a q x : Addr) (k : Int) (L : Lk) : Addr → Lk :=
  upd (upd (upd (upd st a { st a with nx := x }) q { (upd st a { st a with nx := x }) q with pv := x }) a { (upd (upd st a { st a with nx := x }) q { (upd st a { st a with nx := x }) q with pv := x }) a with kv := without (upd (upd st a { st a with nx := x }) q { (upd st a { st a with nx := x }) q with pv := x } a).kv k }) x L
theorem con_lfu_touch3 (ha : a ∈ root :: as) (hq0 : q ∈ root :: as) (haq : a ≠ q) (eq : (st a).nx = q) (el : valueAt lkvs k = some (.ref a)) (nd : (root :: as).Nodup) (ec : (st q).c ≠ (st a).c + 1)
    (hk : (valueAt (st a).kv k).isSome = true) (h1 : (st a).kv.length ≠ 1) (hne : (without (st a).kv k).isEmpty = false) (hz2 : lkvs.length ≤ 900) (hz3 : (st a).kv.length ≤ 900) :
    Spec wd 6 (call (.ref 990) [.ref self, .int k tk]) (lfu wd self dx dd ld root n m tn tm kvs lkvs as st)
      (fun r l => r = .none ∧ ∃ x dxx ks t1, x ∉ root :: as ∧ l = lfu wd self dx dd ld root n m tn tm kvs (stored lkvs k (.ref x)) (x :: as) (insd st a q x k ⟨dxx, ks, (st a).c + 1, t1, q, a, [(k, .none)]⟩)) := by
  have K := cc_993 wd
  have K1 := K.cls
  have K2 := K.short
  have hz5 : (without (st a).kv k).length ≤ 900 := Nat.le_trans (List.length_filter_le _ _) hz3
  have hr : root ∈ root :: as := .head _
  refine spec_def (fn_990 wd) (bd_990_2 wd _ _) (bv_990_2 _ _) ?_
  intro c A L s Q E bo rm sk hq w
  unfold lfu at w
  refine wpAny_execs_cons ?_
  subst eq
  repeat wtm_at "lyc8"
  refine if_t (by simpa using ec) ?_
  repeat wtm_at "lyc8"
  refine r_dlen ‹W _ _ _ _ _ _› bo (lk_keys_has ha (by wtm_at "tlxd2")) (by omega) ?_
  intro _ _ _
  repeat wtm_at "lyc8"
  refine r_clsmeth (cv_993_Link wd) ‹W _ _ _ _ _ _› bo ?_
  intro s5 w5
  repeat wtm_at "lyc8"
  refine r_make (T' := []) (post := fun x dxx r l => r = .none ∧ ∃ ks, l = [(ks, IsD wd []), (x, IsSl 931 dxx [some (.int ((st a).c + 1) _), some (.ref ks), none, none]), (dxx, IsNs [] [])]) (n := 3) ‹W _ _ _ _ _ _› bo (rm.le (by decide)) sk (mk_931 wd) (init_931 wd) (ty_920 wd) (fun x dxx => con_link_init) ?_
  rintro x dxx _ _ s6 ⟨rfl, ks, rfl⟩ w6
  refine ⟨rfl, ?_⟩
  repeat wtm_at "lyc8"
  have hxn : ∀ b ∈ root :: as, x ≠ b := fun b hb => w6.ne (pre := [_]) (.tail (.tail (.tail (.tail (.tail (ring_has (f := lks wd) hb .head))))))
  refine r_setslot ‹W _ _ _ _ _ _› bo (sl_next wd) rfl (by wtm_at "hxd2") (by wtm_at "uxd2") ?_
  intro s8 w8
  repeat wtm_at "lyc8"
  refine r_lk_setnext ‹W _ _ _ _ _ _› bo (by wtm_at "tlxd2") (by wtm_at "tlxd2") nd ha ?_
  intro s9 w9
  repeat wtm_at "sxd2"
  refine r_slot ‹W _ _ _ _ _ _› bo (sl_next wd) (by wtm_at "hxd2") (by wtm_at "hxd2") (v := .ref (st a).nx) rfl rfl ?_
  intro s10 w10
  repeat wtm_at "lyc8"
  refine r_lk_setprev ‹W _ _ _ _ _ _› bo (by wtm_at "tlxd2") (by wtm_at "tlxd2") nd hq0 ?_
  intro s11 w11
  repeat wtm_at "lyc8"
  refine r_setslot ‹W _ _ _ _ _ _› bo (sl_prev wd) rfl (by wtm_at "hxd2") (by wtm_at "uxd2") ?_
  intro s12 w12
  repeat wtm_at "sxd2"
  refine r_slot ‹W _ _ _ _ _ _› bo (sl_keys wd) (by wtm_at "hxd2") (by wtm_at "hxd2") (v := .ref ks) rfl rfl ?_
  intro s13 w13
  repeat wtm_at "lyc8"
  refine r_dset ‹W _ _ _ _ _ _› (by wtm_at "uxd2") (by simp) ?_
  intro s14 w14
  repeat wtm_at "lyc8"
  have e0 : (upd (upd st a { st a with nx := x }) (st a).nx { (upd st a { st a with nx := x }) (st a).nx with pv := x } a).kv = (st a).kv := by rw [upd_ne haq, upd_self]
  refine r_ddel ‹W _ _ _ _ _ _› (lk_keys_up nd ha (by wtm_at "tlxd2")) (by rw [e0]; exact hk) (by rw [e0]; omega) ?_
  intro s15 w15
  generalize hst : upd (upd (upd st a { st a with nx := x }) (st a).nx { (upd st a { st a with nx := x }) (st a).nx with pv := x }) a _ = st2 at w15
  have e1 : (st2 a).kv = without (st a).kv k := by rw [← hst, upd_self, e0]
  repeat wtm_at "lyc8"
  refine r_dtruth ‹W _ _ _ _ _ _› bo (lk_keys_has ha (by wtm_at "tlxd2")) (by rw [e1]; omega) ?_
  intro s16 w16
  refine if_f (by rw [e1, hne]; rfl) ?_
  repeat wtm_at "lyc8"
  have w17 := ‹W _ _ _ _ _ _›
  obtain ⟨t1, w17⟩ : ∃ t1 : Tok, W c (callEnv (fdOf (o_990 wd.params)) L 990) _ _ ((ks, IsD wd [(k, .none)]) :: (x, IsSl 931 dxx [some (.int ((st a).c + 1) t1), some (.ref ks), some (.ref (st a).nx), some (.ref a)]) :: (dxx, IsNs [] []) ::
    (self, IsInst 993 dx) :: (dx, IsNs T3 [some (.ref dd), some (.int n tn), some (.int m tm), some (.ref root), some (.ref ld)]) :: (dd, IsD wd kvs) :: (ld, IsD wd (stored lkvs k (.ref x))) :: ringOf (lks wd) (root :: as) st2) _ := ⟨_, w17⟩
  have hin : insd st a (st a).nx x k ⟨dxx, ks, (st a).c + 1, t1, (st a).nx, a, [(k, .none)]⟩ = upd st2 x ⟨dxx, ks, (st a).c + 1, t1, (st a).nx, a, [(k, .none)]⟩ := by rw [← hst]; rfl
  refine hq .none _ _ ⟨rfl, x, dxx, ks, t1, fun hm => hxn x hm rfl, rfl⟩ ?_
  rw [hin]
  have ec : ringOf (lks wd) (root :: as) st2 = ringOf (lks wd) (root :: as) (upd st2 x ⟨dxx, ks, (st a).c + 1, t1, (st a).nx, a, [(k, .none)]⟩) := ring_congr fun b hb => (upd_ne fun e => hxn b hb e.symm).symm
  rw [ec] at w17
  have w18 := w17.perm (l' := (x, IsSl 931 dxx [some (.int ((st a).c + 1) t1), some (.ref ks), some (.ref (st a).nx), some (.ref a)]) :: (dxx, IsNs [] []) :: (ks, IsD wd [(k, .none)]) :: _) ((List.perm_append_comm (l₁ := [_]) (l₂ := [_, _])).append_right _)
  have w19 := w18.perm (List.perm_append_comm_assoc [_, _, _] [_, _, _, _] _)
  have e2 : lks wd ⟨dxx, ks, (st a).c + 1, t1, (st a).nx, a, [(k, .none)]⟩ x ++ ringOf (lks wd) (root :: as) (upd st2 x ⟨dxx, ks, (st a).c + 1, t1, (st a).nx, a, [(k, .none)]⟩) = ringOf (lks wd) (x :: root :: as) (upd st2 x ⟨dxx, ks, (st a).c + 1, t1, (st a).nx, a, [(k, .none)]⟩) := by rw [ring_cons (a := x), upd_self]
  have e3 : (lks wd ⟨dxx, ks, (st a).c + 1, t1, (st a).nx, a, [(k, .none)]⟩ x ++ ringOf (lks wd) (root :: as) (upd st2 x ⟨dxx, ks, (st a).c + 1, t1, (st a).nx, a, [(k, .none)]⟩)).Perm (ringOf (lks wd) (root :: x :: as) (upd st2 x ⟨dxx, ks, (st a).c + 1, t1, (st a).nx, a, [(k, .none)]⟩)) := by
    rw [e2]
    exact ring_perm (.swap _ _ _)
  have w20 := w19.perm (l' := [_, _, _, _] ++ ringOf (lks wd) (root :: x :: as) (upd st2 x ⟨dxx, ks, (st a).c + 1, t1, (st a).nx, a, [(k, .none)]⟩)) (List.Perm.append_left _ e3)
  exact w20.own
end

theorem W.pick {c : Cx} {env : Env} {T : List Str} {vs : List (Option Value)} {l fp r : Led} {s : Shared} (w : W c env T vs l s) (p : Pick fp l r) : W c env T vs (fp ++ r) s := w.perm p.perm
theorem W.pick0 {c : Cx} {env : Env} {T : List Str} {vs : List (Option Value)} {l fp : Led} {s : Shared} (w : W c env T vs l s) (p : Pick fp l []) : W c env T vs fp s := by
  have := w.perm p.perm
  rwa [List.append_nil] at this
theorem mt_993_contains (wd : World) : Mt wd 993 "__contains__" 763 := ⟨by kernel_rfl, by kernel_rfl, by kernel_rfl⟩
section
variable {wd : World} {dx dd ld root self a b p q : Addr} {n m : Int} {tn tm : Tok} {kvs lkvs : List (Int × Value)} {as : List Addr} {st : Addr → Lk} {k : Int} {tk : Tok} {v : Value} {P : Led → Prop}
theorem con_lfu_getitem (hv : valueAt kvs k = some v) (hl : (valueAt lkvs k).isSome = true) (hsp : Spec wd 6 (call (.ref 990) [.ref self, .int k tk]) (lfu wd self dx dd ld root n m tn tm kvs lkvs as st) (fun r l => r = .none ∧ P l)) :
    Spec wd 8 (call (.ref 953) [.ref self, .int k tk]) (lfu wd self dx dd ld root n m tn tm kvs lkvs as st) (fun r l => r = v ∧ P l) := by
  have K := cc_993 wd
  have K1 := K.cls
  have K2 := K.short
  refine spec_def (fn_953 wd) (bd_953_2 wd _ _) (bv_953_2 _ _) ?_
  intro c A L s Q E bo rm sk hq w
  unfold lfu at w
  refine wpAny_execs_cons ?_
  repeat wtm_at "sxd2"
  refine (‹W _ _ _ _ _ _›).useP (fp := [_, _, _]) (rest := _ :: ringOf (lks wd) (root :: as) st) bo (rm.le (by decide)) sk (.refl _) (con_getitem K (by wtm_at "gxd2") hv) ?_
  rintro _ _ s2 ⟨rfl, rfl⟩ w2
  repeat wtm_at "sxd2"
  refine r_method ‹W _ _ _ _ _ _› bo K (mt_993_touch wd) (by wtm_at "hxd2") (by wtm_at "hxd2") (by decide) ?_
  repeat wtm_at "sxd2"
  refine (‹W _ _ _ _ _ _›).useP (fp := lfu wd self dx dd ld root n m tn tm kvs lkvs as st) (rest := []) bo (rm.le (by decide)) sk (by rw [List.append_nil]; exact .refl _) hsp ?_
  rintro _ l9 s9 ⟨rfl, hP⟩ w9
  rw [List.append_nil] at w9
  repeat wtm_at "sxd2"
  exact hq _ _ _ ⟨rfl, hP⟩ (‹W _ _ _ _ _ _›).own
theorem con_lfu_init {tz : Tok} (hm : 0 ≤ m) :
    SpecC wd 8 945 [.ref self, .int m tz] [(self, IsInst 993 dx), (dx, IsNs T3 (T3.map fun _ => none))]
      (fun r l => r = .none ∧ ∃ dd ld root t, ∃ st : Addr → Lk, (st root).nx = root ∧ (st root).pv = root ∧ (st root).c = 0 ∧ (st root).kv = [] ∧ l = lfu wd self dx dd ld root 0 m t tz [] [] [] st) := by
  have K := cc_993 wd
  have K1 := K.cls
  have K2 := K.short
  refine spec_defC (fn_945 wd) (bd_945_2 wd _ _) (bv_945_2 _ _) ?_
  intro c A L s Q E bo rm sk hq w
  refine wpAny_execs_cons ?_
  repeat wtm_at "sxd2"
  refine (‹W _ _ _ _ _ _›).use bo (rm.le (by decide)) sk (by wtm_at "pkxd2") (con_initC K (gz_993 wd) (by decide) (fun d => by wtm_at "lsxd2") (fun d t => by wtm_at "lsxd2") (fun d t => by wtm_at "lsxd2") (fun d => by simp) (fun d t => by simp) (fun d t => by simp) hm (bd_728_3 wd _ _ _)).spec ?_
  rintro _ _ s2 ⟨rfl, dd, t, rfl⟩ w2
  repeat wtm_at "sxd2"
  refine r_clsmeth (cv_993_Link wd) ‹W _ _ _ _ _ _› bo ?_
  intro s5 w5
  repeat wtm_at "sxd2"
  refine r_make (T' := []) (post := fun x dxx r l => r = .none ∧ ∃ ks, l = [(ks, IsD wd []), (x, IsSl 931 dxx [some (.int 0 _), some (.ref ks), none, none]), (dxx, IsNs [] [])]) (n := 3) ‹W _ _ _ _ _ _› bo (rm.le (by decide)) sk (mk_931 wd) (init_931 wd) (ty_920 wd) (fun x dxx => con_link_init) ?_
  rintro x dxx _ _ s6 ⟨rfl, ks, rfl⟩ w6
  refine ⟨rfl, ?_⟩
  repeat wtm_at "sxd2"
  refine r_setslot ‹W _ _ _ _ _ _› bo (sl_prev wd) rfl (by wtm_at "hxd2") (by wtm_at "uxd2") ?_
  intro s8 w8
  repeat wtm_at "sxd2"
  refine r_setslot ‹W _ _ _ _ _ _› bo (sl_next wd) rfl (by wtm_at "hxd2") (by wtm_at "uxd2") ?_
  intro s9 w9
  repeat wtm_at "sxd2"
  rename_i ld s10 w10 s11 w11
  obtain ⟨t0, w12⟩ : ∃ t0 : Tok, W c (callEnv (fdOf (o_945 wd.params)) L 945) _ _ [(ld, IsD wd []), (ks, IsD wd []), (x, IsSl 931 dxx [some (.int 0 t0), some (.ref ks), some (.ref x), some (.ref x)]), (dxx, IsNs [] []), (dd, IsD wd []), (self, IsInst 993 dx), (dx, IsNs T3 [some (.ref dd), some (.int 0 t), some (.int m tz), some (.ref x), some (.ref ld)])] s11 := ⟨_, w11⟩
  refine hq .none _ _ ⟨rfl, dd, ld, x, t, fun _ => ⟨dxx, ks, 0, t0, x, x, []⟩, rfl, rfl, rfl, rfl, rfl⟩ ?_
  exact (w12.pick0 (fp := [(self, IsInst 993 dx), (dx, _), (dd, IsD wd []), (ld, IsD wd []), (x, _), (dxx, IsNs [] []), (ks, IsD wd [])]) (by wtm_at "pkxd2")).own
end

structure Wt where
  g : Int
  came : Int
  asks : Int
  last : Int
inductive KV : List Wt → List (Int × Value) → Prop
  | nil : KV [] []
  | cons {w : Wt} {t : Tok} {ws kvs} : KV ws kvs → KV (w :: ws) ((w.g, .int w.came t) :: kvs)
def Gs (ws : List Wt) : List Int := ws.map (·.g)
def rem (ws : List Wt) (g : Int) : List Wt := ws.filter fun w => decide (w.g ≠ g)
def tch1 (g N : Int) (w : Wt) : Wt := if w.g = g then { w with asks := w.asks + 1, last := N } else w
def tch (ws : List Wt) (g N : Int) : List Wt := ws.map (tch1 g N)
theorem tch1_g {g N : Int} {w : Wt} : (tch1 g N w).g = w.g ∧ (tch1 g N w).came = w.came := by unfold tch1; split <;> exact ⟨rfl, rfl⟩
theorem gs_nd {w : Wt} {ws : List Wt} (nd : (Gs (w :: ws)).Nodup) : (∀ u ∈ ws, u.g ≠ w.g) ∧ (Gs ws).Nodup := by
  have nd' := List.nodup_cons.mp nd
  refine ⟨fun u hu e => nd'.1 ?_, nd'.2⟩
  show w.g ∈ ws.map (fun x => x.g)
  rw [← e]
  exact List.mem_map_of_mem hu
theorem rem_notin {ws : List Wt} {g : Int} (h : ∀ u ∈ ws, u.g ≠ g) : rem ws g = ws := List.filter_eq_self.mpr fun u hu => by simpa using h u hu
theorem rem_cons_ne {w : Wt} {ws : List Wt} {g : Int} (h : w.g ≠ g) : rem (w :: ws) g = w :: rem ws g := by unfold rem; rw [List.filter_cons_of_pos (by simpa using h)]
theorem rem_cons_eq {w : Wt} {ws : List Wt} {g : Int} (h : w.g = g) : rem (w :: ws) g = rem ws g := by unfold rem; rw [List.filter_cons_of_neg (by simpa using h)]
theorem KV.keys {ws kvs} (h : KV ws kvs) : kvs.map (·.1) = Gs ws := by
  induction h with
  | nil => rfl
  | cons h ih => unfold Gs at ih ⊢; rw [List.map_cons, List.map_cons, ih]
theorem KV.length {ws kvs} (h : KV ws kvs) : kvs.length = ws.length := by
  have := congrArg List.length h.keys
  simpa [Gs] using this
theorem KV.at {ws kvs} {w : Wt} (h : KV ws kvs) (nd : (Gs ws).Nodup) (hw : w ∈ ws) : ∃ t, valueAt kvs w.g = some (.int w.came t) := by
  induction h with
  | nil => cases hw
  | cons h ih =>
    rename_i w0 t ws kvs
    have nd' := gs_nd nd
    rcases List.mem_cons.mp hw with rfl | hw
    · exact ⟨t, valueAt_head⟩
    · obtain ⟨t', e⟩ := ih nd'.2 hw
      refine ⟨t', ?_⟩
      have : w0.g ≠ w.g := (nd'.1 w hw).symm
      unfold valueAt at e ⊢
      rw [List.find?_cons_of_neg (by simpa using this)]
      exact e
theorem KV.none {ws kvs} {g : Int} (h : KV ws kvs) (hg : g ∉ Gs ws) : valueAt kvs g = none := valueAt_none_of_not_mem (by rw [h.keys]; exact hg)
theorem KV.snoc {ws kvs} {w : Wt} {t : Tok} (h : KV ws kvs) : KV (ws ++ [w]) (kvs ++ [(w.g, .int w.came t)]) := by
  induction h with
  | nil => exact .cons .nil
  | cons h ih => exact .cons ih
theorem KV.rem {ws kvs} (g : Int) (h : KV ws kvs) : KV (rem ws g) (without kvs g) := by
  induction h with
  | nil => exact .nil
  | cons h ih =>
    rename_i w t ws kvs
    by_cases e : w.g = g
    · rw [rem_cons_eq e]
      unfold without at *
      rw [List.filter_cons_of_neg (by simpa using e)]
      exact ih
    · rw [rem_cons_ne e]
      unfold without at *
      rw [List.filter_cons_of_pos (by simpa using e)]
      exact .cons ih
theorem KV.tch {ws kvs} (g N : Int) (h : KV ws kvs) : KV (tch ws g N) kvs := by
  induction h with
  | nil => exact .nil
  | cons h ih =>
    rename_i w t ws kvs
    unfold Mine.tch at *
    rw [List.map_cons]
    have := KV.cons (w := tch1 g N w) (t := t) ih
    rwa [tch1_g.1, tch1_g.2] at this
theorem Gs_tch {ws : List Wt} {g N : Int} : Gs (tch ws g N) = Gs ws := by
  unfold Gs tch
  rw [List.map_map]
  exact List.map_congr_left fun w _ => tch1_g.1
structure Ok (ws : List Wt) : Prop where
  inc : (Gs ws).Pairwise (· < ·)
  len : ws.length ≤ 60
theorem Ok.nd {ws : List Wt} (h : Ok ws) : (Gs ws).Nodup := h.inc.imp fun h => Int.ne_of_lt h
theorem rem_len {ws : List Wt} {w : Wt} (nd : (Gs ws).Nodup) (hw : w ∈ ws) : (rem ws w.g).length + 1 = ws.length := by
  induction ws with
  | nil => cases hw
  | cons u ws ih =>
    have nd' := gs_nd nd
    rcases List.mem_cons.mp hw with rfl | hw
    · rw [rem_cons_eq rfl, rem_notin nd'.1, List.length_cons]
    · rw [rem_cons_ne (nd'.1 w hw).symm, List.length_cons, ih nd'.2 hw, List.length_cons]
theorem rem_head {w : Wt} {ws : List Wt} (nd : (Gs (w :: ws)).Nodup) : rem (w :: ws) w.g = ws := by rw [rem_cons_eq rfl, rem_notin (gs_nd nd).1]
theorem Spec.le {wd n m t fp post} (h : Spec wd n t fp post) (k : n ≤ m) : Spec wd m t fp post := fun c A s bo rm bel o Q E hq => h c A s bo (rm.le k) bel o Q E hq
theorem Spec.frame {wd : World} {n : Nat} {t : Sem Value} {fp : Led} {post : Value → Led → Prop} (h : Spec wd n t fp post) (ex : Led) : Spec wd n t (fp ++ ex) (fun v l => ∃ l0, post v l0 ∧ l = l0 ++ ex) := by
  intro c A s bo rm bel o Q E hq
  let hid := (fp ++ c.fl).map (·.1)
  have nd := o.nd
  have nbase : ∀ b x, c.B.get? b = some x → b ∉ hid := fun b x e hm => by
    obtain ⟨p, hp, q⟩ := List.mem_map.mp hm
    have := o.off p (by
      rcases List.mem_append.mp hp with hp | hp
      · exact List.mem_append_left _ (List.mem_append_left _ hp)
      · exact List.mem_append_right _ hp)
    rw [q, e] at this; cases this
  have stay : ∀ b x, c.B.get? b = some x → (hideAll s.heap hid).get? b = some x := fun b x e => hideAll_get _ (o.base b x e) (nbase b x e)
  have nex : ∀ p ∈ ex, p.1 ∉ hid := fun p hp hm => by
    obtain ⟨q, hq, e⟩ := List.mem_map.mp hm
    rw [List.append_assoc, List.map_append, List.nodup_append, List.map_append, List.nodup_append] at nd
    obtain ⟨n1, ⟨n2, n3, n4⟩, n5⟩ := nd
    rcases List.mem_append.mp hq with hq | hq
    · exact n5 q.1 (List.mem_map_of_mem hq) p.1 (List.mem_append_left _ (List.mem_map_of_mem hp)) e
    · exact n4 p.1 (List.mem_map_of_mem hp) q.1 (List.mem_map_of_mem hq) e.symm
  have alive : ∀ p ∈ ex, ∃ x, (hideAll s.heap hid).get? p.1 = some x ∧ p.2 x := fun p hp => by
    obtain ⟨x, hx, hP⟩ := o.led p (List.mem_append_left _ (List.mem_append_right _ hp))
    exact ⟨x, hideAll_get _ hx (nex p hp), hP⟩
  have ndf : ((fp ++ c.fl).map (·.1)).Nodup := (((List.sublist_append_left fp ex).append (List.Sublist.refl c.fl)).map (·.1)).nodup nd
  refine h ⟨hideAll s.heap hid, c.frs, c.g, c.os⟩ A s (bo.keeps stay) rm bel ⟨fun b x e => of_hideAll _ e, fun p hp => ?_, fun p hp => hideAll_none _ (List.mem_map_of_mem hp), ndf, o.gens, o.os, by rw [hideAll_size]; exact Nat.le_refl _⟩ Q E fun v fp' s' hp o' => hq v (fp' ++ ex) s' ⟨fp', hp, rfl⟩ ?_
  · rcases List.mem_append.mp hp with hp | hp
    · exact o.led p (List.mem_append_left _ (List.mem_append_left _ hp))
    · exact o.led p (List.mem_append_right _ hp)
  · obtain ⟨b1, b2, b3, b4, b5, b6, b7⟩ := o'
    have mem : ∀ p ∈ (fp' ++ ex) ++ c.fl, p ∈ ex ∨ p ∈ fp' ++ c.fl := fun p hp => by
      simp only [List.mem_append] at hp ⊢
      rcases hp with (h | h) | h
      · exact .inr (.inl h)
      · exact .inl h
      · exact .inr (.inr h)
    refine ⟨fun b x e => b1 b x (stay b x e), fun p hp => ?_, fun p hp => ?_, ?_, b5, b6, ?_⟩
    · rcases mem p hp with q | q
      · obtain ⟨x, hx, hP⟩ := alive p q
        exact ⟨x, b1 _ _ hx, hP⟩
      · exact b2 p q
    · rcases mem p hp with q | q
      · exact o.off p (List.mem_append_left _ (List.mem_append_right _ q))
      · cases z : c.B.get? p.1 with
        | none => rfl
        | some x => have := b3 p q; rw [show (hideAll s.heap hid).get? p.1 = some x from stay _ _ z] at this; cases this
    · have n0 : ((fp' ++ c.fl).map (·.1)).Nodup := b4
      rw [List.map_append, List.nodup_append] at n0
      rw [List.append_assoc, List.map_append, List.nodup_append, List.map_append, List.nodup_append] at nd
      obtain ⟨n1, ⟨n2, n3, n4⟩, n5⟩ := nd
      have apart : ∀ p ∈ ex, ∀ q ∈ fp' ++ c.fl, q.1 ≠ p.1 := fun p hp q hq e => by
        obtain ⟨x, hx, _⟩ := alive p hp
        have := b3 q hq
        rw [e] at this
        rw [show (hideAll s.heap hid).get? p.1 = none from this] at hx
        cases hx
      rw [List.append_assoc, List.map_append, List.nodup_append, List.map_append, List.nodup_append]
      refine ⟨n0.1, ⟨n2, n3, n4⟩, fun a ha b hb e => ?_⟩
      obtain ⟨q, hq, rfl⟩ := List.mem_map.mp ha
      rcases List.mem_append.mp hb with hb | hb
      · obtain ⟨p, hp, rfl⟩ := List.mem_map.mp hb
        exact apart p hp q (List.mem_append_left _ hq) e
      · exact n0.2.2 _ ha _ hb e
    · exact Nat.le_trans o.size (by rw [← hideAll_size hid s.heap]; exact b7)
theorem con_len_ex {wd : World} {C dx dd self : Addr} {T : List Str} {us : List (Option Value)} {kvs : List (Int × Value)} {ex : Led} (K : Cc wd C T) (hu : Lget "_Cache__data" (.ref dd) T us) (hz : kvs.length ≤ 1000) :
    Spec wd 5 (call (.ref 784) [.ref self]) ([(self, IsInst C dx), (dx, IsNs T us), (dd, IsD wd kvs)] ++ ex) (fun v l => (∃ tk, v = .int kvs.length tk) ∧ l = [(self, IsInst C dx), (dx, IsNs T us), (dd, IsD wd kvs)] ++ ex) :=
  ((con_len K hu hz).frame ex).mono fun v l ⟨l0, ⟨h1, h2⟩, e⟩ => ⟨h1, by rw [e, h2]⟩
theorem con_getitem_ex {wd : World} {C dx dd self : Addr} {T : List Str} {us : List (Option Value)} {kvs : List (Int × Value)} {k : Int} {tk : Tok} {v : Value} {ex : Led} (K : Cc wd C T) (hu : Lget "_Cache__data" (.ref dd) T us) (hv : valueAt kvs k = some v) :
    Spec wd 5 (call (.ref 742) [.ref self, .int k tk]) ([(self, IsInst C dx), (dx, IsNs T us), (dd, IsD wd kvs)] ++ ex) (fun r l => r = v ∧ l = [(self, IsInst C dx), (dx, IsNs T us), (dd, IsD wd kvs)] ++ ex) :=
  ((con_getitem K hu hv).frame ex).mono fun v l ⟨l0, ⟨h1, h2⟩, e⟩ => ⟨h1, by rw [e, h2]⟩
theorem con_get_miss_ex {wd : World} {C dx dd self : Addr} {T : List Str} {us : List (Option Value)} {kvs : List (Int × Value)} {k : Int} {tk : Tok} {d : Value} {ex : Led} (K : Cc wd C T) (mc : Mt wd C "__contains__" 763) (hu : Lget "_Cache__data" (.ref dd) T us) (hv : valueAt kvs k = none) :
    Spec wd 7 (call (.ref 792) [.ref self, .int k tk, d]) ([(self, IsInst C dx), (dx, IsNs T us), (dd, IsD wd kvs)] ++ ex) (fun r l => r = d ∧ l = [(self, IsInst C dx), (dx, IsNs T us), (dd, IsD wd kvs)] ++ ex) :=
  ((con_get_miss K mc hu hv).frame ex).mono fun v l ⟨l0, ⟨h1, h2⟩, e⟩ => ⟨h1, by rw [e, h2]⟩
structure LineI (wd : World) (self : Addr) (m : Int) (dl : Addr) (Due : List Wt → Int → Wt → Prop) where
  I : List Wt → Led → Prop
  C : Addr
  T : List Str
  fset : Addr
  fpop : Addr
  cc : Cc wd C T
  mset : Mt wd C "__setitem__" fset
  mlen : Mt wd C "__len__" 784
  mget : Mt wd C "get" 792
  mpop : Mt wd C "popitem" fpop
  nget : ("get" : Str) ∉ T
  npop : ("popitem" : Str) ∉ T
  inst : ∀ ws l, I ws l → ∃ dx us, Has self (IsInst C dx) l ∧ Has dx (IsNs T us) l
  set : ∀ ws l g tg came tc N, I ws l → Ok ws → g ∉ Gs ws → (∀ w ∈ ws, w.last < N) → (ws.length : Int) + 1 ≤ m → 1 ≤ m → Spec wd 9 (call (.ref fset) [.ref self, .int g tg, .int came tc]) l (fun r l' => I (ws ++ [⟨g, came, 0, N⟩]) l')
  len : ∀ ws l, I ws l → Ok ws → Spec wd 9 (call (.ref 784) [.ref self]) l (fun r l' => (∃ t, r = .int ws.length t) ∧ I ws l')
  miss : ∀ ws l g tg d, I ws l → Ok ws → g ∉ Gs ws → Spec wd 11 (call (.ref 792) [.ref self, .int g tg, d]) l (fun r l' => r = d ∧ I ws l')
  hit : ∀ ws l w N tg d, I ws l → Ok ws → w ∈ ws → (∀ u ∈ ws, u.last < N) → Spec wd 11 (call (.ref 792) [.ref self, .int w.g tg, d]) l (fun r l' => (∃ t, r = .int w.came t) ∧ I (tch ws w.g N) l')
  pop : ∀ ws l d0 td, I ws l → Ok ws → ws ≠ [] → ∀ {A : Around} {c : Cx} {env : Env} {T : List Str} {vs : List (Option Value)} {rest : Led} {s : Shared} {Q E : Value → Shared → Prop},
    W c env T vs (l ++ ((dl, IsLs [.int d0 td]) :: rest)) s → BaseOk wd c.B → Rm 11 A → Stk A c env →
    (∀ tp tk tc w l'' s', w ∈ ws → Due ws d0 w → I (rem ws w.g) l'' → W c env T vs ((tp, IsTu [.int w.g tk, .int w.came tc]) :: (l'' ++ ((dl, IsLs [.int d0 td]) :: rest))) s' → Q (.ref tp) s') → wpAny (model pw wd) A (call (.ref fpop) [.ref self]) Q E s
def DueFirst (ws : List Wt) (_ : Int) (w : Wt) : Prop := ws.head? = some w
def DueLast (ws : List Wt) (_ : Int) (w : Wt) : Prop := ∀ u ∈ ws, w.last ≤ u.last
def DueAsks (ws : List Wt) (_ : Int) (w : Wt) : Prop := ∀ u ∈ ws, w.asks < u.asks ∨ (w.asks = u.asks ∧ w.last ≤ u.last)
def DueDraw (ws : List Wt) (d0 : Int) (w : Wt) : Prop := (Gs ws)[(d0.fmod ws.length).toNat]? = some w.g

theorem mt_844_setitem (wd : World) : Mt wd 844 "__setitem__" 749 := ⟨by kernel_rfl, by kernel_rfl, by kernel_rfl⟩
theorem mt_844_len (wd : World) : Mt wd 844 "__len__" 784 := ⟨by kernel_rfl, by kernel_rfl, by kernel_rfl⟩
theorem mt_844_get (wd : World) : Mt wd 844 "get" 792 := ⟨by kernel_rfl, by kernel_rfl, by kernel_rfl⟩
theorem mt_844_popitem (wd : World) : Mt wd 844 "popitem" 674 := ⟨by kernel_rfl, by kernel_rfl, by kernel_rfl⟩
theorem mt_844_contains (wd : World) : Mt wd 844 "__contains__" 763 := ⟨by kernel_rfl, by kernel_rfl, by kernel_rfl⟩
theorem mt_896_setitem (wd : World) : Mt wd 896 "__setitem__" 871 := ⟨by kernel_rfl, by kernel_rfl, by kernel_rfl⟩
theorem mt_896_len (wd : World) : Mt wd 896 "__len__" 784 := ⟨by kernel_rfl, by kernel_rfl, by kernel_rfl⟩
theorem mt_896_get (wd : World) : Mt wd 896 "get" 792 := ⟨by kernel_rfl, by kernel_rfl, by kernel_rfl⟩
theorem mt_896_popitem (wd : World) : Mt wd 896 "popitem" 886 := ⟨by kernel_rfl, by kernel_rfl, by kernel_rfl⟩
theorem mt_896_contains (wd : World) : Mt wd 896 "__contains__" 763 := ⟨by kernel_rfl, by kernel_rfl, by kernel_rfl⟩
theorem mt_896_getitem (wd : World) : Mt wd 896 "__getitem__" 742 := ⟨by kernel_rfl, by kernel_rfl, by kernel_rfl⟩
theorem mt_1058_setitem (wd : World) : Mt wd 1058 "__setitem__" 1026 := ⟨by kernel_rfl, by kernel_rfl, by kernel_rfl⟩
theorem mt_1058_len (wd : World) : Mt wd 1058 "__len__" 784 := ⟨by kernel_rfl, by kernel_rfl, by kernel_rfl⟩
theorem mt_1058_get (wd : World) : Mt wd 1058 "get" 792 := ⟨by kernel_rfl, by kernel_rfl, by kernel_rfl⟩
theorem mt_1058_popitem (wd : World) : Mt wd 1058 "popitem" 1041 := ⟨by kernel_rfl, by kernel_rfl, by kernel_rfl⟩
theorem mt_1058_contains (wd : World) : Mt wd 1058 "__contains__" 763 := ⟨by kernel_rfl, by kernel_rfl, by kernel_rfl⟩
theorem mt_1058_getitem (wd : World) : Mt wd 1058 "__getitem__" 1018 := ⟨by kernel_rfl, by kernel_rfl, by kernel_rfl⟩
section
variable {wd : World} {self dl : Addr} {m : Int}
theorem KV.stored {ws : List Wt} {kvs : List (Int × Value)} {g came : Int} {tc : Tok} {a N : Int} (h : KV ws kvs) (hg : g ∉ Gs ws) : KV (ws ++ [⟨g, came, a, N⟩]) (stored kvs g (.int came tc)) := by
  rw [stored_absent (h.none hg)]
  exact h.snoc (w := ⟨g, came, a, N⟩)
theorem cur_rem {ws : List Wt} {w : Wt} (nd : (Gs ws).Nodup) (hw : w ∈ ws) : (ws.length : Int) - 1 = ((rem ws w.g).length : Int) := by have := rem_len nd hw; omega
theorem KV.first {w : Wt} {ws : List Wt} {kvs : List (Int × Value)} (h : KV (w :: ws) kvs) : ∃ t, kvs[0]? = some (w.g, .int w.came t) ∧ valueAt kvs w.g = some (.int w.came t) := by
  cases h with
  | cons h => exact ⟨_, rfl, valueAt_head⟩
def I0 (wd : World) (self : Addr) (m : Int) (ws : List Wt) (l : Led) : Prop := ∃ (dx dd : Addr) (tn tm : Tok) (kvs : List (Int × Value)), KV ws kvs ∧ l = plainC wd self dx dd ws.length m tn tm kvs
def line0 (wd : World) (self : Addr) (m : Int) (dl : Addr) : LineI wd self m dl DueFirst where
  I := I0 wd self m
  C := 844
  T := T0
  fset := 749
  fpop := 674
  cc := cc_844 wd
  mset := mt_844_setitem wd
  mlen := mt_844_len wd
  mget := mt_844_get wd
  mpop := mt_844_popitem wd
  nget := by decide
  npop := by decide
  inst := by
    rintro ws l ⟨dx, dd, tn, tm, kvs, h, rfl⟩
    exact ⟨dx, _, .head, .tail .head⟩
  set := by
    rintro ws l g tg came tc N ⟨dx, dd, tn, tm, kvs, h, rfl⟩ ok hg hN hm h1
    have := ok.len
    refine ((con_setitem (cc_844 wd) (us' := fun t => [some (.ref dd), some (.int (ws.length + 1) t), some (.int m tm)]) .here (.there .here) (.there (.there .here)) (fun t => .there .here) (fun t => by simp) (h.none hg) hm h1 (by rw [h.length]; omega)).le (by decide)).mono ?_
    rintro v l' ⟨_, t, rfl⟩
    exact ⟨dx, dd, t, tm, _, h.stored hg, by rw [List.length_append]; rfl⟩
  len := by
    rintro ws l ⟨dx, dd, tn, tm, kvs, h, rfl⟩ ok
    have := ok.len
    refine ((con_len (cc_844 wd) (us := [some (.ref dd), some (.int ws.length tn), some (.int m tm)]) .here (by rw [h.length]; omega)).le (by decide)).mono ?_
    rintro v l' ⟨⟨t, rfl⟩, rfl⟩
    exact ⟨⟨t, by rw [h.length]⟩, dx, dd, tn, tm, kvs, h, rfl⟩
  miss := by
    rintro ws l g tg d ⟨dx, dd, tn, tm, kvs, h, rfl⟩ ok hg
    refine ((con_get_miss (cc_844 wd) (mt_844_contains wd) (us := [some (.ref dd), some (.int ws.length tn), some (.int m tm)]) .here (h.none hg)).le (by decide)).mono ?_
    rintro v l' ⟨rfl, rfl⟩
    exact ⟨rfl, dx, dd, tn, tm, kvs, h, rfl⟩
  hit := by
    rintro ws l w N tg d ⟨dx, dd, tn, tm, kvs, h, rfl⟩ ok hw hN
    obtain ⟨t, hv⟩ := h.at ok.nd hw
    refine ((con_get_hit (cc_844 wd) (mt_844_contains wd) (mt_844_getitem wd) (ex := []) (us := [some (.ref dd), some (.int ws.length tn), some (.int m tm)]) .here hv ((con_getitem (cc_844 wd) .here hv).le (by decide))).le (by decide)).mono ?_
    rintro v l' ⟨rfl, rfl⟩
    exact ⟨⟨t, rfl⟩, dx, dd, tn, tm, kvs, h.tch _ _, by unfold tch; rw [List.length_map]; rfl⟩
  pop := by
    rintro ws l d0 td ⟨dx, dd, tn, tm, kvs, h, rfl⟩ ok hne A c env T vs rest s Q E w bo rm sk hq
    have := ok.len
    cases ws with
    | nil => exact absurd rfl hne
    | cons w0 ws =>
      obtain ⟨t, h0, hv⟩ := h.first
      refine w.useP bo (rm.le (by decide)) sk (.refl _) (con_plain_pop h0 hv (by rw [h.length]; omega)) ?_
      rintro _ _ s' ⟨tp, t2, tk, rfl, rfl⟩ w'
      exact hq tp tk t w0 _ s' (.head _) rfl ⟨dx, dd, t2, tm, _, h.rem w0.g, by rw [cur_rem ok.nd (.head _)]⟩ w'
def I1 (wd : World) (self : Addr) (m : Int) (ws : List Wt) (l : Led) : Prop := ∃ (dx dd od : Addr) (tn tm : Tok) (kvs okvs : List (Int × Value)), KV ws kvs ∧ okvs.map (·.1) = Gs ws ∧ l = fifo wd self dx dd od ws.length m tn tm kvs okvs
theorem olen {okvs : List (Int × Value)} {ws : List Wt} (h : okvs.map (·.1) = Gs ws) : okvs.length = ws.length := by
  have := congrArg List.length h
  simpa [Gs] using this
theorem ofirst {okvs : List (Int × Value)} {w : Wt} {ws : List Wt} (h : okvs.map (·.1) = Gs (w :: ws)) : ∃ u, okvs[0]? = some (w.g, u) ∧ (valueAt okvs w.g).isSome = true := by
  cases okvs with
  | nil => cases h
  | cons p r =>
    obtain ⟨k, v⟩ := p
    have e : k = w.g := (List.cons.inj h).1
    subst e
    exact ⟨v, rfl, by rw [valueAt_head]; rfl⟩
theorem orem {okvs : List (Int × Value)} {ws : List Wt} (g : Int) (h : okvs.map (·.1) = Gs ws) : (without okvs g).map (·.1) = Gs (rem ws g) := by
  induction okvs generalizing ws with
  | nil =>
    cases ws with
    | nil => rfl
    | cons w ws => cases h
  | cons p r ih =>
    cases ws with
    | nil => cases h
    | cons w ws =>
      have e := List.cons.inj h
      by_cases q : w.g = g
      · rw [rem_cons_eq q]
        have := ih e.2
        unfold without at *
        rw [List.filter_cons_of_neg (by rw [show p.1 = w.g from e.1]; simpa using q)]
        exact this
      · rw [rem_cons_ne q]
        have := ih e.2
        unfold without at *
        rw [List.filter_cons_of_pos (by rw [show p.1 = w.g from e.1]; simpa using q), List.map_cons, this, show p.1 = w.g from e.1]
        rfl
theorem onone {okvs : List (Int × Value)} {ws : List Wt} {g : Int} (h : okvs.map (·.1) = Gs ws) (hg : g ∉ Gs ws) : valueAt okvs g = none := valueAt_none_of_not_mem (by rw [h]; exact hg)
theorem osnoc {okvs : List (Int × Value)} {ws : List Wt} {w : Wt} {u : Value} (h : okvs.map (·.1) = Gs ws) (hg : w.g ∉ Gs ws) : (stored okvs w.g u).map (·.1) = Gs (ws ++ [w]) := by
  rw [stored_absent (onone h hg), List.map_append, h]
  unfold Gs
  rw [List.map_append]; rfl
def line1 (wd : World) (self : Addr) (m : Int) (dl : Addr) : LineI wd self m dl DueFirst where
  I := I1 wd self m
  C := 896
  T := T1
  fset := 871
  fpop := 886
  cc := cc_896 wd
  mset := mt_896_setitem wd
  mlen := mt_896_len wd
  mget := mt_896_get wd
  mpop := mt_896_popitem wd
  nget := by decide
  npop := by decide
  inst := by
    rintro ws l ⟨dx, dd, od, tn, tm, kvs, okvs, h, ho, rfl⟩
    exact ⟨dx, _, .head, .tail .head⟩
  set := by
    rintro ws l g tg came tc N ⟨dx, dd, od, tn, tm, kvs, okvs, h, ho, rfl⟩ ok hg hN hm h1
    have := ok.len
    refine ((con_fifo_set (h.none hg) (onone ho hg) hm h1 (by rw [h.length]; omega) (by rw [olen ho]; omega)).le (by decide)).mono ?_
    rintro v l' ⟨_, t, rfl⟩
    exact ⟨dx, dd, od, t, tm, _, _, h.stored hg, osnoc (w := ⟨g, came, 0, N⟩) ho hg, by rw [List.length_append]; rfl⟩
  len := by
    rintro ws l ⟨dx, dd, od, tn, tm, kvs, okvs, h, ho, rfl⟩ ok
    have := ok.len
    refine ((con_len_ex (ex := [(od, IsD wd okvs)]) (cc_896 wd) (us := [some (.ref dd), some (.int ws.length tn), some (.int m tm), some (.ref od)]) .here (by rw [h.length]; omega)).le (by decide)).mono ?_
    rintro v l' ⟨⟨t, rfl⟩, rfl⟩
    exact ⟨⟨t, by rw [h.length]⟩, dx, dd, od, tn, tm, kvs, okvs, h, ho, rfl⟩
  miss := by
    rintro ws l g tg d ⟨dx, dd, od, tn, tm, kvs, okvs, h, ho, rfl⟩ ok hg
    refine ((con_get_miss_ex (ex := [(od, IsD wd okvs)]) (cc_896 wd) (mt_896_contains wd) (us := [some (.ref dd), some (.int ws.length tn), some (.int m tm), some (.ref od)]) .here (h.none hg)).le (by decide)).mono ?_
    rintro v l' ⟨rfl, rfl⟩
    exact ⟨rfl, dx, dd, od, tn, tm, kvs, okvs, h, ho, rfl⟩
  hit := by
    rintro ws l w N tg d ⟨dx, dd, od, tn, tm, kvs, okvs, h, ho, rfl⟩ ok hw hN
    obtain ⟨t, hv⟩ := h.at ok.nd hw
    refine ((con_get_hit (cc_896 wd) (mt_896_contains wd) (mt_896_getitem wd) (ex := [(od, IsD wd okvs)]) (us := [some (.ref dd), some (.int ws.length tn), some (.int m tm), some (.ref od)]) .here hv ((con_getitem_ex (ex := [(od, IsD wd okvs)]) (cc_896 wd) .here hv).le (by decide))).le (by decide)).mono ?_
    rintro v l' ⟨rfl, rfl⟩
    exact ⟨⟨t, rfl⟩, dx, dd, od, tn, tm, kvs, okvs, h.tch _ _, by rw [ho, Gs_tch], by unfold tch; rw [List.length_map]; rfl⟩
  pop := by
    rintro ws l d0 td ⟨dx, dd, od, tn, tm, kvs, okvs, h, ho, rfl⟩ ok hne A c env T vs rest s Q E w bo rm sk hq
    have := ok.len
    cases ws with
    | nil => exact absurd rfl hne
    | cons w0 ws =>
      obtain ⟨t, h0, hv⟩ := h.first
      obtain ⟨u, h0', hk⟩ := ofirst ho
      refine w.useP bo (rm.le (by decide)) sk (.refl _) (con_fifo_pop h0' hv (by rw [h.length]; omega) (by rw [olen ho]; omega) hk) ?_
      rintro _ _ s' ⟨tp, t2, tk, rfl, rfl⟩ w'
      exact hq tp tk t w0 _ s' (.head _) rfl ⟨dx, dd, od, t2, tm, _, _, h.rem w0.g, orem w0.g ho, by rw [cur_rem ok.nd (.head _)]⟩ w'
end

theorem tch_notin {ws : List Wt} {g N : Int} (h : ∀ u ∈ ws, u.g ≠ g) : tch ws g N = ws := by
  unfold tch
  have : ∀ u ∈ ws, tch1 g N u = u := fun u hu => by unfold tch1; rw [if_neg (h u hu)]
  rw [List.map_congr_left this, List.map_id']
theorem tch_cons {w : Wt} {ws : List Wt} {g N : Int} : tch (w :: ws) g N = tch1 g N w :: tch ws g N := rfl
theorem tch1_ne {g N : Int} {w : Wt} (h : w.g ≠ g) : tch1 g N w = w := by unfold tch1; rw [if_neg h]
theorem tch1_eq {g N : Int} {w : Wt} (h : w.g = g) : tch1 g N w = { w with asks := w.asks + 1, last := N } := by unfold tch1; rw [if_pos h]
theorem tch_perm {os : List Wt} {w : Wt} {N : Int} (nd : (Gs os).Nodup) (hw : w ∈ os) : (tch os w.g N).Perm (rem os w.g ++ [tch1 w.g N w]) := by
  induction os with
  | nil => cases hw
  | cons u os ih =>
    have nd' := gs_nd nd
    rcases List.mem_cons.mp hw with rfl | hw
    · rw [tch_cons, tch_notin nd'.1, rem_cons_eq rfl, rem_notin nd'.1]
      exact List.perm_append_comm (l₁ := [_])
    · have hne := (nd'.1 w hw).symm
      rw [tch_cons, tch1_ne hne, rem_cons_ne hne]
      exact (ih nd'.2 hw).cons u
theorem gs_perm {os ws : List Wt} (h : os.Perm ws) : (Gs os).Perm (Gs ws) := h.map _
theorem rem_perm {os ws : List Wt} {g : Int} (h : os.Perm ws) : (rem os g).Perm (rem ws g) := h.filter _
theorem tch_perm2 {os ws : List Wt} {g N : Int} (h : os.Perm ws) : (tch os g N).Perm (tch ws g N) := h.map _
theorem rem_sub {ws : List Wt} {g : Int} : (rem ws g).Sublist ws := List.filter_sublist
theorem mem_rem {ws : List Wt} {g : Int} {u : Wt} : u ∈ rem ws g ↔ u ∈ ws ∧ u.g ≠ g := by unfold rem; rw [List.mem_filter]; simp
theorem g_rem {ws : List Wt} {g : Int} : g ∉ Gs (rem ws g) := fun h => by
  obtain ⟨u, hu, e⟩ := List.mem_map.mp h
  exact (mem_rem.mp hu).2 e
theorem oat {okvs : List (Int × Value)} {ws : List Wt} {w : Wt} (h : okvs.map (·.1) = Gs ws) (hw : w ∈ ws) : ∃ u, valueAt okvs w.g = some u := by
  have hm : w.g ∈ okvs.map (·.1) := by rw [h]; exact List.mem_map_of_mem hw
  obtain ⟨p, hp, e⟩ := List.mem_map.mp hm
  unfold valueAt
  cases q : okvs.find? (fun kv => kv.1 = w.g) with
  | none =>
    have := List.find?_eq_none.mp q p hp
    simp [e] at this
  | some z => exact ⟨z.2, rfl⟩
section
variable {wd : World} {self dl : Addr} {m : Int}
def I2 (wd : World) (self : Addr) (m : Int) (ws : List Wt) (l : Led) : Prop := ∃ (dx dd od : Addr) (tn tm : Tok) (kvs okvs : List (Int × Value)) (os : List Wt), KV ws kvs ∧ os.Perm ws ∧ os.Pairwise (fun a b => a.last < b.last) ∧ okvs.map (·.1) = Gs os ∧ l = lru wd self dx dd od ws.length m tn tm kvs okvs
def line2 (wd : World) (self : Addr) (m : Int) (dl : Addr) : LineI wd self m dl DueLast where
  I := I2 wd self m
  C := 1058
  T := T2
  fset := 1026
  fpop := 1041
  cc := cc_1058 wd
  mset := mt_1058_setitem wd
  mlen := mt_1058_len wd
  mget := mt_1058_get wd
  mpop := mt_1058_popitem wd
  nget := by decide
  npop := by decide
  inst := by
    rintro ws l ⟨dx, dd, od, tn, tm, kvs, okvs, os, h, hp, hs, ho, rfl⟩
    exact ⟨dx, _, .head, .tail .head⟩
  set := by
    rintro ws l g tg came tc N ⟨dx, dd, od, tn, tm, kvs, okvs, os, h, hp, hs, ho, rfl⟩ ok hg hN hm h1
    have := ok.len
    have hg' : g ∉ Gs os := fun q => hg ((gs_perm hp).mem_iff.mp q)
    have hl : okvs.length = ws.length := (olen ho).trans hp.length_eq
    refine ((con_lru_set (h.none hg) (onone ho hg') hm h1 (by rw [h.length]; omega) (by rw [hl]; omega)).le (by decide)).mono ?_
    rintro v l' ⟨_, t, rfl⟩
    refine ⟨dx, dd, od, t, tm, _, _, os ++ [⟨g, came, 0, N⟩], h.stored hg, hp.append_right _, ?_, osnoc (w := ⟨g, came, 0, N⟩) ho hg', by rw [List.length_append]; rfl⟩
    rw [List.pairwise_append]
    refine ⟨hs, List.pairwise_singleton _ _, fun a ha b hb => ?_⟩
    rw [List.mem_singleton.mp hb]
    exact hN a (hp.mem_iff.mp ha)
  len := by
    rintro ws l ⟨dx, dd, od, tn, tm, kvs, okvs, os, h, hp, hs, ho, rfl⟩ ok
    have := ok.len
    refine ((con_len_ex (ex := [(od, IsD wd okvs)]) (cc_1058 wd) (us := [some (.ref dd), some (.int ws.length tn), some (.int m tm), some (.ref od)]) .here (by rw [h.length]; omega)).le (by decide)).mono ?_
    rintro v l' ⟨⟨t, rfl⟩, rfl⟩
    exact ⟨⟨t, by rw [h.length]⟩, dx, dd, od, tn, tm, kvs, okvs, os, h, hp, hs, ho, rfl⟩
  miss := by
    rintro ws l g tg d ⟨dx, dd, od, tn, tm, kvs, okvs, os, h, hp, hs, ho, rfl⟩ ok hg
    refine ((con_get_miss_ex (ex := [(od, IsD wd okvs)]) (cc_1058 wd) (mt_1058_contains wd) (us := [some (.ref dd), some (.int ws.length tn), some (.int m tm), some (.ref od)]) .here (h.none hg)).le (by decide)).mono ?_
    rintro v l' ⟨rfl, rfl⟩
    exact ⟨rfl, dx, dd, od, tn, tm, kvs, okvs, os, h, hp, hs, ho, rfl⟩
  hit := by
    rintro ws l w N tg d ⟨dx, dd, od, tn, tm, kvs, okvs, os, h, hp, hs, ho, rfl⟩ ok hw hN
    have := ok.len
    obtain ⟨t, hv⟩ := h.at ok.nd hw
    have hw' := hp.mem_iff.mpr hw
    have nd' : (Gs os).Nodup := (gs_perm hp).nodup_iff.mpr ok.nd
    have hl : okvs.length = ws.length := (olen ho).trans hp.length_eq
    obtain ⟨u, hu⟩ := oat ho hw'
    refine ((con_get_hit (cc_1058 wd) (mt_1058_contains wd) (mt_1058_getitem wd) (ex := [(od, IsD wd okvs)]) (us := [some (.ref dd), some (.int ws.length tn), some (.int m tm), some (.ref od)]) .here hv ((con_lru_get hv hu (by rw [h.length]; omega) (by rw [hl]; omega)).le (by decide))).le (by decide)).mono ?_
    rintro v l' ⟨rfl, rfl⟩
    have eg : (tch1 w.g N w).g = w.g := tch1_g.1
    refine ⟨⟨t, rfl⟩, dx, dd, od, tn, tm, kvs, _, rem os w.g ++ [tch1 w.g N w], h.tch _ _, (tch_perm nd' hw').symm.trans (tch_perm2 hp), ?_, ?_, by unfold tch; rw [List.length_map]⟩
    · rw [List.pairwise_append]
      refine ⟨hs.sublist rem_sub, List.pairwise_singleton _ _, fun a ha b hb => ?_⟩
      rw [List.mem_singleton.mp hb, tch1_eq rfl]
      exact hN a (hp.mem_iff.mp (rem_sub.mem ha))
    · have := osnoc (w := tch1 w.g N w) (u := u) (orem w.g ho) (by rw [eg]; exact g_rem)
      rwa [eg] at this
  pop := by
    rintro ws l d0 td ⟨dx, dd, od, tn, tm, kvs, okvs, os, h, hp, hs, ho, rfl⟩ ok hne A c env T vs rest s Q E w bo rm sk hq
    have := ok.len
    cases os with
    | nil => exact absurd hp.nil_eq.symm hne
    | cons w0 os =>
      have hw0 : w0 ∈ ws := hp.mem_iff.mp (.head _)
      obtain ⟨t, hv⟩ := h.at ok.nd hw0
      obtain ⟨u, h0', hk⟩ := ofirst ho
      have hl : okvs.length = ws.length := (olen ho).trans hp.length_eq
      refine w.useP bo (rm.le (by decide)) sk (.refl _) (con_lru_pop h0' hv (by rw [h.length]; omega) (by rw [hl]; omega) hk) ?_
      rintro _ _ s' ⟨tp, t2, tk, rfl, rfl⟩ w'
      refine hq tp tk t w0 _ s' hw0 (fun u hu => ?_) ⟨dx, dd, od, t2, tm, _, _, rem (w0 :: os) w0.g, h.rem w0.g, rem_perm hp, hs.sublist rem_sub, orem w0.g ho, by rw [cur_rem ok.nd hw0]⟩ w'
      rcases List.mem_cons.mp (hp.mem_iff.mpr hu) with rfl | hu'
      · exact Int.le_refl _
      · exact Int.le_of_lt ((List.pairwise_cons.mp hs).1 u hu')
end

theorem va_cons {g k : Int} {v : Value} {r : List (Int × Value)} : valueAt ((k, v) :: r) g = if k = g then some v else valueAt r g := by
  unfold valueAt
  by_cases h : k = g
  · rw [if_pos h, List.find?_cons_of_pos (by simpa using h)]; rfl
  · rw [if_neg h, List.find?_cons_of_neg (by simpa using h)]
theorem va_app {g k : Int} {v : Value} {r : List (Int × Value)} : valueAt (r ++ [(k, v)]) g = match valueAt r g with | some x => some x | none => if k = g then some v else none := by
  induction r with
  | nil => rw [List.nil_append, va_cons]; rfl
  | cons p r ih =>
    obtain ⟨k', v'⟩ := p
    rw [List.cons_append, va_cons, va_cons]
    by_cases h : k' = g
    · rw [if_pos h, if_pos h]
    · rw [if_neg h, if_neg h, ih]
theorem va_map {g k : Int} {v : Value} {r : List (Int × Value)} : valueAt (r.map fun kv => if kv.1 = k then (kv.1, v) else kv) g = if g = k then (valueAt r g).map (fun _ => v) else valueAt r g := by
  induction r with
  | nil => simp [valueAt]
  | cons p r ih =>
    obtain ⟨k', v'⟩ := p
    rw [List.map_cons]
    by_cases h : k' = k
    · rw [if_pos h, va_cons, va_cons, ih]
      subst h
      by_cases e : k' = g
      · subst e; simp
      · rw [if_neg e, if_neg e]
    · rw [if_neg h, va_cons, va_cons, ih]
      by_cases e : k' = g
      · subst e; rw [if_pos rfl, if_pos rfl, if_neg h]
      · rw [if_neg e, if_neg e]
theorem va_mem {k : Int} {r : List (Int × Value)} : (valueAt r k).isSome = true ↔ k ∈ r.map (·.1) := by
  induction r with
  | nil => simp [valueAt]
  | cons p r ih =>
    obtain ⟨k', v'⟩ := p
    rw [va_cons, List.map_cons, List.mem_cons]
    by_cases e : k' = k
    · subst e; simp
    · rw [if_neg e, ih]
      exact ⟨fun h => .inr h, fun h => h.resolve_left fun q => e q.symm⟩
theorem stored_eq {kvs : List (Int × Value)} {k : Int} {v : Value} : stored kvs k v = if k ∈ kvs.map (·.1) then kvs.map (fun kv => if kv.1 = k then (kv.1, v) else kv) else kvs ++ [(k, v)] := by
  by_cases h : k ∈ kvs.map (·.1)
  · rw [if_pos h]
    unfold stored
    have : (kvs.any fun kv => decide (kv.1 = k)) = true := by
      rw [← valueAt_isSome_eq_any]; exact va_mem.mpr h
    first | rw [if_pos this] | rw [if_pos (by simpa using this)] | simp [this]
  · rw [if_neg h]
    exact stored_absent (valueAt_none_of_not_mem h) v
theorem va_stored {g k : Int} {v : Value} {r : List (Int × Value)} : valueAt (stored r k v) g = if g = k then some v else valueAt r g := by
  rw [stored_eq]
  by_cases h : k ∈ r.map (·.1)
  · rw [if_pos h, va_map]
    by_cases e : g = k
    · subst e
      rw [if_pos rfl, if_pos rfl]
      obtain ⟨x, hx⟩ := Option.isSome_iff_exists.mp (va_mem.mpr h)
      rw [hx]; rfl
    · rw [if_neg e, if_neg e]
  · rw [if_neg h, va_app]
    by_cases e : g = k
    · subst e
      rw [valueAt_none_of_not_mem h, if_pos rfl]
      first | done | simp
    · rw [if_neg e]
      cases valueAt r g with
      | some x => rfl
      | none => simp [Ne.symm e]
theorem va_without {g k : Int} {r : List (Int × Value)} : valueAt (without r k) g = if g = k then none else valueAt r g := by
  induction r with
  | nil => simp [valueAt, without]
  | cons p r ih =>
    obtain ⟨k', v'⟩ := p
    by_cases h : k' = k
    · have : without ((k', v') :: r) k = without r k := by unfold without; rw [List.filter_cons_of_neg (by simpa using h)]
      rw [this, ih]
      subst h
      by_cases e : g = k'
      · rw [if_pos e, if_pos e]
      · rw [if_neg e, if_neg e, va_cons, if_neg (Ne.symm e)]
    · have : without ((k', v') :: r) k = (k', v') :: without r k := by unfold without; rw [List.filter_cons_of_pos (by simpa using h)]
      rw [this, va_cons, ih, va_cons]
      by_cases e : g = k
      · subst e; rw [if_neg h, if_pos rfl, if_pos rfl]
      · rw [if_neg e, if_neg e]
theorem keys_stored {k : Int} {v : Value} {r : List (Int × Value)} (h : k ∈ r.map (·.1)) : (stored r k v).map (·.1) = r.map (·.1) := by
  rw [stored_eq, if_pos h, List.map_map]
  refine List.map_congr_left fun p _ => ?_
  show (if p.1 = k then (p.1, v) else p).1 = p.1
  split <;> rfl
theorem keys_without {k : Int} {r : List (Int × Value)} : (without r k).map (·.1) = (r.map (·.1)).filter (fun x => decide (x ≠ k)) := by
  unfold without
  rw [List.filter_map]; rfl
theorem gs_rem {ws : List Wt} {k : Int} : Gs (rem ws k) = (Gs ws).filter (fun x => decide (x ≠ k)) := by
  unfold Gs rem
  rw [List.filter_map]; rfl

def IsCl (v : Option Value) (o : Obj) : Prop := o.data = .cell v
def IsCode (q : Str) (o : Obj) : Prop := ∃ (vs : Array Value) (t : Tok), o.data = .fields vs ∧ vs[1]? = some (.str q t)
def IsTab (ps : Array Value) (o : Obj) : Prop := o = tabObj ps
section
variable {wd : World} {A : Around} {E : Value → Shared → Prop} {c : Cx} {env : Env} {T : List Str} {vs : List (Option Value)} {l l' : Led} {s : Shared} {x : Str} {v : Value} {pos : Pos} {ca : Addr}
theorem r_cell {M : Model} {Q : Value → Shared → Prop} (w : W c env T vs l s) (h : Has ca (IsCl (some v)) l) (hq : Q v s) (hk : env.kindOf x = some .cell := by rfl) (hc : env.cells.lookup x = some ca := by rfl) (hd : (x == ("__debug__" : Str)) = false := by decide) : wpAny M A (eval (.Name x pos) env) Q E s := by
  obtain ⟨o, ho, hd'⟩ := w.own.get h
  exact wpAny_Name (wpAny_loadName_cell w.fx.fn hk hc ⟨o, ho, hd'⟩ hq) hd
theorem r_free {M : Model} {Q : Value → Shared → Prop} (w : W c env T vs l s) (h : Has ca (IsCl (some v)) l) (hq : Q v s) (hk : env.kindOf x = some .free := by rfl) (hc : env.cells.lookup x = some ca := by rfl) (hd : (x == ("__debug__" : Str)) = false := by decide) (hn : (x == ("__classdict__" : Str)) = false := by decide) : wpAny M A (eval (.Name x pos) env) Q E s := by
  obtain ⟨o, ho, hd'⟩ := w.own.get h
  exact wpAny_Name (wpAny_loadName_free w.fx.fn hk hc ⟨o, ho, hd'⟩ hq hn) hd
theorem r_storecell {M : Model} {u : Option Value} {Q : Unit → Shared → Prop} (w : W c env T vs l s) (h : Up ca (IsCl u) (IsCl (some v)) l l') (hq : ∀ s', W c env T vs l' s' → Q () s') (hk : env.kindOf x = some .cell := by rfl) (hc : env.cells.lookup x = some ca := by rfl) : wpAny M A (storeName env x v) Q E s := by
  obtain ⟨pre, post, rfl, rfl⟩ := h.split
  obtain ⟨o, ho, hd'⟩ := w.own.led (ca, IsCl u) (by simp)
  refine wpAny_storeName_cell w.fx.fn hk hc ⟨o, ho, hd'⟩ fun h' hv hs => ?_
  obtain ⟨o', ho', hd''⟩ := hv
  exact hq _ (w.upd (tk := s.toks) h hs ho' hd'')
theorem W.add {a : Addr} {P : Obj → Prop} {o : Obj} (w : W c env T vs l s) (ho : s.heap.get? a = some o) (hP : P o) (hb : c.B.get? a = none) (hne : ∀ p ∈ l ++ c.fl, p.1 ≠ a) (hl : a ≠ env.locals) : W c env T vs ((a, P) :: l) s := by
  refine ⟨⟨w.own.base, fun p hp => ?_, fun p hp => ?_, ?_, w.own.gens, w.own.os, w.own.size⟩, w.fr, fun p hp => ?_, w.fx⟩
  · rcases List.mem_cons.mp hp with rfl | hp
    · exact ⟨o, ho, hP⟩
    · exact w.own.led p hp
  · rcases List.mem_cons.mp hp with rfl | hp
    · exact hb
    · exact w.own.off p hp
  · rw [List.cons_append, List.map_cons, List.nodup_cons]
    refine ⟨fun hm => ?_, w.own.nd⟩
    obtain ⟨q, hq, e⟩ := List.mem_map.mp hm
    exact hne q hq e
  · rcases List.mem_cons.mp hp with rfl | hp
    · exact hl
    · exact w.offL p hp
theorem o4 (wd : World) : (KF wd.params).lookup 4 = some (o_4 wd.params) := by kernel_rfl
theorem bm4 (wd : World) : nsIn (KF wd.params) mainGlobals "__builtins__" = some (some (.ref 4)) := by kernel_rfl
theorem r_nest {name : Str} {params : Arguments} {body : List Stmt} {scope : Scope} {P c0 : Addr} {clos : List (Str × Addr)} {ps : Array Value} {l' : Addr → Led} {Q : Flow → Shared → Prop} (w : W c env T vs l s) (bo : BaseOk wd c.B) (hC : codeHdIn (KF wd.params) c0 P = true)
    (u : ∀ c', Up P (IsTab ps) (IsTab (ps ++ #[rawInt pos.line, rawInt pos.col, .ref c'])) l (l' c')) (hcl : closureFor scope env = pure clos)
    (h : ∀ f c' doc pm ctv s', W c env T vs ((f, IsFnObj (fnX name (qualnameIn env name name) params body scope clos .none .none doc pm none (.ref c') ctv)) :: (c', IsCode (qualnameIn env name name)) :: l' c') s' → wpAny (model pw wd) A (storeName env name (.ref f)) (fun _ s'' => Q .next s'') E s')
    (hg : env.globals = mainGlobals := by rfl) (hcode : env.code = .ref c0 := by rfl) (ht : TriplesOk ps.toList := by exact True.intro) (hnf : codeAmong pos ps.toList = none := by rfl) (hd0 : params.defaults = [] := by rfl) (hk0 : params.kw_defaults = [] := by rfl) (ha : annTrees params none env = [] := by rfl) :
    wpAny (model pw wd) A (exec (.FunctionDef name params body [] none [] scope none name pos) env) Q E s := by
  refine nestDef_K hd0 hk0 ha ?_
  obtain ⟨mg, hmg⟩ := bo.g
  have hgs := hmg.keeps w.own.base
  have X := bo.K.keeps w.own.base
  obtain ⟨pre, post, e1, e2⟩ := (u 0).split
  have hT : (P, IsTab ps) ∈ l := by rw [e1]; simp
  obtain ⟨o, ho, rfl⟩ := w.own.led _ (List.mem_append_left _ hT)
  have hbP := w.own.off _ (List.mem_append_left _ hT)
  have hLP := w.offL _ (List.mem_append_left _ hT)
  have hgP : mainGlobals ≠ P := fun q => by
    obtain ⟨o, es, ep, e, hd, _⟩ := hgs
    rw [q, ho] at e; cases e; cases hd
  have h4 := X _ _ (o4 wd)
  have h4P : (4 : Addr) ≠ P := fun q => by rw [q, ho] at h4; cases h4
  refine makeFunction_K (mg := mg) hcl hg hgs hcode (codeHd_of_K X hC) ho ht hnf hgP ⟨4, _, mg_of X hgs (bm4 wd), by decide, by decide, h4P, h4, rfl, rfl, rfl⟩ fun c' ctv doc h' tk hx hge hlt hrec htb => ?_
  obtain ⟨c₂, oc, us, t, e3, hoc, hd, hv⟩ := hrec
  cases e3
  obtain ⟨pre, post, e4, e5⟩ := (u c').split
  have w0 := w
  rw [e4] at w
  obtain ⟨n, o', n', N, hPo, h1, h2, d1, d2⟩ := w.news
  have hm := N (P, o') (by simp)
  have hLc : env.locals < c' := Nat.lt_of_lt_of_le (by obtain ⟨_, _, _, z, _⟩ := w.fr.ns; exact Heap.lt_size z) hge
  have F' : Fr c.B env.locals h' (loc T vs) := by
    refine ⟨?_, fun b x e => hx b x (fun q => by rw [q, hbP] at e; cases e) (w.own.base b x e), w.fr.above⟩
    obtain ⟨oL, es, ep, hL, r⟩ := w.fr.ns
    exact ⟨oL, es, ep, hx _ _ (Ne.symm hLP) hL, r⟩
  have N' : News c.B env.locals h' (n ++ (P, tabObj (ps ++ #[rawInt pos.line, rawInt pos.col, .ref c'])) :: n') := fun p hp => by
    rcases List.mem_append.mp hp with q | q
    · have z := N p (List.mem_append_left _ q)
      exact ⟨hx _ _ (d1 p q) z.1, z.2⟩
    · rcases List.mem_cons.mp q with rfl | q
      · exact ⟨htb, hm.2⟩
      · have z := N p (List.mem_append_right _ (.tail _ q))
        exact ⟨hx _ _ (d2 p q) z.1, z.2⟩
  have w1 := w.back (tk := tk) F' N' (P' := IsTab (ps ++ #[rawInt pos.line, rawInt pos.col, .ref c'])) rfl h1 h2
  rw [← e5] at w1
  have hmem : ∀ p ∈ l' c' ++ c.fl, p.1 < s.heap.objs.size := fun p hp => by
    have : p.1 ∈ (l ++ c.fl).map (·.1) := by
      have e : (l' c' ++ c.fl).map (·.1) = (l ++ c.fl).map (·.1) := by rw [e4, e5]; simp
      rw [← e]; exact List.mem_map_of_mem hp
    obtain ⟨q, hq, e⟩ := List.mem_map.mp this
    obtain ⟨x, hx', _⟩ := w0.own.led q hq
    rw [← e]; exact Heap.lt_size hx'
  have hbc : c.B.get? c' = none := by
    cases q : c.B.get? c' with
    | none => rfl
    | some x => exact absurd (Heap.lt_size (w0.own.base _ _ q)) (Nat.not_lt.mpr hge)
  have w2 := w1.add (a := c') (P := IsCode (qualnameIn env name name)) hoc ⟨us, t, hd, hv⟩ hbc (fun p hp e => absurd (hmem p hp) (Nat.not_lt.mpr (by rw [e]; exact hge))) (Nat.ne_of_gt hLc)
  have w3 := w2.alloc (o := fnMade name (qualnameIn env name name) params body scope clos doc ((mg "__name__").getD .none) c' ctv) (tk := tk) (P := IsFnObj (fnX name (qualnameIn env name name) params body scope clos .none .none doc ((mg "__name__").getD .none) none (.ref c') ctv)) rfl ⟨_, _, _, rfl⟩
  exact h _ _ _ _ _ _ w3
end
def fnOkO (fd : FuncData) (T : List Str) : Bool :=
  (fd.scope.names.all fun x => x.2 != .cell) && (T.all fun x => fd.scope.names.lookup x == some .local && !(x == ("__debug__" : Str))) && nodupS T && !fd.scope.isCoroutine && !fd.scope.isGenerator && fd.scope.kind == .function
theorem enterO {wd : World} {A : Around} {c : Cx} {l : Led} {s : Shared} {R : Result → Shared → Prop} {f c' : Addr} {fd : FuncData} {body : List Stmt} {T : List Str} {vs : List (Option Value)} {args : Args} {binds : List (Str × Value)}
    (hf : Has f (IsFnObj fd) l) (hc : Has c' (IsCode fd.qualname) l) (hcode : fd.code = .ref c') (hbody : fd.body = .stmts body) (ok : fnOkO fd T = true) (bo : BaseOk wd c.B) (o : Own c l s) (hroom : A.depth < recursionLimit) (hbind : BindsTo s fd args binds) (hv : Bv binds T vs)
    (k : ∀ L s', W c (callEnv fd L f) T vs l s' → wpAny (model pw wd) (A.deeper (callEnv fd L f)) (execs body (callEnv fd L f))
        (fun fl s'' => R (.ok (.ret (match fl with | .ret v => v | _ => .none))) s'')
        (fun e s'' => wpAny (model pw wd) (A.deeper (callEnv fd L f)) (leaving (callEnv fd L f) e) (fun _ s3 => R (.error e) s3) (fun e' s3 => R (.error e') s3) s'') s') :
    codeAny (model pw wd) A (.call (.ref f) args) R s := by
  unfold fnOkO at ok
  simp only [Bool.and_eq_true, List.all_eq_true, bne_iff_ne, ne_eq, beq_iff_eq, Bool.not_eq_true'] at ok
  obtain ⟨⟨⟨⟨⟨h2, h3⟩, h4⟩, h5⟩, h6⟩, h7⟩ := ok
  obtain ⟨of, hof, oc, od, sl, rfl⟩ := o.get hf
  obtain ⟨ocd, hocd, us, t, hd, hu⟩ := o.get hc
  have nd := nodupS_spec h4
  refine codeAny_call_def hroom hof rfl (bo.lim.keeps o.base) ⟨c', ocd, us, t, hcode, hocd, hd, hu⟩ hbody hbind (fun x hx => h2 x hx) (fun x hx => (h3 _ (hv.names x hx)).1) (fun h₀ hns hk => ?_) h5 h6 h7
  refine k _ _ ⟨⟨fun b x e => hk b x (o.base b x e), fun p hp => ?_, o.off, o.nd, o.gens, o.os, ?_⟩, ⟨?_, fun b x e => hk b x (o.base b x e), o.size⟩, fun p hp e => ?_, ⟨h7, fun x hx => (h3 x hx).1, nd, fun x hx => (h3 x hx).2⟩⟩
  · obtain ⟨x, hx, hP⟩ := o.led p hp
    exact ⟨x, hk _ _ hx, hP⟩
  · exact Nat.le_trans o.size (Nat.le_of_lt hns.lt)
  · rw [hv.loc nd]; exact hns
  · obtain ⟨x, hx, _⟩ := o.led p hp
    have e' : p.1 = s.heap.objs.size := e
    rw [e'] at hx
    exact absurd (Heap.lt_size hx) (Nat.lt_irrefl _)
theorem spec_defO {wd : World} {n : Nat} {f c' : Addr} {fd : FuncData} {body : List Stmt} {T : List Str} {vs : List (Option Value)} {args : List Value} {binds : List (Str × Value)} {fp : Led} {post : Value → Led → Prop}
    (hf : Has f (IsFnObj fd) fp) (hc : Has c' (IsCode fd.qualname) fp) (hcode : fd.code = .ref c') (hbody : fd.body = .stmts body) (ok : fnOkO fd T = true) (hbind : ∀ s : Shared, BindsTo s fd ⟨args, []⟩ binds) (hv : Bv binds T vs)
    (k : ∀ (c : Cx) (A : Around) (L : Addr) (s : Shared) (Q : Value → Shared → Prop) (E : Value → Shared → Prop), BaseOk wd c.B → Rm n A → Stk A c (callEnv fd L f) → (∀ v fp' s', post v fp' → Own c fp' s' → Q v s') → W c (callEnv fd L f) T vs fp s →
      wpAny (model pw wd) A (execs body (callEnv fd L f)) (fun fl s'' => Q (match fl with | .ret v => v | _ => .none) s'') E s) : Spec wd (n + 1) (call (.ref f) args) fp post := by
  intro c A s bo rm bel o Q E hq
  have hk : fd.scope.kind = .function := by
    have ok := ok
    unfold fnOkO at ok
    simp only [Bool.and_eq_true, beq_iff_eq] at ok
    exact ok.2
  exact wpAny_call (enterO hf hc hcode hbody ok bo o rm.room (hbind s) hv fun L s' w => k c _ L s' (fun v s'' => Q v s'') _ bo rm.deeper (stk_of bel hk) hq w)
section
variable {wd : World} {A : Around} {E : Value → Shared → Prop} {c : Cx} {env : Env} {T : List Str} {vs : List (Option Value)} {l l' : Led} {s : Shared} {x : Str} {v : Value} {pos : Pos} {ca : Addr}
theorem r_cellN {M : Model} {Q : Value → Shared → Prop} (hk : env.kindOf x = some .cell) (hc : env.cells.lookup x = some ca) (w : W c env T vs l s) (h : Has ca (IsCl (some v)) l) (hq : Q v s) (hd : (x == ("__debug__" : Str)) = false := by decide) : wpAny M A (eval (.Name x pos) env) Q E s := r_cell w h hq hk hc hd
theorem r_freeN {M : Model} {Q : Value → Shared → Prop} (hk : env.kindOf x = some .free) (hc : env.cells.lookup x = some ca) (w : W c env T vs l s) (h : Has ca (IsCl (some v)) l) (hq : Q v s) (hd : (x == ("__debug__" : Str)) = false := by decide) (hn : (x == ("__classdict__" : Str)) = false := by decide) : wpAny M A (eval (.Name x pos) env) Q E s := r_free w h hq hk hc hd hn
theorem r_storeC {M : Model} {u : Option Value} {Q : Unit → Shared → Prop} (hk : env.kindOf x = some .cell) (hc : env.cells.lookup x = some ca) (w : W c env T vs l s) (h : Up ca (IsCl u) (IsCl (some v)) l l') (hq : ∀ s', W c env T vs l' s' → Q () s') : wpAny M A (storeName env x v) Q E s := r_storecell w h hq hk hc
end

def fnOkC (K : Frag) (fd : FuncData) (T : List Str) : Bool :=
  codeIn K fd.code fd.qualname && fd.closure.isEmpty && (T.all fun x => fd.scope.names.lookup x == some .local && !(x == ("__debug__" : Str))) && nodupS T && !fd.scope.isCoroutine && !fd.scope.isGenerator && fd.scope.kind == .function
structure FnC (wd : World) (f : Addr) (fd : FuncData) (body : List Stmt) (T : List Str) : Prop where
  obj : ∃ o, (KF wd.params).lookup f = some o ∧ o.data = .func fd
  body : fd.body = .stmts body
  ok : fnOkC (KF wd.params) fd T = true
theorem enterC {wd : World} {A : Around} {c : Cx} {l : Led} {s : Shared} {R : Result → Shared → Prop} {f : Addr} {fd : FuncData} {body : List Stmt} {T : List Str} {vs : List (Option Value)} {args : Args} {binds : List (Str × Value)} {cl : Nat → List (Str × Addr)} {cells : Addr → Led}
    (F : FnC wd f fd body T) (bo : BaseOk wd c.B) (o : Own c l s) (hroom : A.depth < recursionLimit) (hbind : BindsTo s fd args binds)
    (hcl : ∀ n, cellsFrom n fd.scope.names [] = cl n) (hkind : ∀ n, ∀ x ∈ binds, fd.scope.names.lookup x.1 = some .local ∨ (fd.scope.names.lookup x.1 = some .cell ∧ ((cl n).lookup x.1).isSome = true))
    (hlk : ∀ n, ∀ p ∈ cl n, (cl n).lookup p.1 = some p.2) (hloc : ∀ L, bindL (callEnvC fd L f).kindOf binds (fun _ => none) = loc T vs)
    (hcells : ∀ L, (cl (L + 1)).map (fun p => (p.2, IsCl (bindC (callEnvC fd L f).kindOf binds (fun _ => none) p.1))) = cells L)
    (k : ∀ L s', W c (callEnvC fd L f) T vs (cells L ++ l) s' → wpAny (model pw wd) (A.deeper (callEnvC fd L f)) (execs body (callEnvC fd L f))
        (fun fl s'' => R (.ok (.ret (match fl with | .ret v => v | _ => .none))) s'')
        (fun e s'' => wpAny (model pw wd) (A.deeper (callEnvC fd L f)) (leaving (callEnvC fd L f) e) (fun _ s3 => R (.error e) s3) (fun e' s3 => R (.error e') s3) s'') s') :
    codeAny (model pw wd) A (.call (.ref f) args) R s := by
  obtain ⟨⟨ob, hob, hd⟩, hbody, ok⟩ := F
  simp only [fnOkC, Bool.and_eq_true, List.all_eq_true, beq_iff_eq, Bool.not_eq_true', List.isEmpty_iff] at ok
  obtain ⟨⟨⟨⟨⟨⟨h1, h2⟩, h3⟩, h4⟩, h5⟩, h6⟩, h7⟩ := ok
  have X : (KF wd.params).In s.heap := bo.K.keeps o.base
  have nd := nodupS_spec h4
  refine codeAny_call_function hroom (X _ _ hob) hd h5 h6 hbody (codeRec_of X h1) (hbind _ _ _ _ ?_)
  rw [h2]
  refine wpAny_newFunctionEnv_cells h7 (fun x hx => by rw [hcl]; exact hkind _ x hx) fun env he s' x => ?_
  have he' : env = callEnvC fd s.heap.objs.size f := he
  subst he'
  obtain ⟨h₁, tk, rfl, hk⟩ := x.done
  refine ⟨(bo.lim.keeps o.base).keeps hk, codeAny_func ?_⟩
  have hcv : (callEnvC fd s.heap.objs.size f).cells = cl (s.heap.objs.size + 1) := hcl _
  have wns : h₁.Ns (callEnvC fd s.heap.objs.size f).locals (loc T vs) := by rw [← hloc s.heap.objs.size]; exact x.toInCall.ns
  refine k s.heap.objs.size _ ?_
  rw [← hcells s.heap.objs.size]
  have big : ∀ p ∈ cl (s.heap.objs.size + 1), s.heap.objs.size < p.2 := fun p hp => x.above p.1 p.2 (by rw [hcv]; exact hp)
  have small : ∀ p ∈ l ++ c.fl, p.1 < s.heap.objs.size := fun p hp => by
    obtain ⟨x, hx, _⟩ := o.led p hp
    exact Heap.lt_size hx
  have inC : ∀ p ∈ (cl (s.heap.objs.size + 1)).map (fun p => (p.2, IsCl (bindC (callEnvC fd s.heap.objs.size f).kindOf binds (fun _ => none) p.1))) ++ l ++ c.fl, (∃ q ∈ cl (s.heap.objs.size + 1), p = (q.2, IsCl (bindC (callEnvC fd s.heap.objs.size f).kindOf binds (fun _ => none) q.1))) ∨ p ∈ l ++ c.fl := fun p hp => by
    rw [List.append_assoc] at hp
    rcases List.mem_append.mp hp with hm | hm
    · obtain ⟨q, hq, rfl⟩ := List.mem_map.mp hm
      exact .inl ⟨q, hq, rfl⟩
    · exact .inr hm
  refine ⟨⟨fun b x e => hk b x (o.base b x e), fun p hp => ?_, fun p hp => ?_, ?_, o.gens, o.os, ?_⟩, ⟨wns, fun b x e => hk b x (o.base b x e), o.size⟩, fun p hp e => ?_, ⟨h7, fun x hx => (h3 x hx).1, nd, fun x hx => (h3 x hx).2⟩⟩
  · rcases inC p hp with ⟨q, hq, rfl⟩ | hp
    · obtain ⟨oc, hoc, hdc⟩ := x.cell q.1 q.2 (by rw [hcv]; exact hlk _ q hq)
      exact ⟨oc, hoc, hdc⟩
    · obtain ⟨x, hx, hP⟩ := o.led p hp
      exact ⟨x, hk _ _ hx, hP⟩
  · rcases inC p hp with ⟨q, hq, rfl⟩ | hp
    · cases z : c.B.get? q.2 with
      | none => rfl
      | some y => exact absurd (Heap.lt_size (o.base _ _ z)) (Nat.not_lt.mpr (Nat.le_of_lt (big q hq)))
    · exact o.off p hp
  · rw [List.append_assoc, List.map_append, List.nodup_append]
    refine ⟨?_, o.nd, fun a ha b hb e => ?_⟩
    · rw [List.map_map]
      have ap := x.apart
      rw [hcv] at ap
      exact List.pairwise_map.mpr ap
    · obtain ⟨p, hp, rfl⟩ := List.mem_map.mp ha
      obtain ⟨q, hq, rfl⟩ := List.mem_map.mp hp
      obtain ⟨r, hr, rfl⟩ := List.mem_map.mp hb
      have := small r hr
      rw [← e] at this
      exact Nat.lt_irrefl _ (Nat.lt_trans this (big q hq))
  · exact Nat.le_trans o.size (Nat.le_of_lt wns.lt)
  · rcases inC p hp with ⟨q, hq, rfl⟩ | hp
    · exact Nat.ne_of_gt (big q hq) e
    · have := small p hp
      rw [e] at this
      exact Nat.lt_irrefl _ this
theorem stk_ofC {A : Around} {c : Cx} {fd : FuncData} {L f : Addr} (b : Bel A c) (hk : fd.scope.kind = .function) : Stk (A.deeper (callEnvC fd L f)) c (callEnvC fd L f) := by
  obtain ⟨outer, B, F⟩ := b
  refine ⟨outer, ?_, F, rfl, hk⟩
  show A.frames.map _ = _; rw [B]; rfl
theorem spec_defCells {wd : World} {n : Nat} {f : Addr} {fd : FuncData} {body : List Stmt} {T : List Str} {vs : List (Option Value)} {args : List Value} {binds : List (Str × Value)} {fp : Led} {post : Value → Led → Prop} {cl : Nat → List (Str × Addr)} {cells : Addr → Led}
    (F : FnC wd f fd body T) (hbind : ∀ s : Shared, (KF wd.params).In s.heap → BindsTo s fd ⟨args, []⟩ binds)
    (hcl : ∀ n, cellsFrom n fd.scope.names [] = cl n) (hkind : ∀ n, ∀ x ∈ binds, fd.scope.names.lookup x.1 = some .local ∨ (fd.scope.names.lookup x.1 = some .cell ∧ ((cl n).lookup x.1).isSome = true))
    (hlk : ∀ n, ∀ p ∈ cl n, (cl n).lookup p.1 = some p.2) (hloc : ∀ L, bindL (callEnvC fd L f).kindOf binds (fun _ => none) = loc T vs)
    (hcells : ∀ L, (cl (L + 1)).map (fun p => (p.2, IsCl (bindC (callEnvC fd L f).kindOf binds (fun _ => none) p.1))) = cells L)
    (k : ∀ (c : Cx) (A : Around) (L : Addr) (s : Shared) (Q : Value → Shared → Prop) (E : Value → Shared → Prop), BaseOk wd c.B → Rm n A → Stk A c (callEnvC fd L f) → (∀ v fp' s', post v fp' → Own c fp' s' → Q v s') → W c (callEnvC fd L f) T vs (cells L ++ fp) s →
      wpAny (model pw wd) A (execs body (callEnvC fd L f)) (fun fl s'' => Q (match fl with | .ret v => v | _ => .none) s'') E s) : Spec wd (n + 1) (call (.ref f) args) fp post := by
  intro c A s bo rm bel o Q E hq
  have hk : fd.scope.kind = .function := by
    have ok := F.ok
    simp only [fnOkC, Bool.and_eq_true, beq_iff_eq] at ok
    exact ok.2
  exact wpAny_call (enterC F bo o rm.room (hbind s (bo.K.keeps o.base)) hcl hkind hlk hloc hcells fun L s' w =>
    k c _ L s' (fun v s'' => Q v s'') _ bo rm.deeper (stk_ofC bel hk) hq w)

section
variable {wd : World} {A : Around} {E : Value → Shared → Prop} {c : Cx} {env cenv : Env} {T Tc : List Str} {vs vc : List (Option Value)} {l l' : Led} {s : Shared}
def Cx.inn (c : Cx) (L : Addr) (m : Str → Option Value) : Cx := { c with frs := (L, m) :: c.frs }
theorem W.swap (w : W c env T vs ((cenv.locals, NsObj (loc Tc vc)) :: l) s) (fx : Fx cenv Tc) (hC : c.B.objs.size ≤ cenv.locals) : W (c.inn env.locals (loc T vs)) cenv Tc vc l s := by
  have hfl : (c.inn env.locals (loc T vs)).fl = (env.locals, NsObj (loc T vs)) :: c.fl := rfl
  have nd := w.own.nd
  rw [List.cons_append, List.map_cons, List.nodup_cons] at nd
  obtain ⟨oL, es, ep, hL, hd, hk1, hk2⟩ := w.fr.ns
  obtain ⟨oC, hoC, es', ep', hd', hk1', hk2'⟩ := w.own.led (cenv.locals, NsObj (loc Tc vc)) (.head _)
  have mem : ∀ p ∈ l ++ (c.inn env.locals (loc T vs)).fl, p = (env.locals, NsObj (loc T vs)) ∨ p ∈ l ++ c.fl := fun p hp => by
    rw [hfl] at hp
    rcases List.mem_append.mp hp with q | q
    · exact .inr (List.mem_append_left _ q)
    · rcases List.mem_cons.mp q with rfl | q
      · exact .inl rfl
      · exact .inr (List.mem_append_right _ q)
  have hLb : c.B.get? env.locals = none := by
    cases q : c.B.get? env.locals with
    | none => rfl
    | some x => exact absurd (Heap.lt_size q) (Nat.not_lt.mpr w.fr.above)
  refine ⟨⟨w.own.base, fun p hp => ?_, fun p hp => ?_, ?_, w.own.gens, w.own.os, w.own.size⟩, ⟨⟨oC, es', ep', hoC, hd', hk1', hk2'⟩, w.own.base, hC⟩, fun p hp e => ?_, fx⟩
  · rcases mem p hp with rfl | q
    · exact ⟨oL, hL, es, ep, hd, hk1, hk2⟩
    · exact w.own.led p (.tail _ q)
  · rcases mem p hp with rfl | q
    · exact hLb
    · exact w.own.off p (.tail _ q)
  · rw [hfl]
    have pm : (l ++ ((env.locals, NsObj (loc T vs)) :: c.fl)).Perm ((env.locals, NsObj (loc T vs)) :: (l ++ c.fl)) := List.perm_middle
    refine (pm.map (·.1)).nodup_iff.mpr ?_
    rw [List.map_cons, List.nodup_cons]
    refine ⟨fun hm => ?_, nd.2⟩
    obtain ⟨p, hp, e⟩ := List.mem_map.mp hm
    exact w.offL p (.tail _ hp) e
  · rcases mem p hp with rfl | q
    · exact w.offL (cenv.locals, NsObj (loc Tc vc)) (.head _) e.symm
    · exact nd.1 (by rw [← e]; exact List.mem_map_of_mem (f := (·.1)) q)
theorem W.unswap (w : W (c.inn env.locals (loc T vs)) cenv Tc vc l s) (fx : Fx env T) (hL : c.B.objs.size ≤ env.locals) : W c env T vs ((cenv.locals, NsObj (loc Tc vc)) :: l) s := by
  have hfl : (c.inn env.locals (loc T vs)).fl = (env.locals, NsObj (loc T vs)) :: c.fl := rfl
  have nd := w.own.nd
  rw [hfl] at nd
  have pm : (l ++ ((env.locals, NsObj (loc T vs)) :: c.fl)).Perm ((env.locals, NsObj (loc T vs)) :: (l ++ c.fl)) := List.perm_middle
  have nd2 := (pm.map (·.1)).nodup_iff.mp nd
  rw [List.map_cons, List.nodup_cons] at nd2
  have sub : ∀ p ∈ l ++ c.fl, p ∈ l ++ (c.inn env.locals (loc T vs)).fl := fun p hp => by
    rw [hfl]
    rcases List.mem_append.mp hp with q | q
    · exact List.mem_append_left _ q
    · exact List.mem_append_right _ (.tail _ q)
  have mL : (env.locals, NsObj (loc T vs)) ∈ l ++ (c.inn env.locals (loc T vs)).fl := by rw [hfl]; exact List.mem_append_right _ (.head _)
  obtain ⟨oC, es', ep', hoC, hd', hk1', hk2'⟩ := w.fr.ns
  obtain ⟨oL, hoL, es, ep, hd, hk1, hk2⟩ := w.own.led _ mL
  have hCb : c.B.get? cenv.locals = none := by
    cases q : c.B.get? cenv.locals with
    | none => rfl
    | some x => exact absurd (Heap.lt_size q) (Nat.not_lt.mpr w.fr.above)
  refine ⟨⟨w.own.base, fun p hp => ?_, fun p hp => ?_, ?_, w.own.gens, w.own.os, w.own.size⟩, ⟨⟨oL, es, ep, hoL, hd, hk1, hk2⟩, w.own.base, hL⟩, fun p hp e => ?_, fx⟩
  · rcases List.mem_cons.mp hp with rfl | q
    · exact ⟨oC, hoC, es', ep', hd', hk1', hk2'⟩
    · exact w.own.led p (sub p q)
  · rcases List.mem_cons.mp hp with rfl | q
    · exact hCb
    · exact w.own.off p (sub p q)
  · rw [List.cons_append, List.map_cons, List.nodup_cons]
    refine ⟨fun hm => ?_, nd2.2⟩
    obtain ⟨p, hp, e⟩ := List.mem_map.mp hm
    exact w.offL p (sub p hp) e
  · rcases List.mem_cons.mp hp with rfl | q
    · exact w.offL _ mL e.symm
    · exact nd2.1 (by rw [← e]; exact List.mem_map_of_mem (f := (·.1)) q)
theorem W.forget {a : Addr} {P : Obj → Prop} {h' : Heap} {tk : Nat} (w : W c env T vs l s) (t : Take (a, P) l l') (hx : ∀ b o, b ≠ a → s.heap.get? b = some o → h'.get? b = some o) : W c env T vs l' { s with heap := h', toks := tk } := by
  have w1 := w.perm t.perm
  have nd := w1.own.nd
  rw [List.cons_append, List.map_cons, List.nodup_cons] at nd
  have hb := w1.own.off (a, P) (.head _)
  have hl := w1.offL (a, P) (.head _)
  obtain ⟨oL, es, ep, hL, r⟩ := w.fr.ns
  have ns' : h'.Ns env.locals (loc T vs) := ⟨oL, es, ep, hx _ _ (Ne.symm hl) hL, r⟩
  refine ⟨⟨fun b x e => hx b x (fun q => by rw [q, hb] at e; cases e) (w.own.base b x e), fun p hp => ?_, fun p hp => w1.own.off p (.tail _ hp), nd.2, w.own.gens, w.own.os, Nat.le_of_lt (Nat.lt_of_le_of_lt w.fr.above ns'.lt)⟩, ⟨ns', fun b x e => hx b x (fun q => by rw [q, hb] at e; cases e) (w.own.base b x e), w.fr.above⟩, fun p hp => w1.offL p (.tail _ hp), w.fx⟩
  obtain ⟨o, ho, hP⟩ := w1.own.led p (.tail _ hp)
  exact ⟨o, hx _ _ (fun q => nd.1 (by rw [← q]; exact List.mem_map_of_mem (f := (·.1)) hp)) ho, hP⟩
end
def IsLi (ax : Addr) (i : Nat) (o : Obj) : Prop := o.cls = .type "list_iterator" ∧ o.data = .fields #[.ref ax, .int i 0]
def IsRi (x left : Int) (o : Obj) : Prop := o = { cls := .type "range_iterator", dict := none, data := .fields #[rawInt x, rawInt left, rawInt 1], slots := #[] }
section
variable {wd : World} {A : Around} {E : Value → Shared → Prop} {c : Cx} {env : Env} {T : List Str} {vs : List (Option Value)} {l l' : Led} {s : Shared} {ax I : Addr} {xs : List Value} {i : Nat} {v : Value}
theorem r_iterL {Q : Value → Shared → Prop} (w : W c env T vs l s) (hd : Has ax (IsLs xs) l) (h : ∀ I s', W c env T vs ((I, IsLi ax 0) :: l) s' → Q (.ref I) s') : wpAny (model pw wd) A (pyIter (.ref ax)) Q E s :=
  wpAny_pyIter_list (ls_is w.own hd) (h _ _ (w.alloc (tk := s.toks) rfl ⟨rfl, rfl⟩))
theorem r_nextL {Q : Option Value → Shared → Prop} (w : W c env T vs l s) (u : Up I (IsLi ax i) (IsLi ax (i + 1)) l l') (hd : Has ax (IsLs xs) l) (hx : xs[i]? = some v) (h : ∀ s', W c env T vs l' s' → Q (some v) s') : wpAny (model pw wd) A (pyNext (.ref I)) Q E s := by
  obtain ⟨pre, post, rfl, rfl⟩ := u.split
  obtain ⟨o, ho, h1, h2⟩ := w.own.led (I, IsLi ax i) (by simp)
  refine wpAny_pyNext_list_item (i := i) ⟨o, ho, h1, h2⟩ (ls_is w.own hd) (by simpa using hx) fun h' hit hs => ?_
  obtain ⟨o', ho', h1', h2'⟩ := hit
  exact h _ (w.upd (tk := s.toks) u hs ho' ⟨h1', h2'⟩)
theorem r_nextL_end {Q : Option Value → Shared → Prop} (w : W c env T vs l s) (hh : A.handled = none) (t : Take (I, IsLi ax i) l l') (hd : Has ax (IsLs xs) l) (hx : xs[i]? = none) (h : ∀ s', W c env T vs l' s' → Q none s') : wpAny (model pw wd) A (pyNext (.ref I)) Q E s := by
  obtain ⟨o, ho, h1, h2⟩ := w.own.led (I, IsLi ax i) (List.mem_append_left _ (t.perm.mem_iff.mpr (.head _)))
  refine wpAny_pyNext_list_end hh (i := i) ⟨o, ho, h1, h2⟩ (ls_is w.own hd) (by simpa using hx) fun h' hs => ?_
  exact h _ (w.forget (tk := s.toks) t fun b o hb e => hs b o hb e)
theorem r_nextR {x left : Int} {Q : Option Value → Shared → Prop} (w : W c env T vs l s) (u : Up I (IsRi x left) (IsRi (x + 1) (left - 1)) l l') (hl : 0 < left) (h : ∀ t s', W c env T vs l' s' → Q (some (.int x t)) s') : wpAny (model pw wd) A (pyNext (.ref I)) Q E s := by
  obtain ⟨pre, post, rfl, rfl⟩ := u.split
  obtain ⟨o, ho, rfl⟩ := w.own.led (I, IsRi x left) (by simp)
  exact wpAny_pyNext_range_item ho hl fun h' hit hs => h _ _ (w.upd (tk := s.toks + 1) u hs hit rfl)
theorem r_nextR_end {x left : Int} {Q : Option Value → Shared → Prop} (w : W c env T vs l s) (hh : A.handled = none) (t : Take (I, IsRi x left) l l') (hl : left ≤ 0) (h : ∀ s', W c env T vs l' s' → Q none s') : wpAny (model pw wd) A (pyNext (.ref I)) Q E s := by
  obtain ⟨o, ho, rfl⟩ := w.own.led (I, IsRi x left) (List.mem_append_left _ (t.perm.mem_iff.mpr (.head _)))
  exact wpAny_pyNext_range_end hh ho hl fun h' hs => h _ (w.forget (tk := s.toks) t fun b o hb e => hs b o hb e)
end

def IsRg (n : Int) (o : Obj) : Prop := ∃ t u v : Tok, o = { cls := .type "range", dict := none, data := .fields #[.int 0 t, .int n u, .int 1 v], slots := #[] }
section
variable {wd : World} {A : Around} {E : Value → Shared → Prop} {c : Cx} {env : Env} {T : List Str} {vs : List (Option Value)} {l l' : Led} {s : Shared} {r I d : Addr} {n : Int} {t : Tok} {kvs : List (Int × Value)} {i ep : Nat} {k : Int} {v : Value}
theorem r_range {Q : Value → Shared → Prop} (w : W c env T vs l s) (h : ∀ r s', W c env T vs ((r, IsRg n) :: l) s' → Q (.ref r) s') : wpAny (model pw wd) A (call (.type "range") [.int n t]) Q E s :=
  call_range_1 (h _ _ (w.alloc (tk := s.toks + 1 + 1) (P := IsRg n) rfl ⟨_, _, _, rfl⟩))
theorem r_iterR {Q : Value → Shared → Prop} (w : W c env T vs l s) (hd : Has r (IsRg n) l) (h0 : 0 ≤ n) (h1 : n < 2 ^ 31) (h : ∀ I s', W c env T vs ((I, IsRi 0 n) :: l) s' → Q (.ref I) s') : wpAny (model pw wd) A (pyIter (.ref r)) Q E s := by
  obtain ⟨o, ho, t, u, v, rfl⟩ := w.own.get hd
  refine wpAny_pyIter_range ho (small_one (by decide) (by decide) (by omega) (by omega)) ?_
  have e : Builtin.Range.rangeSize 0 n 1 = n := by
    rw [rangeSize_one]
    split <;> omega
  rw [e]
  exact h _ _ (w.alloc (tk := s.toks) rfl rfl)
theorem r_iterD {Q : Value → Shared → Prop} (w : W c env T vs l s) (bo : BaseOk wd c.B) {g : Nat → Led} (u : ∀ ep, Up d (IsD wd kvs) (IsDE wd kvs ep) l (g ep)) (h : ∀ it ep s', W c env T vs ((it, IsIt d 0 kvs.length ep) :: g ep) s' → Q (.ref it) s') : wpAny (model pw wd) A (pyIter (.ref d)) Q E s := by
  obtain ⟨o, ho, hd⟩ := w.own.get (u 0).has
  obtain ⟨ep, ha⟩ := KdkAt.of hd
  refine wpAny_pyIter_dict (dict_low w.own bo (u 0).has) (ha.dictAt ho) ?_
  have w' := w.weak (u ep) fun o' ho' _ => by rw [ho] at ho'; cases ho'; exact ha
  exact h _ ep _ (w'.alloc (tk := s.toks) rfl ⟨rfl, rfl⟩)
theorem r_nextD {Q : Option Value → Shared → Prop} (w : W c env T vs l s) (u : Up I (IsIt d i kvs.length ep) (IsIt d (i + 1) kvs.length ep) l l') (hd : Has d (IsDE wd kvs ep) l) (hx : kvs[i]? = some (k, v)) (h : ∀ t s', W c env T vs l' s' → Q (some (.int k t)) s') : wpAny (model pw wd) A (pyNext (.ref I)) Q E s := by
  obtain ⟨io, hio, hi⟩ := w.own.get u.has
  obtain ⟨o, ho, ha⟩ := w.own.get hd
  refine wpAny_pyNext_dict_item (KdkIter.at hi hio) (KdkAt.dictAt ha ho) hx fun key h' hkey hit' hs => ?_
  obtain ⟨o', ho', hc', hd'⟩ := hit'
  obtain ⟨t, rfl⟩ := Value.isInt_shape hkey
  exact h t _ (w.upd (tk := s.toks) u hs ho' ⟨hc', hd'⟩)
theorem r_nextD_end {Q : Option Value → Shared → Prop} (w : W c env T vs l s) (hh : A.handled = none) (t : Take (I, IsIt d i kvs.length ep) l l') (hd : Has d (IsDE wd kvs ep) l) (hx : kvs[i]? = none) (h : ∀ s', W c env T vs l' s' → Q none s') : wpAny (model pw wd) A (pyNext (.ref I)) Q E s := by
  obtain ⟨io, hio, hi⟩ := w.own.led (I, IsIt d i kvs.length ep) (List.mem_append_left _ (t.perm.mem_iff.mpr (.head _)))
  obtain ⟨o, ho, ha⟩ := w.own.get hd
  refine wpAny_pyNext_dict_end hh (KdkIter.at hi hio) (KdkAt.dictAt ha ho) hx fun h' hs => ?_
  exact h _ (w.forget (tk := s.toks) t fun b o hb e => hs b o hb e)
end
def CompGo (wd : World) (A : Around) (c1 : Cx) (cenv : Env) (Tc : List Str) (elt target : PySem.Expr) (it : Value) (D : Addr) (Fin : List Value → Led → Prop) (l : Led) : Prop :=
  ∃ (Inv : Nat → List Value → Led → List (Option Value) → Prop) (k0 : Nat), Inv k0 [] l (Tc.map fun _ => none) ∧
    ∀ k ys l' vc s E', Inv k ys l' vc → W c1 cenv Tc vc ((D, IsLs ys) :: l') s → wpAny (model pw wd) A (pyNext it) (fun r s1 => match r with
      | none => ∃ l'', W c1 cenv Tc vc ((D, IsLs ys) :: l'') s1 ∧ Fin ys l''
      | some v => wpAny (model pw wd) A (assign target cenv v) (fun _ s2 => wpAny (model pw wd) A (eval elt cenv) (fun x s3 => ∃ l'' vc'' m, W c1 cenv Tc vc'' ((D, IsLs ys) :: l'') s3 ∧ ys.length ≤ 1000 ∧ m < k ∧ Inv m (ys ++ [x]) l'' vc'') E' s2) E' s1) E' s
section
variable {wd : World} {A : Around} {E : Value → Shared → Prop} {c : Cx} {env : Env} {T Tc : List Str} {vs : List (Option Value)} {l : Led} {s : Shared}
theorem comp_loop {elt target iter : PySem.Expr} {scope : Scope} {pos : Pos} {it : Value} {D : Addr} {cenv : Env} {c1 : Cx} {Fin : List Value → Led → Prop} {R : Result → Shared → Prop}
    (g : CompGo wd A c1 cenv Tc elt target it D Fin l) (w : W c1 cenv Tc (Tc.map fun _ => none) ((D, IsLs []) :: l) s) (ht : ∀ v, letOwnedTupleGo target it v = pure ())
    (hR : ∀ ys l'' vc s', Fin ys l'' → W c1 cenv Tc vc ((D, IsLs ys) :: l'') s' → R (.ok .next) s') :
    codeAny (model pw wd) A (.compLoop (.ListComp elt [⟨target, iter, [], 0⟩] scope pos) 0 it (.ref D) cenv) R s := by
  obtain ⟨Inv, k0, h0, turn⟩ := g
  refine codeAny_compLoop_tests (fun k s' => ∃ ys l' vc, Inv k ys l' vc ∧ W c1 cenv Tc vc ((D, IsLs ys) :: l') s') (fun k s' ⟨ys, l', vc, hi, w'⟩ => ?_) k0 ⟨[], l, _, h0, w⟩ ht
  refine wpAny_mono (turn k ys l' vc s' _ hi w') (fun r s1 h1 => ?_) fun _ _ e => e
  cases r with
  | none =>
    obtain ⟨l'', w2, hf⟩ := h1
    exact hR ys l'' vc s1 hf w2
  | some v =>
    refine wpAny_mono h1 (fun _ s2 h2 => ?_) fun _ _ e => e
    rw [List.forIn_nil]
    refine wpAny_pure ?_
    rw [if_pos rfl]
    refine wpAny_mono h2 (fun x s3 h3 => ?_) fun _ _ e => e
    obtain ⟨l'', vc'', m, w3, hz, hm, hi'⟩ := h3
    exact r_lappend w3 .head hz fun s4 w4 => ⟨m, hm, _, l'', vc'', hi', w4⟩
theorem comp_block {elt target iter : PySem.Expr} {scope : Scope} {cl : List (Str × Addr)} {pos : Pos} {it : Value} {Fin : List Value → Led → Prop} {RR : Value → Addr → Result → Shared → Prop}
    (w : W c env T vs l s) (hcell : ∀ y ∈ scope.names, y.2 ≠ .cell) (hkind : scope.kind = .function) (hfx : ∀ C, Fx (compEnvC scope cl C env) Tc) (ht : ∀ v, letOwnedTupleGo target it v = pure ())
    (hit : ∀ (c' : Cx) (env' : Env) (T' : List Str) (vs' : List (Option Value)) (s' : Shared) (E' : Value → Shared → Prop) (Q : Value → Shared → Prop), (∃ f, W c' env' T' vs' (f :: l) s') → Q it s' → wpAny (model pw wd) A (pyIter it) Q E' s')
    (g : ∀ D C, CompGo wd A (c.inn env.locals (loc T vs)) (compEnvC scope cl C env) Tc elt target it D Fin l)
    (hRR : ∀ D C ys l'' vc s', Fin ys l'' → W (c.inn env.locals (loc T vs)) (compEnvC scope cl C env) Tc vc ((D, IsLs ys) :: l'') s' → RR (.ref D) C (.ok .next) s') :
    wpAny (model pw wd) A (newList []) (fun acc s₃ => wpAny (model pw wd) A (newFunctionEnv scope env.globals cl [] env.qual none .none (some env)) (fun cenv s₄ =>
      codeAny (model pw wd) A (.compStart (.ListComp elt [⟨target, iter, [], 0⟩] scope pos) 0 it acc { cenv with scope := relabel scope env }) (RR acc cenv.locals) s₄) E s₃) E s := by
  refine wpAny_newObj_type ?_
  have w1 : W c env T vs ((s.heap.objs.size, IsLs []) :: l) { s with heap := s.heap.push { cls := .type "list", data := .seq ([] : List Value).toArray } } := w.alloc (tk := s.toks) rfl ⟨0, rfl⟩
  refine wpAny_newFunctionEnv hcell (by intro y hy; simp at hy) (fun h₁ hns₁ hsb₁ => ?_) hkind
  generalize hD : s.heap.objs.size = D at w1 ⊢
  generalize hs1 : ({ s with heap := s.heap.push { cls := .type "list", data := .seq ([] : List Value).toArray } } : Shared) = s1 at w1 hns₁ hsb₁ ⊢
  have w2 : W c env T vs ((s1.heap.objs.size, NsObj (loc Tc (Tc.map fun _ => none))) :: (D, IsLs []) :: l) { s1 with heap := h₁, toks := s1.toks + ([] : List (Str × Value)).length } := by
    have wa := w1.alloc (tk := s1.toks) (o := { cls := .type "dict", data := .dict #[] }) (P := NsObj (loc Tc (Tc.map fun _ => none))) rfl ⟨#[], 0, rfl, by intro e he; simp at he, fun n => by rw [loc_none]; rfl⟩
    obtain ⟨oC, es, ep, hC, hCd, hCk, hCf⟩ := hns₁
    exact wa.upd (tk := s1.toks + 0) (.head) hsb₁ hC ⟨es, ep, hCd, hCk, fun n => by rw [loc_none]; exact hCf n⟩
  have hCb : c.B.objs.size ≤ s1.heap.objs.size := w1.own.size
  have w3 := W.swap (cenv := compEnvC scope cl s1.heap.objs.size env) (Tc := Tc) (vc := Tc.map fun _ => none) w2 (hfx _) hCb
  have loop : codeAny (model pw wd) A (.compLoop (.ListComp elt [⟨target, iter, [], 0⟩] scope pos) 0 it (.ref D) (compEnvC scope cl s1.heap.objs.size env)) (RR (.ref D) s1.heap.objs.size) { s1 with heap := h₁, toks := s1.toks + ([] : List (Str × Value)).length } :=
    comp_loop (g D s1.heap.objs.size) w3 ht fun ys l'' vc s' hf w' => hRR _ _ ys l'' vc s' hf w'
  exact codeAny_compStart_list loop (hit _ _ _ _ _ _ _ ⟨_, w3⟩ loop)
theorem r_lcomp {elt target iter : PySem.Expr} {scope : Scope} {cl : List (Str × Addr)} {pos : Pos} {Q : Value → Shared → Prop}
    (hclos : closureFor scope env = pure cl) (hcell : ∀ y ∈ scope.names, y.2 ≠ .cell) (hkind : scope.kind = .function) (hnames : ∀ y ∈ scope.names, y.2 = .local → scope.names.lookup y.1 = some .local) (hfx : ∀ C, Fx (compEnvC scope cl C env) Tc)
    (h : wpAny (model pw wd) A (eval iter env) (fun xv s₁ => wpAny (model pw wd) A (pyIter xv) (fun it s₂ => ∃ (l2 : Led) (Fin : List Value → Led → Prop), W c env T vs l2 s₂ ∧ (∀ v, letOwnedTupleGo target it v = pure ()) ∧
      (∀ (c' : Cx) (env' : Env) (T' : List Str) (vs' : List (Option Value)) (s' : Shared) (E' : Value → Shared → Prop) (Q : Value → Shared → Prop), (∃ f, W c' env' T' vs' (f :: l2) s') → Q it s' → wpAny (model pw wd) A (pyIter it) Q E' s') ∧
      (∀ D C, CompGo wd A (c.inn env.locals (loc T vs)) (compEnvC scope cl C env) Tc elt target it D Fin l2) ∧ ∀ D ys l'' s', Fin ys l'' → W c env T vs ((D, IsLs ys) :: l'') s' → Q (.ref D) s') E s₁) E s)
    (hs : ∀ x, foldedSetIterable iter env x = pure x := by intro _; rfl) : wpAny (model pw wd) A (eval (.ListComp elt [⟨target, iter, [], 0⟩] scope pos) env) Q E s := by
  rw [eval_ListComp]
  refine wpAny_comprehension_free (use := none) rfl hs hclos hkind hnames (wpAny_mono h (fun xv s₁ h₁ => wpAny_mono h₁ (fun it s₂ h₂ => ?_) fun _ _ e => e) fun _ _ e => e)
  obtain ⟨l2, Fin, w, ht, hit, g, hQ⟩ := h₂
  refine comp_block (RR := fun acc C => compPost (model pw wd) A E none Q acc C) w hcell hkind hfx ht hit g fun D C ys l'' vc s' hf w' => ?_
  have w2 := W.unswap w' w.fx w.fr.above
  obtain ⟨oC, hoC, es, ep, h1, h2, h3⟩ := w2.own.led _ (.head _)
  refine ⟨_, ⟨oC, es, ep, hoC, h1, h2, h3⟩, fun h' hs' => hQ D ys l'' _ hf (w2.forget (tk := s'.toks) .head fun b o hb e => hs'.extBut b o hb e)⟩
theorem r_lcompA {elt target iter : PySem.Expr} {y : Str} {py : Pos} {scope : Scope} {cl : List (Str × Addr)} {pos spos : Pos} {vs' : Addr → List (Option Value)} {Q : Flow → Shared → Prop}
    (hsw : swapsWith (.ListComp elt [⟨target, iter, [], 0⟩] scope pos) (some (.Name y py)) spos.line env = pure true)
    (hclos : closureFor scope env = pure cl) (hcell : ∀ y ∈ scope.names, y.2 ≠ .cell) (hkind : scope.kind = .function) (hnames : ∀ y ∈ scope.names, y.2 = .local → scope.names.lookup y.1 = some .local) (hfx : ∀ C, Fx (compEnvC scope cl C env) Tc)
    (hls : ∀ D, Lset y (.ref D) T vs (vs' D))
    (h : wpAny (model pw wd) A (eval iter env) (fun xv s₁ => wpAny (model pw wd) A (pyIter xv) (fun it s₂ => ∃ (l2 : Led) (Fin : List Value → Led → Prop), W c env T vs l2 s₂ ∧ (∀ v, letOwnedTupleGo target it v = pure ()) ∧
      (∀ (c' : Cx) (env' : Env) (T' : List Str) (vs' : List (Option Value)) (s' : Shared) (E' : Value → Shared → Prop) (Q : Value → Shared → Prop), (∃ f, W c' env' T' vs' (f :: l2) s') → Q it s' → wpAny (model pw wd) A (pyIter it) Q E' s') ∧
      (∀ D C, CompGo wd A (c.inn env.locals (loc T vs)) (compEnvC scope cl C env) Tc elt target it D Fin l2) ∧ ∀ D ys l'' s', Fin ys l'' → W c env T (vs' D) ((D, IsLs ys) :: l'') s' → Q .next s') E s₁) E s)
    (hs : ∀ x, foldedSetIterable iter env x = pure x := by intro _; rfl) : wpAny (model pw wd) A (exec (.Assign [.Name y py] (.ListComp elt [⟨target, iter, [], 0⟩] scope pos) spos) env) Q E s := by
  rw [exec_Assign_Name_used _ _ _ _ hsw]
  refine wpAny_bind (wpAny_standAt (wpAny_bind ?_))
  show wpAny _ A (do let _ ← comprehension (.ListComp elt [⟨target, iter, [], 0⟩] scope pos) scope env _ (newList []) false (eval iter env) (some (assign (.Name y py) env))) _ _ s
  refine wpAny_bind (wpAny_mono (wpAny_comprehension_free (use := some (assign (.Name y py) env)) (Q := fun _ s' => Q .next s') rfl hs hclos hkind hnames
    (wpAny_mono h (fun xv s₁ h₁ => wpAny_mono h₁ (fun it s₂ h₂ => ?_) fun _ _ e => e) fun _ _ e => e)) (fun _ s' hq => wpAny_pure (wpAny_pure hq)) fun _ _ e => e)
  obtain ⟨l2, Fin, w, ht, hit, g, hQ⟩ := h₂
  refine comp_block (RR := fun acc C => compPost (model pw wd) A E (some (assign (.Name y py) env)) (fun _ s' => Q .next s') acc C) w hcell hkind hfx ht hit g fun D C ys l'' vc s' hf w' => ?_
  have w2 := W.unswap w' w.fx w.fr.above
  show wpAny _ A (assign (.Name y py) env (.ref D)) _ _ _
  refine wpAny_assign_Name (r_store w2 (hls D) fun s3 w3 => ?_)
  obtain ⟨oC, hoC, es, ep, h1, h2, h3⟩ := w3.own.led _ (.head _)
  refine ⟨_, ⟨oC, es, ep, hoC, h1, h2, h3⟩, fun h' hs' => hQ D ys l'' _ hf (w3.forget (tk := s3.toks) .head fun b o hb e => hs'.extBut b o hb e)⟩
end

def IsX (o₀ o : Obj) : Prop := o = o₀
def IsSlc (u v : Value) (o : Obj) : Prop := o.cls = .type "slice" ∧ o.data = .fields #[u, v, .none]
section
variable {wd : World} {A : Around} {E : Value → Shared → Prop} {c : Cx} {env : Env} {T : List Str} {vs : List (Option Value)} {l l' : Led} {s : Shared} {d si : Addr} {k a b : Int} {t u : Tok} {xs : List Value} {v vl vu : Value} {o₀ : Obj}
theorem W.keeps {h' : Heap} {tk : Nat} (w : W c env T vs l s) (k : ∀ b o, s.heap.get? b = some o → h'.get? b = some o) : W c env T vs l { s with heap := h', toks := tk } := by
  have ns' : h'.Ns env.locals (loc T vs) := w.fr.ns.keeps k
  refine ⟨⟨fun b x e => k b x (w.own.base b x e), fun p hp => ?_, w.own.off, w.own.nd, w.own.gens, w.own.os, Nat.le_of_lt (Nat.lt_of_le_of_lt w.fr.above ns'.lt)⟩, ⟨ns', fun b x e => k b x (w.own.base b x e), w.fr.above⟩, w.offL, w.fx⟩
  obtain ⟨o, ho, hP⟩ := w.own.led p hp
  exact ⟨o, k _ _ ho, hP⟩
theorem W.made {h' : Heap} {tk : Nat} {D : Addr} {P : Obj → Prop} {o : Obj} (w : W c env T vs l s) (k : ∀ b o, s.heap.get? b = some o → h'.get? b = some o) (hD : s.heap.objs.size ≤ D) (ho : h'.get? D = some o) (hP : P o) : W c env T vs ((D, P) :: l) { s with heap := h', toks := tk } := by
  have w1 := w.keeps (tk := tk) k
  refine w1.add (o := o) ho hP ?_ (fun p hp e => ?_) ?_
  · cases q : c.B.get? D with
    | none => rfl
    | some x => exact absurd (Heap.lt_size (w.own.base _ _ q)) (Nat.not_lt.mpr hD)
  · obtain ⟨x, hx, _⟩ := w.own.led p hp
    rw [e] at hx
    exact absurd (Heap.lt_size hx) (Nat.not_lt.mpr hD)
  · obtain ⟨oL, _, _, hL, _⟩ := w.fr.ns
    exact fun e => absurd (Heap.lt_size hL) (Nat.not_lt.mpr (e ▸ hD))
theorem lsx (w : W c env T vs l s) (hd : Has d (IsX o₀) l) (ho : o₀.cls = .type "list" ∧ ∃ n, o₀.data = .seq xs.toArray n) : s.heap.IsList d xs.toArray := by
  obtain ⟨o, h, e⟩ := w.own.get hd
  cases e
  exact ⟨_, h, ho.1, ho.2⟩
theorem r_llenX {Q : Value → Shared → Prop} (w : W c env T vs l s) (hd : Has d (IsX o₀) l) (ho : o₀.cls = .type "list" ∧ ∃ n, o₀.data = .seq xs.toArray n) (hz : xs.length ≤ 1000) (h : ∀ t s', W c env T vs l s' → Q (.int xs.length t) s') : wpAny (model pw wd) A (call (.builtin "len") [.ref d]) Q E s :=
  call_len_list (lsx w hd ho) (by rw [List.size_toArray]; omega) (by rw [List.size_toArray]; exact h _ _ (w.toks _))
theorem r_lsubX {value slice : PySem.Expr} {Q : Value → Shared → Prop} (w : W c env T vs l s) (hd : Has d (IsX o₀) l) (ho : o₀.cls = .type "list" ∧ ∃ n, o₀.data = .seq xs.toArray n) (h0 : 0 ≤ k) (h1 : k < 1000) (hx : xs[k.toNat]? = some v) (h : ∀ s', W c env T vs l s' → Q v s')
    (hs : subscripted slice false (.ref d) (.int k t) = operate [.ref d, .int k t] (getItem (.ref d) (.int k t)) := by with_unfolding_all rfl) :
    wpAny (model pw wd) A (subscriptTail value slice (.ref d) (.int k t)) Q E s :=
  subscriptTail_builtinR (x := v) (lsx w hd ho).typeIs list_getitem_lookup (wpAny_getItem_list (lsx w hd ho) h0 (by omega) (by rw [List.getElem?_toArray]; exact hx) ⟨rfl, h _ w⟩) hs
theorem r_slice {lower upper : Option PySem.Expr} {p : Pos} {Q : Value → Shared → Prop}
    (h : wpAny (model pw wd) A (evalPart lower env) (fun vl s₁ => wpAny (model pw wd) A (evalPart upper env) (fun vu s₂ => ∃ l, W c env T vs l s₂ ∧ ∀ si s', W c env T vs ((si, IsSlc vl vu) :: l) s' → Q (.ref si) s') E s₁) E s) :
    wpAny (model pw wd) A (eval (.Slice lower upper none p) env) Q E s := by
  refine wpAny_Slice (wpAny_mono h (fun vl s₁ h₁ => wpAny_mono h₁ (fun vu s₂ h₂ => ?_) fun _ _ e => e) fun _ _ e => e)
  obtain ⟨l, w, h⟩ := h₂
  exact wpAny_pure (h _ _ (w.alloc (tk := s₂.toks) rfl ⟨rfl, rfl⟩))
theorem slice_at {lo hi : Option Int} {Q : Value → Shared → Prop} {value slice : PySem.Expr} (w : W c env T vs l s) (hl : s.heap.IsList d xs.toArray) (hsi : Has si (IsSlc vl vu) l) (pl : IsPart vl lo) (pu : IsPart vu hi) (hz : xs.length ≤ 1000)
    (h : ∀ D s', W c env T vs ((D, IsLs (kms_pick xs lo hi)) :: l) s' → Q (.ref D) s')
    (hs : subscripted slice false (.ref d) (.ref si) = operate [.ref si, .ref d] (getItem (.ref d) (.ref si))) (ht : ∀ r, letTemporaryGo value (.ref d) r = pure ()) :
    wpAny (model pw wd) A (subscriptTail value slice (.ref d) (.ref si)) Q E s := by
  obtain ⟨o, ho, h1, h2⟩ := w.own.get hsi
  refine subscriptTail_ops (Heap.IsList.typeIs (s := s) hl) list_getitem_lookup (wpAny_getItem_list_slice hl ⟨o, ho, h1, h2⟩ pl pu .none (by simp) ?_ (by rw [sizeLine_eq, List.size_toArray]; omega)) hs ht
  rw [kms_pick_eq]
  exact h _ _ (w.alloc (tk := s.toks) rfl ⟨0, rfl⟩)
theorem r_lsliceX {lo hi : Option Int} {Q : Value → Shared → Prop} {value slice : PySem.Expr} (w : W c env T vs l s) (hd : Has d (IsX o₀) l) (ho : o₀.cls = .type "list" ∧ ∃ n, o₀.data = .seq xs.toArray n) (hsi : Has si (IsSlc vl vu) l) (pl : IsPart vl lo) (pu : IsPart vu hi) (hz : xs.length ≤ 1000)
    (h : ∀ D s', W c env T vs ((D, IsLs (kms_pick xs lo hi)) :: l) s' → Q (.ref D) s')
    (hs : subscripted slice false (.ref d) (.ref si) = operate [.ref si, .ref d] (getItem (.ref d) (.ref si)) := by with_unfolding_all rfl) (ht : ∀ r, letTemporaryGo value (.ref d) r = pure () := by intro _; with_unfolding_all rfl) :
    wpAny (model pw wd) A (subscriptTail value slice (.ref d) (.ref si)) Q E s := slice_at w (lsx w hd ho) hsi pl pu hz h hs ht
theorem r_lslice {lo hi : Option Int} {Q : Value → Shared → Prop} {value slice : PySem.Expr} (w : W c env T vs l s) (hd : Has d (IsLs xs) l) (hsi : Has si (IsSlc vl vu) l) (pl : IsPart vl lo) (pu : IsPart vu hi) (hz : xs.length ≤ 1000)
    (h : ∀ D s', W c env T vs ((D, IsLs (kms_pick xs lo hi)) :: l) s' → Q (.ref D) s')
    (hs : subscripted slice false (.ref d) (.ref si) = operate [.ref si, .ref d] (getItem (.ref d) (.ref si)) := by with_unfolding_all rfl) (ht : ∀ r, letTemporaryGo value (.ref d) r = pure () := by intro _; with_unfolding_all rfl) :
    wpAny (model pw wd) A (subscriptTail value slice (.ref d) (.ref si)) Q E s := slice_at w (ls_is w.own hd) hsi pl pu hz h hs ht
theorem r_fdiv {Q : Value → Shared → Prop} (w : W c env T vs l s) (hb : b ≠ 0) (hp : b.natAbs < 1073741824) (h : ∀ t s', W c env T vs l s' → Q (.int (a.fdiv b) t) s') : wpAny (model pw wd) A (binaryOp .FloorDiv (.int a t) (.int b u)) Q E s :=
  floordiv_int hb (h _ _ (w.toks _)) (.inl (PyProof.noPylong_small hp))
theorem r_mul {Q : Value → Shared → Prop} (w : W c env T vs l s) (hp : IntMulOk a b) (h : ∀ t s', W c env T vs l s' → Q (.int (a * b) t) s') : wpAny (model pw wd) A (binaryOp .Mult (.int a t) (.int b u)) Q E s := PySem.P.mul_int (h _ _ (w.toks _)) hp
theorem r_ge {Q : Value → Shared → Prop} (h : Q (.bool (decide (a ≥ b))) s) : wpAny (model pw wd) A (compareOp .GtE (.int a t) (.int b u)) Q E s := PySem.P.ge_int h
theorem r_sorted {ns : List Int} {Q : Value → Shared → Prop} (w : W c env T vs l s) (hd : Has d (IsLs xs) l) (hI : IntsAre xs ns) (h64 : xs.length < 64) (h : ∀ D vs' ns' s', IntsAre vs' ns' → ns'.Perm ns → ns'.Pairwise (· ≤ ·) → W c env T vs ((D, IsLs vs') :: l) s' → Q (.ref D) s') : wpAny (model pw wd) A (call (.builtin "sorted") [.ref d]) Q E s := by
  refine sorted_ints (ls_is w.own hd) hI h64 fun out ns' a1 a2 a3 => ?_
  obtain ⟨e, he⟩ := sortedAll_at s.heap xs out
  refine h _ out.toList ns' _ a1 a2 a3 (w.made (tk := s.toks) (fun _ _ => sortedAll_old) (Nat.le_succ _) he ⟨e, ?_⟩)
  rfl
end
theorem r_partS {M : Model} {A : Around} {E : Value → Shared → Prop} {s : Shared} {env : Env} {e : PySem.Expr} {Q : Value → Shared → Prop} (h : wpAny M A (eval e env) Q E s) : wpAny M A (evalPart (some e) env) Q E s := h
theorem r_partN {M : Model} {A : Around} {E : Value → Shared → Prop} {s : Shared} {env : Env} {Q : Value → Shared → Prop} (h : Q .none s) : wpAny M A (evalPart none env) Q E s := wpAny_pure h

local macro_rules | `(tactic| wtm_at "tlxf6") => `(tactic| first | exact Tls.here | (apply Tls.there; wtm_at "tlxf6"))
local macro_rules | `(tactic| wtm_at "gxf6") => `(tactic| first | exact Lget.here | (apply Lget.there; wtm_at "gxf6"))
local macro_rules | `(tactic| wtm_at "hxf6") => `(tactic| first | exact Has.head | (apply Has.tail; wtm_at "hxf6"))
local macro_rules | `(tactic| wtm_at "uxf6") => `(tactic| first | exact Up.head | (apply Up.tail; wtm_at "uxf6"))
local macro_rules | `(tactic| wtm_at "lsxf6") => `(tactic| first | exact Lset.here | (apply Lset.there; wtm_at "lsxf6"))
local macro_rules | `(tactic| wtm_at "tkxf6") => `(tactic| first | exact Take.head | (apply Take.tail; wtm_at "tkxf6"))
local macro_rules | `(tactic| wtm_at "pkxf6") => `(tactic| first | exact Pick.nil | (apply Pick.cons; wtm_at "tkxf6"; wtm_at "pkxf6"))
local macro_rules | `(tactic| wtm_at "bnxf6") => `(tactic| first | exact bn_len _ | exact bn_next _ | exact bn_iter _ | exact bn_min _ | exact bn_max _ | exact bn_sum _ | exact bn_range _ | exact bn_sorted _)
local macro_rules | `(tactic| wtm_at "gnxf6") => `(tactic| first | exact gn_Cache _ | exact gn_FIFO _ | exact gn_LFU _ | exact gn_LRU _ | exact gn_RR _ | exact gn_Timed _ | exact gn_TTL _ | exact gn_at _ | exact gn_line _ | exact gn_lnext _)
local macro_rules | `(tactic| wtm_at "cvxf6") => `(tactic| first | exact cv_844_getitem _ | exact cv_844_delitem _ | exact cv_844_init _)
local macro_rules | `(tactic| wtm_at "namexf6") => `(tactic| ((with_reducible show wpAny _ _ (eval (PySem.Expr.Name _ _) _) _ _ _); first
  | refine r_name ‹W _ _ _ _ _ _› (by wtm_at "gxf6") ?_
  | refine r_gn (by wtm_at "gnxf6") ‹W _ _ _ _ _ _› ‹BaseOk _ _› (by rfl) (by rfl) ?_
  | refine r_bn (by wtm_at "bnxf6") ‹W _ _ _ _ _ _› ‹BaseOk _ _› (by rfl) (by rfl) (by rfl) ?_
  | refine r_cellN (by rfl) (by rfl) ‹W _ _ _ _ _ _› (by wtm_at "hxf6") ?_
  | refine r_freeN (by rfl) (by rfl) ‹W _ _ _ _ _ _› (by wtm_at "hxf6") ?_))
local macro_rules | `(tactic| wtm_at "sxf6") => `(tactic| first
  | ((with_reducible show wpAny _ _ (execs (_ :: _) _) _ _ _); refine wpAny_execs_cons ?_)
  | ((with_reducible show wpAny _ _ (execs [] _) _ _ _); refine wpAny_execs_nil ?_)
  | ((with_reducible show wpAny _ _ (eval _ _) _ _ _); first
      | wtm_at "namexf6"
      | ((with_reducible show wpAny _ _ (eval (PySem.Expr.Attribute _ _ _) _) _ _ _); first | refine Attribute_name ?_ | refine Attribute_any_ ?_)
      | ((with_reducible show wpAny _ _ (eval (PySem.Expr.Constant (PySem.Const.int _) _ _) _) _ _ _); refine r_int ‹W _ _ _ _ _ _› ?_; intro _ _ _)
      | ((with_reducible show wpAny _ _ (eval (PySem.Expr.Constant PySem.Const.none _ _) _) _ _ _); refine wpAny_Constant_none ?_)
      | ((with_reducible show wpAny _ _ (eval (PySem.Expr.Compare _ [_] [_] _) _) _ _ _); refine wpAny_Compare1 ?_)
      | ((with_reducible show wpAny _ _ (eval (PySem.Expr.BinOp _ _ _ _) _) _ _ _); refine wpAny_BinOp ?_)
      | ((with_reducible show wpAny _ _ (eval (PySem.Expr.Call (PySem.Expr.Attribute _ _ _) _ [] _) _) _ _ _); refine MethodCall_ ?_)
      | ((with_reducible show wpAny _ _ (eval (PySem.Expr.Call _ _ [] _) _) _ _ _); refine Call_ ?_)
      | ((with_reducible show wpAny _ _ (eval (PySem.Expr.Subscript _ _ _) _) _ _ _); refine Subscript_ ?_)
      | ((with_reducible show wpAny _ _ (eval (PySem.Expr.Dict [] [] _) _) _ _ _); refine r_dict0 ‹W _ _ _ _ _ _› ?_; intro _ _ _)
      | ((with_reducible show wpAny _ _ (eval (PySem.Expr.List [] _) _) _ _ _); refine r_list0 ‹W _ _ _ _ _ _› ?_; intro _ _ _)
      | ((with_reducible show wpAny _ _ (eval (PySem.Expr.Tuple _ _ _) _) _ _ _); refine r_tuple ‹W _ _ _ _ _ _› ?_)
      | ((with_reducible show wpAny _ _ (eval (PySem.Expr.List (_ :: _) _) _) _ _ _); refine r_list ‹W _ _ _ _ _ _› ?_)
      | ((with_reducible show wpAny _ _ (eval (PySem.Expr.UnaryOp _ _ _) _) _ _ _); refine PyProof.Rows.UnaryOp_ ?_)
      | ((with_reducible show wpAny _ _ (eval (PySem.Expr.IfExp _ _ _ _) _) _ _ _); refine IfExp_ ?_)
      | ((with_reducible show wpAny _ _ (eval (PySem.Expr.Slice _ _ none _) _) _ _ _); refine r_slice ?_))
  | ((with_reducible show wpAny _ _ (getAttr _ _ _) _ _ _); first
      | ((with_reducible show wpAny _ _ (getAttr (Value.ref _) (Str.ofString "_Cache__size") _) _ _ _); refine r_attr_size ‹W _ _ _ _ _ _› ‹BaseOk _ _› ‹Cc _ _ _› (by wtm_at "hxf6") (by wtm_at "hxf6") ?_; intro _ _)
      | ((with_reducible show wpAny _ _ (getAttr (Value.ref _) _ _) _ _ _); refine r_attr ‹W _ _ _ _ _ _› ‹BaseOk _ _› ‹Cls _ _ _› (by wtm_at "hxf6") (by wtm_at "hxf6") (by first | assumption | wtm_at "gxf6") (by rfl) ?_; intro _ _)
      | ((with_reducible show wpAny _ _ (getAttr (Value.ref _) _ _) _ _ _); refine r_clsattr (by wtm_at "cvxf6") ‹W _ _ _ _ _ _› ‹BaseOk _ _› ?_; intro _ _))
  | ((with_reducible show wpAny _ _ (PySem.isTrue _ _ _) _ _ _); first
      | ((with_reducible show wpAny _ _ (isTrue (PySem.Expr.Compare _ [_] [_] _) _ _) _ _ _); refine wpAny_isTrue_Compare1 ?_)
      | ((with_reducible show wpAny _ _ (isTrue (PySem.Expr.UnaryOp _ _ _) _ _) _ _ _); refine wpAny_isTrue_Not ?_)
      | ((with_reducible show wpAny _ _ (PySem.isTrue (PySem.Expr.Name _ _) _ _) _ _ _); refine wpAny_isTrue_value ?_)
      | ((with_reducible show wpAny _ _ (PySem.isTrue (PySem.Expr.Attribute _ _ _) _ _) _ _ _); refine wpAny_isTrue_value ?_)
      | ((with_reducible show wpAny _ _ (PySem.isTrue (PySem.Expr.BoolOp BoolOp.Or (_ :: _) _) _ _) _ _ _); refine isTrue_or ?_)
      | ((with_reducible show wpAny _ _ (PySem.isTrue (PySem.Expr.BoolOp BoolOp.Or [] _) _ _) _ _ _); refine isTrue_or_nil ?_)
      | ((with_reducible show wpAny _ _ (PySem.isTrue (PySem.Expr.BoolOp BoolOp.And (_ :: _) _) _ _) _ _ _); refine isTrue_and ?_)
      | ((with_reducible show wpAny _ _ (PySem.isTrue (PySem.Expr.BoolOp BoolOp.And [] _) _ _) _ _ _); refine isTrue_and_nil ?_))
  | ((with_reducible show wpAny _ _ (callWith _ _ _ _ _) _ _ _); first
      | ((with_reducible show wpAny _ _ (callWith _ (Value.builtin _) [] (backTo _ (starEach (_ :: _) _)) []) _ _ _); refine PyProof.Rows.callWith_builtin1 ?_)
      | ((with_reducible show wpAny _ _ (callWith _ (Value.builtin _) _ (backTo _ (starEach (_ :: _) _)) []) _ _ _); refine callWith_method1 ?_)
      | ((with_reducible show wpAny _ _ (callWith _ (Value.ref _) _ (backTo _ (starEach (_ :: _) _)) []) _ _ _); refine r_call (by kernel_rfl!) ?_)
      | ((with_reducible show wpAny _ _ (callWith _ (Value.ref _) _ (backTo _ (starEach [] _)) []) _ _ _); refine r_call0 (by kernel_rfl!) ‹W _ _ _ _ _ _› ‹BaseOk _ _› ?_)
      | ((with_reducible show wpAny _ _ (callWith _ (Value.builtin _) _ (backTo _ (starEach [] _)) []) _ _ _); refine callWith_method0 ?_))
  | ((with_reducible show wpAny _ _ (spliced (backTo _ (starEach (_ :: _) _))) _ _ _); refine args_cons ?_)
  | ((with_reducible show wpAny _ _ (spliced (backTo _ (starEach [] _))) _ _ _); refine args_nil ?_)
  | ((with_reducible show wpAny _ _ (exec _ _) _ _ _); first
      | ((with_reducible show wpAny _ _ (exec (Stmt.Return (some _) _) _) _ _ _); refine wpAny_Return_some ?_)
      | ((with_reducible show wpAny _ _ (exec (Stmt.If _ _ _ _) _) _ _ _); refine wpAny_If ?_)
      | ((with_reducible show wpAny _ _ (exec (Stmt.Assign [PySem.Expr.Name _ _] _ _) _) _ _ _); refine wpAny_Assign_Name ?_)
      | ((with_reducible show wpAny _ _ (exec (Stmt.Assign [PySem.Expr.Attribute _ _ _] _ _) _) _ _ _); refine plainObj_wpAny_Assign_Attribute ?_)
      | ((with_reducible show wpAny _ _ (exec (Stmt.Assign [PySem.Expr.Subscript _ _ _] _ _) _) _ _ _); refine wpAny_Assign_Subscript ?_)
      | ((with_reducible show wpAny _ _ (exec (Stmt.AugAssign (PySem.Expr.Attribute _ _ _) _ _ _) _) _ _ _); refine wpAny_AugAssign_AttributeAny ?_)
      | ((with_reducible show wpAny _ _ (exec (Stmt.Delete _ _) _) _ _ _); refine wpAny_Delete ?_)
      | ((with_reducible show wpAny _ _ (exec (Stmt.While _ _ _ _) _) _ _ _); refine r_while0 fun _ => ?_)
      | ((with_reducible show wpAny _ _ (exec (Stmt.Expr _ _) _) _ _ _); refine wpAny_Expr_any ?_)
      | ((with_reducible show wpAny _ _ (exec (Stmt.Assign [_, _] _ _) _) _ _ _); refine wpAny_Assign_two ?_)
      | ((with_reducible show wpAny _ _ (exec (Stmt.Return none _) _) _ _ _); refine wpAny_Return_none ?_)
      | ((with_reducible show wpAny _ _ (exec (Stmt.With [WithItem.mk _ (some (PySem.Expr.Name _ _))] _ _) _) _ _ _); refine r_withN ?_))
  | ((with_reducible show wpAny _ _ (deleteEach (_ :: _) _) _ _ _); refine wpAny_deleteEach_cons ?_)
  | ((with_reducible show wpAny _ _ (deleteEach [] _) _ _ _); refine wpAny_deleteEach_nil ?_)
  | ((with_reducible show wpAny _ _ (delete (PySem.Expr.Subscript _ _ _) _) _ _ _); refine wpAny_delete_Subscript ?_)
  | ((with_reducible show wpAny _ _ (storeName _ _ _) _ _ _); (first | refine r_store ‹W _ _ _ _ _ _› (by wtm_at "lsxf6") ?_ | refine r_storeC (by rfl) (by rfl) ‹W _ _ _ _ _ _› (by wtm_at "uxf6") ?_); intro _ _)
  | ((with_reducible show wpAny _ _ (setAttr (Value.ref _) _ _) _ _ _); refine r_setattr ‹W _ _ _ _ _ _› ‹BaseOk _ _› ‹Cls _ _ _› (by wtm_at "hxf6") (by wtm_at "uxf6") (by first | assumption | wtm_at "lsxf6") (by assumption) (by assumption) ?_; intro _ _)
  | ((with_reducible show wpAny _ _ (truthy (Value.bool _)) _ _ _); refine wpAny_truthy_bool ?_)
  | ((with_reducible show wpAny _ _ (truthy (Value.ref _)) _ _ _); (first | refine r_dtruth ‹W _ _ _ _ _ _› ‹BaseOk _ _› (by wtm_at "hxf6") (by omega) ?_ | refine r_ltruth ‹W _ _ _ _ _ _› (by wtm_at "hxf6") (by omega) ?_); intro _ _)
  | ((with_reducible show wpAny _ _ (binaryOp _ _ _) _ _ _); first
      | ((with_reducible show wpAny _ _ (binaryOp Operator.Add (Value.int _ _) (Value.int _ _)) _ _ _); refine r_add ‹W _ _ _ _ _ _› ?_; intro _ _ _)
      | ((with_reducible show wpAny _ _ (binaryOp Operator.Sub (Value.int _ _) (Value.int _ _)) _ _ _); refine r_sub ‹W _ _ _ _ _ _› ?_; intro _ _ _)
      | ((with_reducible show wpAny _ _ (binaryOp Operator.Mod (Value.int _ _) (Value.int _ _)) _ _ _); refine r_mod ‹W _ _ _ _ _ _› (by first | decide | omega) ?_; intro _ _ _)
      | ((with_reducible show wpAny _ _ (binaryOp Operator.FloorDiv (Value.int _ _) (Value.int _ _)) _ _ _); refine r_fdiv ‹W _ _ _ _ _ _› (by first | decide | omega) (by first | decide | omega) ?_; intro _ _ _))
  | ((with_reducible show wpAny _ _ (inplaceOp Operator.Add (Value.int _ _) (Value.int _ _)) _ _ _); refine r_iadd ‹W _ _ _ _ _ _› ?_; intro _ _ _)
  | ((with_reducible show wpAny _ _ (inplaceOp Operator.Sub (Value.int _ _) (Value.int _ _)) _ _ _); refine r_isub ‹W _ _ _ _ _ _› ?_; intro _ _ _)
  | ((with_reducible show wpAny _ _ (compareOp _ _ _) _ _ _); first
      | ((with_reducible show wpAny _ _ (compareOp CmpOp.Lt (Value.int _ _) (Value.int _ _)) _ _ _); refine r_lt ?_)
      | ((with_reducible show wpAny _ _ (compareOp CmpOp.Gt (Value.int _ _) (Value.int _ _)) _ _ _); refine r_gt ?_)
      | ((with_reducible show wpAny _ _ (compareOp CmpOp.Eq (Value.int _ _) (Value.int _ _)) _ _ _); refine r_eq ?_)
      | ((with_reducible show wpAny _ _ (compareOp CmpOp.NotEq (Value.int _ _) (Value.int _ _)) _ _ _); refine r_ne ?_)
      | ((with_reducible show wpAny _ _ (compareOp CmpOp.Is _ Value.none) _ _ _); refine PySem.is_none ?_)
      | ((with_reducible show wpAny _ _ (compareOp CmpOp.IsNot _ Value.none) _ _ _); refine PySem.isNot_none ?_)
      | ((with_reducible show wpAny _ _ (compareOp CmpOp.In (Value.int _ _) (Value.ref _)) _ _ _); refine r_din ‹W _ _ _ _ _ _› ‹BaseOk _ _› (by wtm_at "hxf6") _ (by assumption) ?_; intro _ _)
      | ((with_reducible show wpAny _ _ (compareOp CmpOp.NotIn (Value.int _ _) (Value.ref _)) _ _ _); refine r_dnin ‹W _ _ _ _ _ _› ‹BaseOk _ _› (by wtm_at "hxf6") _ (by assumption) ?_; intro _ _)
      | ((with_reducible show wpAny _ _ (compareOp CmpOp.GtE (Value.int _ _) (Value.int _ _)) _ _ _); refine r_ge ?_))
  | ((with_reducible show (if _ = true then _ else _)); first | refine if_t (by first | rfl | assumption | (apply decide_eq_true; omega)) ?_ | refine if_f (by first | rfl | assumption | (apply decide_eq_false; omega)) ?_)
  | ((with_reducible show (_ = false ∧ _)); refine ⟨by first | rfl | assumption | (apply decide_eq_false; omega), ?_⟩)
  | ((with_reducible show (_ ∧ ∃ _, Made' _ _ _ _ _ _ _ _ _)); refine ⟨by simp, _, r_made ‹W _ _ _ _ _ _› ?_⟩; intro _ _ _)
  | ((with_reducible show Ready _ _ _ _ _ _ _ _); refine r_ready ‹W _ _ _ _ _ _› ‹BaseOk _ _› ?_)
  | ((with_reducible show wpAny _ _ (setItem (Value.ref _) (Value.int _ _) _) _ _ _); refine r_dset ‹W _ _ _ _ _ _› (by wtm_at "uxf6") (by omega) ?_; intro _ _)
  | ((with_reducible show wpAny _ _ (delItem (Value.ref _) (Value.int _ _)) _ _ _); refine r_ddel ‹W _ _ _ _ _ _› (by wtm_at "uxf6") (by assumption) (by omega) ?_; intro _ _)
  | ((with_reducible show wpAny _ _ (subscriptTail _ _ (Value.ref _) (Value.int _ _)) _ _ _); refine r_dsubA ‹W _ _ _ _ _ _› (by wtm_at "hxf6") (by assumption) ?_ (by with_unfolding_all rfl); intro _ _)
  | ((with_reducible show wpAny _ _ (getMethod _ _ _) _ _ _); first
      | ((with_reducible show wpAny _ _ (getMethod (Value.ref _) (Str.ofString "get") _) _ _ _); refine r_meth_dget ‹W _ _ _ _ _ _› (by wtm_at "hxf6") ?_)
      | ((with_reducible show wpAny _ _ (getMethod (Value.ref _) (Str.ofString "pop") _) _ _ _); first | refine r_meth_dpop ‹W _ _ _ _ _ _› (by wtm_at "hxf6") ?_ | refine r_meth_lpop ‹W _ _ _ _ _ _› (by wtm_at "hxf6") ?_)
      | ((with_reducible show wpAny _ _ (getMethod (Value.ref _) (Str.ofString "append") _) _ _ _); refine r_meth_lappend ‹W _ _ _ _ _ _› (by wtm_at "hxf6") ?_)
      | ((with_reducible show wpAny _ _ (getMethod (Value.ref _) _ _) _ _ _); refine r_clsmeth (by wtm_at "cvxf6") ‹W _ _ _ _ _ _› ‹BaseOk _ _› ?_; intro _ _))
  | ((with_reducible show wpAny _ _ (call _ _) _ _ _); first
      | ((with_reducible show wpAny _ _ (call (Value.builtin "dict.pop") _) _ _ _); refine r_dpop ‹W _ _ _ _ _ _› (by wtm_at "uxf6") (by assumption) (by omega) ?_; intro _ _)
      | ((with_reducible show wpAny _ _ (call (Value.builtin "list.append") _) _ _ _); refine r_lappend ‹W _ _ _ _ _ _› (by wtm_at "uxf6") (by omega) ?_; intro _ _)
      | ((with_reducible show wpAny _ _ (call (Value.builtin "iter") _) _ _ _); refine r_diter ‹W _ _ _ _ _ _› ‹BaseOk _ _› (fun _ => by wtm_at "uxf6") ?_; intro _ _ _ _)
      | ((with_reducible show wpAny _ _ (call (Value.builtin "next") _) _ _ _); refine r_dnext ‹W _ _ _ _ _ _› (by wtm_at "uxf6") (by assumption) ?_; intro _ _ _)
      | ((with_reducible show wpAny _ _ (call (Value.builtin "list.pop") _) _ _ _); refine r_lpop ‹W _ _ _ _ _ _› (by wtm_at "uxf6") (by omega) ?_; intro _ _))
  | ((with_reducible show wpAny _ _ (unaryOp UnaryOp.USub (Value.int _ _)) _ _ _); refine r_neg ‹W _ _ _ _ _ _› ?_; intro _ _ _)
  | ((with_reducible show wpAny _ _ (assign _ _ _) _ _ _); first
      | ((with_reducible show wpAny _ _ (assign (PySem.Expr.Name _ _) _ _) _ _ _); refine wpAny_assign_Name ?_)
      | ((with_reducible show wpAny _ _ (assign (PySem.Expr.Attribute _ _ _) _ _) _ _ _); refine r_assign_attr ?_)
      | ((with_reducible show wpAny _ _ (assign (PySem.Expr.Subscript _ _ _) _ _) _ _ _); refine kas_sub ?_))
  | ((with_reducible show wpAny _ _ (evalPart (some _) _) _ _ _); refine r_partS ?_)
  | ((with_reducible show wpAny _ _ (evalPart none _) _ _ _); refine r_partN ?_))
local macro_rules | `(tactic| wtm_at "myf6") => `(tactic| first
  | wtm_at "sxf6"
  | ((with_reducible show wpAny _ _ (call (Value.builtin "len") _) _ _ _); (first | refine r_llen ‹W _ _ _ _ _ _› (by wtm_at "hxf6") (by omega) ?_ | refine r_dlen ‹W _ _ _ _ _ _› ‹BaseOk _ _› (by wtm_at "hxf6") (by omega) ?_); intro _ _ _))
def clockFd (ca c' : Addr) (doc pm ctv : Value) : FuncData := fnX "clock" "law.<locals>.clock" (fnParams (fAt [47, 8])) (fnBody (fAt [47, 8])) (fnScope (fAt [47, 8])) [("hour", ca)] .none .none doc pm none (.ref c') ctv
def choiceFd (ca c' : Addr) (doc pm ctv : Value) : FuncData := fnX "choice" "_law_line.<locals>.choice" (fnParams (fAt [45, 0])) (fnBody (fAt [45, 0])) (fnScope (fAt [45, 0])) [("draw", ca)] .none .none doc pm none (.ref c') ctv
section
variable {wd : World} {f c' ca hl kl dl sa : Addr} {doc pm ctv : Value} {h k d0 : Int} {th tk td : Tok} {xs : List Value} {ns : List Int} {o₀ : Obj}
theorem con_clock : Spec wd 5 (call (.ref f) []) [(f, IsFnObj (clockFd ca c' doc pm ctv)), (c', IsCode "law.<locals>.clock"), (ca, IsCl (some (.ref hl))), (hl, IsLs [.int h th])]
    (fun r l => r = .int h th ∧ l = [(f, IsFnObj (clockFd ca c' doc pm ctv)), (c', IsCode "law.<locals>.clock"), (ca, IsCl (some (.ref hl))), (hl, IsLs [.int h th])]) := by
  refine spec_defO (fd := clockFd ca c' doc pm ctv) (body := fnBody (fAt [47, 8])) (T := []) (binds := []) (c' := c') .head (.tail .head) rfl rfl (by kernel_rfl) (fun s => BindsTo.of_eq (by kernel_rfl)) .nil ?_
  intro c A L s Q E bo rm sk hq w
  refine wpAny_execs_cons ?_
  repeat wtm_at "myf6"
  refine r_lsub ‹W _ _ _ _ _ _› (by wtm_at "hxf6") (by decide) (by decide) rfl ?_ (by with_unfolding_all rfl)
  intro s1 w1
  exact hq _ _ _ ⟨rfl, rfl⟩ w1.own
theorem con_choice (hI : IntsAre xs ns) (h64 : xs.length < 64) (hn : 0 < xs.length) :
    Spec wd 6 (call (.ref f) [.ref kl]) [(kl, IsLs xs), (f, IsFnObj (choiceFd ca c' doc pm ctv)), (c', IsCode "_law_line.<locals>.choice"), (ca, IsCl (some (.ref dl))), (dl, IsLs [.int d0 td])]
    (fun r l => (∃ (ns' : List Int) (t : Tok) (v : Int), ns'.Perm ns ∧ ns'.Pairwise (· ≤ ·) ∧ ns'[(d0.fmod ns.length).toNat]? = some v ∧ r = .int v t) ∧ l = [(kl, IsLs xs), (f, IsFnObj (choiceFd ca c' doc pm ctv)), (c', IsCode "_law_line.<locals>.choice"), (ca, IsCl (some (.ref dl))), (dl, IsLs [.int d0 td])]) := by
  have hlen : xs.length = ns.length := hI.length
  refine spec_defO (fd := choiceFd ca c' doc pm ctv) (body := fnBody (fAt [45, 0])) (T := ["held"]) (binds := [("held", .ref kl)]) (c' := c') (.tail .head) (.tail (.tail .head)) rfl rfl (by kernel_rfl) (fun s => BindsTo.of_eq (by kernel_rfl)) (.cons .nil) ?_
  intro c A L s Q E bo rm sk hq w
  refine wpAny_execs_cons ?_
  repeat wtm_at "myf6"
  refine r_sorted ‹W _ _ _ _ _ _› (by wtm_at "hxf6") hI h64 ?_
  intro D vs' ns' s1 hI' hp hs w1
  repeat wtm_at "myf6"
  refine r_lsub ‹W _ _ _ _ _ _› (by wtm_at "hxf6") (by decide) (by decide) rfl ?_ (by with_unfolding_all rfl)
  intro s2 w2
  repeat wtm_at "myf6"
  have hl' : vs'.length = xs.length := by rw [hI'.length, hp.length_eq, hlen]
  have b0 : 0 ≤ d0.fmod xs.length := Int.fmod_nonneg_of_pos _ (by omega)
  have b1 : d0.fmod xs.length < xs.length := Int.fmod_lt_of_pos _ (by omega)
  have hi : (d0.fmod xs.length).toNat < vs'.length := by omega
  obtain ⟨n, t, e1, e2⟩ := hI'.at _ _ (List.getElem?_eq_getElem hi)
  refine r_lsub ‹W _ _ _ _ _ _› (by wtm_at "hxf6") b0 (by omega) (v := .int n t) (by rw [List.getElem?_eq_getElem hi, e1]) ?_ (by with_unfolding_all rfl)
  intro s3 w3
  exact hq _ _ _ ⟨⟨ns', t, n, hp, hs, by rw [← hlen]; exact e2, rfl⟩, rfl⟩ (w3.sub (List.sublist_cons_self _ _)).own
theorem con_law_at {d : Int} (ho : o₀.cls = .type "list" ∧ ∃ n, o₀.data = .seq xs.toArray n) (hI : IntsAre xs ns) (hz : xs.length ≤ 900) (hk0 : 0 ≤ k) (hk1 : k < 900) :
    Spec wd 5 (call (.ref 1413) [.ref sa, .int k tk, .int d td]) [(sa, IsX o₀)] (fun r l => (∃ t, r = .int (ns.getD k.toNat d) t) ∧ l = [(sa, IsX o₀)]) := by
  have hlen : xs.length = ns.length := hI.length
  refine spec_def (fn_1413 wd) (bd_1413_3 wd _ _ _) (bv_1413_3 _ _ _) ?_
  intro c A L s Q E bo rm sk hq w
  refine wpAny_execs_cons ?_
  repeat wtm_at "myf6"
  refine r_llenX ‹W _ _ _ _ _ _› (by wtm_at "hxf6") ho (by omega) ?_
  intro t1 s1 w1
  repeat wtm_at "myf6"
  by_cases hk : k < xs.length
  · refine if_t (decide_eq_true hk) ?_
    repeat wtm_at "myf6"
    have hi : k.toNat < xs.length := by omega
    obtain ⟨n, t, e1, e2⟩ := hI.at _ _ (List.getElem?_eq_getElem hi)
    refine r_lsubX ‹W _ _ _ _ _ _› (by wtm_at "hxf6") ho hk0 (by omega) (v := .int n t) (by rw [List.getElem?_eq_getElem hi, e1]) ?_
    intro s2 w2
    exact hq _ _ _ ⟨⟨t, by rw [List.getD_eq_getElem?_getD, e2]; rfl⟩, rfl⟩ w2.own
  · refine if_f (decide_eq_false hk) ?_
    repeat wtm_at "myf6"
    refine hq _ _ _ ⟨⟨td, ?_⟩, rfl⟩ w1.own
    rw [List.getD_eq_getElem?_getD, List.getElem?_eq_none (by omega)]
    rfl
end

structure RrI (ws : List Wt) (gs : List Int) (ikvs : List (Int × Value)) : Prop where
  perm : gs.Perm (Gs ws)
  keys : (ikvs.map (·.1)).Perm (Gs ws)
  at_ : ∀ (j : Nat) (g : Int), gs[j]? = some g → ∃ t : Tok, valueAt ikvs g = some (.int j t)
theorem RrI.snoc {ws : List Wt} {gs : List Int} {ikvs : List (Int × Value)} {w : Wt} {t : Tok} (I : RrI ws gs ikvs) (hg : w.g ∉ Gs ws) : RrI (ws ++ [w]) (gs ++ [w.g]) (stored ikvs w.g (.int gs.length t)) := by
  have hk : w.g ∉ ikvs.map (·.1) := fun h => hg (I.keys.mem_iff.mp h)
  have e : Gs (ws ++ [w]) = Gs ws ++ [w.g] := by unfold Gs; rw [List.map_append]; rfl
  refine ⟨by rw [e]; exact I.perm.append_right _, ?_, fun j g hj => ?_⟩
  · rw [stored_eq, if_neg hk, List.map_append, e]
    exact I.keys.append_right _
  · rw [va_stored]
    rw [List.getElem?_append] at hj
    split at hj
    · have hgm : g ∈ gs := List.mem_of_getElem? hj
      have hne : g ≠ w.g := fun e => hg (by rw [← e]; exact I.perm.mem_iff.mp hgm)
      rw [if_neg hne]
      exact I.at_ j g hj
    · rename_i hlt
      have hj0 : j - gs.length = 0 := by
        rcases Nat.eq_zero_or_pos (j - gs.length) with h | h
        · exact h
        · rw [List.getElem?_eq_none (by rw [List.length_singleton]; omega)] at hj; cases hj
      rw [hj0] at hj
      have eg : w.g = g := Option.some.inj hj
      rw [if_pos eg.symm]
      exact ⟨t, by rw [show j = gs.length by omega]⟩
theorem RrI.pop {ws : List Wt} {gr : List Int} {ikvs : List (Int × Value)} {i : Nat} {k z : Int} {ti : Tok} (I : RrI ws (gr ++ [z]) ikvs) (nd : (Gs ws).Nodup) (hi : (gr ++ [z])[i]? = some k) :
    RrI (rem ws k) (if (i : Int) = gr.length then gr else gr.set i z) (if (i : Int) = gr.length then without ikvs k else stored (without ikvs k) z (.int i ti)) := by
  have ndg : (gr ++ [z]).Nodup := I.perm.nodup_iff.mpr nd
  have ndr : gr.Nodup := (List.nodup_append.mp ndg).1
  have hz : z ∉ gr := fun h => (List.nodup_append.mp ndg).2.2 z h z (.head _) rfl
  by_cases hl : (i : Int) = gr.length
  · have hl' : i = gr.length := by omega
    rw [if_pos hl, if_pos hl]
    rw [hl', List.getElem?_append_right (Nat.le_refl _), Nat.sub_self] at hi
    have ek : z = k := Option.some.inj hi
    subst ek
    have hf : (gr ++ [z]).filter (fun x => decide (x ≠ z)) = gr := by
      rw [List.filter_append, List.filter_cons_of_neg (by simp), List.filter_nil, List.append_nil]
      exact List.filter_eq_self.mpr fun a ha => by
        have : a ≠ z := fun e => hz (e ▸ ha)
        simpa using this
    refine ⟨?_, ?_, fun j g hj => ?_⟩
    · have := I.perm.filter (fun x => decide (x ≠ z))
      rwa [hf, ← gs_rem] at this
    · rw [keys_without, gs_rem]
      exact I.keys.filter _
    · have hj' : (gr ++ [z])[j]? = some g := by
        rw [List.getElem?_append_left (List.getElem?_eq_some_iff.mp hj).1]; exact hj
      have hne : g ≠ z := fun e => hz (e ▸ List.mem_of_getElem? hj)
      rw [va_without, if_neg hne]
      exact I.at_ j g hj'
  · rw [if_neg hl, if_neg hl]
    have hlt : i < gr.length := by
      have := (List.getElem?_eq_some_iff.mp hi).1
      rw [List.length_append, List.length_singleton] at this
      omega
    rw [List.getElem?_append_left hlt] at hi
    have hkz : k ≠ z := fun e => hz (e ▸ List.mem_of_getElem? hi)
    have hmk : z ∈ (without ikvs k).map (·.1) := by
      rw [keys_without, List.mem_filter]
      exact ⟨I.keys.mem_iff.mpr (I.perm.mem_iff.mp (by simp)), by simpa using hkz.symm⟩
    obtain ⟨a, b, rfl, hla⟩ : ∃ a b, gr = a ++ k :: b ∧ a.length = i := by
      have h := (List.getElem?_eq_some_iff.mp hi)
      obtain ⟨h1, h2⟩ := h
      refine ⟨gr.take i, gr.drop (i + 1), ?_, by rw [List.length_take]; omega⟩
      rw [← h2, List.getElem_cons_drop, List.take_append_drop]
    have hset : (a ++ k :: b).set i z = a ++ z :: b := by
      rw [List.set_append, if_neg (by omega), hla, Nat.sub_self]; rfl
    rw [hset]
    have nd2 := List.nodup_append.mp ndr
    have nd3 := List.nodup_cons.mp nd2.2.1
    have hka : k ∉ a := fun h => nd2.2.2 k h k (.head _) rfl
    refine ⟨?_, ?_, fun j g hj => ?_⟩
    · have := I.perm.filter (fun x => decide (x ≠ k))
      rw [← gs_rem] at this
      refine List.Perm.trans ?_ this
      have e : (a ++ k :: b ++ [z]).filter (fun x => decide (x ≠ k)) = a ++ (b ++ [z]) := by
        rw [List.append_assoc, List.filter_append, List.cons_append, List.filter_cons_of_neg (by simp), List.filter_append, List.filter_cons_of_pos (by simpa using hkz.symm), List.filter_nil]
        have f1 : a.filter (fun x => decide (x ≠ k)) = a := List.filter_eq_self.mpr fun x hx => by
          have : x ≠ k := fun e => hka (e ▸ hx)
          simpa using this
        have f2 : b.filter (fun x => decide (x ≠ k)) = b := List.filter_eq_self.mpr fun x hx => by
          have : x ≠ k := fun e => nd3.1 (e ▸ hx)
          simpa using this
        rw [f1, f2]
      rw [e]
      exact List.Perm.append_left a (List.perm_append_comm (l₁ := [z]))
    · rw [keys_stored hmk, keys_without, gs_rem]
      exact I.keys.filter _
    · rw [va_stored]
      by_cases hg : g = z
      · rw [if_pos hg]
        subst hg
        have hza : g ∉ a := fun h => hz (List.mem_append_left _ h)
        have hzb : g ∉ b := fun h => hz (List.mem_append_right _ (.tail _ h))
        rw [List.getElem?_append] at hj
        split at hj
        · exact absurd (List.mem_of_getElem? hj) hza
        · rename_i hna
          cases q : j - a.length with
          | zero => exact ⟨ti, by rw [show j = i by omega]⟩
          | succ q' =>
            rw [q, List.getElem?_cons_succ] at hj
            exact absurd (List.mem_of_getElem? hj) hzb
      · rw [if_neg hg]
        have hj2 : (a ++ k :: b ++ [z])[j]? = some g ∧ g ≠ k := by
          rw [List.append_assoc]
          rw [List.getElem?_append] at hj
          split at hj
          · rename_i hlt2
            exact ⟨by rw [List.getElem?_append_left hlt2]; exact hj, fun e => hka (e ▸ List.mem_of_getElem? hj)⟩
          · rename_i hna
            cases q : j - a.length with
            | zero =>
              rw [q] at hj
              exact absurd (Option.some.inj hj).symm hg
            | succ q' =>
              rw [q, List.getElem?_cons_succ] at hj
              refine ⟨?_, fun e => nd3.1 (e ▸ List.mem_of_getElem? hj)⟩
              rw [List.getElem?_append_right (by omega), q, List.cons_append, List.getElem?_cons_succ, List.getElem?_append_left (List.getElem?_eq_some_iff.mp hj).1]
              exact hj
        rw [va_without, if_neg hj2.2]
        exact I.at_ j g hj2.1

theorem mt_1116_setitem (wd : World) : Mt wd 1116 "__setitem__" 1091 := ⟨by kernel_rfl, by kernel_rfl, by kernel_rfl⟩
theorem mt_1116_len (wd : World) : Mt wd 1116 "__len__" 784 := ⟨by kernel_rfl, by kernel_rfl, by kernel_rfl⟩
theorem mt_1116_get (wd : World) : Mt wd 1116 "get" 792 := ⟨by kernel_rfl, by kernel_rfl, by kernel_rfl⟩
theorem mt_1116_popitem (wd : World) : Mt wd 1116 "popitem" 1106 := ⟨by kernel_rfl, by kernel_rfl, by kernel_rfl⟩
theorem mt_1116_contains (wd : World) : Mt wd 1116 "__contains__" 763 := ⟨by kernel_rfl, by kernel_rfl, by kernel_rfl⟩
theorem mt_1116_getitem (wd : World) : Mt wd 1116 "__getitem__" 742 := ⟨by kernel_rfl, by kernel_rfl, by kernel_rfl⟩
theorem ints_set {xs : List Value} {gs : List Int} {i : Nat} {z : Int} {t : Tok} (h : IntsAre xs gs) : IntsAre (xs.set i (.int z t)) (gs.set i z) := by
  induction h generalizing i with
  | nil => exact .nil
  | cons n t' h ih =>
    cases i with
    | zero => exact .cons z t h
    | succ i => exact .cons n t' ih
theorem ints_snoc {xs : List Value} {gr : List Int} {z : Int} (h : IntsAre xs (gr ++ [z])) : ∃ xr tz, xs = xr ++ [.int z tz] ∧ IntsAre xr gr := by
  induction gr generalizing xs with
  | nil =>
    cases h with
    | cons n t h => cases h; exact ⟨[], t, rfl, .nil⟩
  | cons g gr ih =>
    cases h with
    | cons n t h =>
      obtain ⟨xr, tz, rfl, h'⟩ := ih h
      exact ⟨_ :: xr, tz, rfl, .cons _ _ h'⟩
section
variable {wd : World} {self dl : Addr} {m : Int}
def chL (f c' ca dl : Addr) (doc pm ctv : Value) : Led := [(f, IsFnObj (choiceFd ca c' doc pm ctv)), (c', IsCode "_law_line.<locals>.choice"), (ca, IsCl (some (.ref dl)))]
def I4 (wd : World) (self : Addr) (m : Int) (dl : Addr) (ws : List Wt) (l : Led) : Prop := ∃ (dx dd xd kl f c' ca : Addr) (tn tm : Tok) (doc pm ctv : Value) (kvs ikvs : List (Int × Value)) (xs : List Value) (gs : List Int), KV ws kvs ∧ IntsAre xs gs ∧ RrI ws gs ikvs ∧
  l = rr wd self dx dd xd kl ws.length m tn tm (.ref f) kvs ikvs xs ++ chL f c' ca dl doc pm ctv
theorem RrI.len {ws : List Wt} {gs : List Int} {ikvs : List (Int × Value)} {xs : List Value} (I : RrI ws gs ikvs) (h : IntsAre xs gs) : xs.length = ws.length ∧ ikvs.length = ws.length := by
  have h1 := I.perm.length_eq
  have h2 := I.keys.length_eq
  have h3 := h.length
  unfold Gs at h1 h2
  rw [List.length_map] at h1
  rw [List.length_map, List.length_map] at h2
  omega
def line4 (wd : World) (self : Addr) (m : Int) (dl : Addr) : LineI wd self m dl DueDraw where
  I := I4 wd self m dl
  C := 1116
  T := T4
  fset := 1091
  fpop := 1106
  cc := cc_1116 wd
  mset := mt_1116_setitem wd
  mlen := mt_1116_len wd
  mget := mt_1116_get wd
  mpop := mt_1116_popitem wd
  nget := by decide
  npop := by decide
  inst := by
    rintro ws l ⟨dx, dd, xd, kl, f, c', ca, tn, tm, doc, pm, ctv, kvs, ikvs, xs, gs, h, hx, hI, rfl⟩
    exact ⟨dx, _, .head, .tail .head⟩
  set := by
    rintro ws l g tg came tc N ⟨dx, dd, xd, kl, f, c', ca, tn, tm, doc, pm, ctv, kvs, ikvs, xs, gs, h, hx, hI, rfl⟩ ok hg hN hm h1
    have := ok.len
    have hl := hI.len hx
    have hno : valueAt ikvs g = none := valueAt_none_of_not_mem fun q => hg (hI.keys.mem_iff.mp q)
    refine (((con_rr_set (h.none hg) hno hm h1 (by rw [h.length]; omega) (by omega) (by omega)).frame (chL f c' ca dl doc pm ctv)).le (by decide)).mono ?_
    rintro v l' ⟨_, ⟨_, t, ti, rfl⟩, rfl⟩
    refine ⟨dx, dd, xd, kl, f, c', ca, t, tm, doc, pm, ctv, _, _, _, gs ++ [g], h.stored hg, hx.append (.cons g tg .nil), ?_, by rw [List.length_append]; rfl⟩
    have := hI.snoc (w := ⟨g, came, 0, N⟩) (t := ti) hg
    rwa [← hx.length] at this
  len := by
    rintro ws l ⟨dx, dd, xd, kl, f, c', ca, tn, tm, doc, pm, ctv, kvs, ikvs, xs, gs, h, hx, hI, rfl⟩ ok
    have := ok.len
    refine ((con_len_ex (ex := (xd, IsD wd ikvs) :: (kl, IsLs xs) :: chL f c' ca dl doc pm ctv) (cc_1116 wd) (us := [some (.ref dd), some (.int ws.length tn), some (.int m tm), some (.ref f), some (.ref xd), some (.ref kl)]) .here (by rw [h.length]; omega)).le (by decide)).mono ?_
    rintro v l' ⟨⟨t, rfl⟩, rfl⟩
    exact ⟨⟨t, by rw [h.length]⟩, dx, dd, xd, kl, f, c', ca, tn, tm, doc, pm, ctv, kvs, ikvs, xs, gs, h, hx, hI, rfl⟩
  miss := by
    rintro ws l g tg d ⟨dx, dd, xd, kl, f, c', ca, tn, tm, doc, pm, ctv, kvs, ikvs, xs, gs, h, hx, hI, rfl⟩ ok hg
    refine ((con_get_miss_ex (ex := (xd, IsD wd ikvs) :: (kl, IsLs xs) :: chL f c' ca dl doc pm ctv) (cc_1116 wd) (mt_1116_contains wd) (us := [some (.ref dd), some (.int ws.length tn), some (.int m tm), some (.ref f), some (.ref xd), some (.ref kl)]) .here (h.none hg)).le (by decide)).mono ?_
    rintro v l' ⟨rfl, rfl⟩
    exact ⟨rfl, dx, dd, xd, kl, f, c', ca, tn, tm, doc, pm, ctv, kvs, ikvs, xs, gs, h, hx, hI, rfl⟩
  hit := by
    rintro ws l w N tg d ⟨dx, dd, xd, kl, f, c', ca, tn, tm, doc, pm, ctv, kvs, ikvs, xs, gs, h, hx, hI, rfl⟩ ok hw hN
    obtain ⟨t, hv⟩ := h.at ok.nd hw
    refine ((con_get_hit (cc_1116 wd) (mt_1116_contains wd) (mt_1116_getitem wd) (ex := (xd, IsD wd ikvs) :: (kl, IsLs xs) :: chL f c' ca dl doc pm ctv) (us := [some (.ref dd), some (.int ws.length tn), some (.int m tm), some (.ref f), some (.ref xd), some (.ref kl)]) .here hv ((con_getitem_ex (ex := (xd, IsD wd ikvs) :: (kl, IsLs xs) :: chL f c' ca dl doc pm ctv) (cc_1116 wd) .here hv).le (by decide))).le (by decide)).mono ?_
    rintro v l' ⟨rfl, rfl⟩
    refine ⟨⟨t, rfl⟩, dx, dd, xd, kl, f, c', ca, tn, tm, doc, pm, ctv, kvs, ikvs, xs, gs, h.tch _ _, hx, ⟨by rw [Gs_tch]; exact hI.perm, by rw [Gs_tch]; exact hI.keys, hI.at_⟩, by unfold tch; rw [List.length_map]; rfl⟩
  pop := by
    rintro ws l d0 td ⟨dx, dd, xd, kl, f, c', ca, tn, tm, doc, pm, ctv, kvs, ikvs, xs, gs, h, hx, hI, rfl⟩ ok hne A c env T vs rest s Q E w bo rm sk hq
    have hlen := ok.len
    have hl := hI.len hx
    have hpos : 0 < ws.length := List.length_pos_iff.mpr hne
    have hgl : gs.length = ws.length := by rw [← hx.length]; exact hl.1
    have b0 : 0 ≤ d0.fmod ws.length := Int.fmod_nonneg_of_pos _ (by omega)
    have b1 : d0.fmod ws.length < ws.length := Int.fmod_lt_of_pos _ (by omega)
    have hi : (d0.fmod ws.length).toNat < ws.length := by omega
    obtain ⟨w0, hw0⟩ : ∃ w0, ws[(d0.fmod ws.length).toNat]? = some w0 := ⟨_, List.getElem?_eq_getElem hi⟩
    have hm0 : w0 ∈ ws := List.mem_of_getElem? hw0
    have hdue : DueDraw ws d0 w0 := by
      unfold DueDraw Gs
      rw [List.getElem?_map, hw0]; rfl
    obtain ⟨t, hv⟩ := h.at ok.nd hm0
    have hmg : w0.g ∈ gs := hI.perm.mem_iff.mpr (List.mem_map_of_mem hm0)
    obtain ⟨j, hj⟩ := List.mem_iff_getElem?.mp hmg
    obtain ⟨ti, hat⟩ := hI.at_ j _ hj
    have hjl : j < gs.length := (List.getElem?_eq_some_iff.mp hj).1
    obtain ⟨gr, z, rfl⟩ : ∃ gr z, gs = gr ++ [z] := by
      rcases List.eq_nil_or_concat gs with e | ⟨a, b, e⟩
      · rw [e] at hgl; simp at hgl; omega
      · exact ⟨a, b, by rw [e, List.concat_eq_append]⟩
    obtain ⟨xr, tz, rfl, hxr⟩ := ints_snoc hx
    have hxl : xr.length = gr.length := hxr.length
    have hsp : Spec wd 6 (call (.ref f) [.ref kl]) ((kl, IsLs (xr ++ [.int z tz])) :: (chL f c' ca dl doc pm ctv ++ [(dl, IsLs [.int d0 td])])) (fun r l => (∃ tk, r = .int w0.g tk) ∧ l = (kl, IsLs (xr ++ [.int z tz])) :: (chL f c' ca dl doc pm ctv ++ [(dl, IsLs [.int d0 td])])) := by
      refine (con_choice hx (by omega) (by omega)).mono ?_
      rintro v l' ⟨⟨ns', t', n, hp, hs, hn, rfl⟩, rfl⟩
      have e : ns' = Gs ws := List.Perm.eq_of_pairwise (fun x y _ _ h1 h2 => Int.le_antisymm h1 h2) hs (ok.inc.imp fun h => Int.le_of_lt h) (hp.trans hI.perm)
      rw [e, hgl] at hn
      have hd := hdue
      unfold DueDraw at hd
      rw [hd] at hn
      exact ⟨⟨t', by rw [Option.some.inj hn]⟩, rfl⟩
    have w1 : W c env T vs ((rr wd self dx dd xd kl ws.length m tn tm (.ref f) kvs ikvs (xr ++ [.int z tz]) ++ (chL f c' ca dl doc pm ctv ++ [(dl, IsLs [.int d0 td])])) ++ rest) s := by
      have e : (rr wd self dx dd xd kl ws.length m tn tm (.ref f) kvs ikvs (xr ++ [.int z tz]) ++ chL f c' ca dl doc pm ctv) ++ ((dl, IsLs [.int d0 td]) :: rest) = (rr wd self dx dd xd kl ws.length m tn tm (.ref f) kvs ikvs (xr ++ [.int z tz]) ++ (chL f c' ca dl doc pm ctv ++ [(dl, IsLs [.int d0 td])])) ++ rest := by simp
      rw [← e]; exact w
    refine w1.useP bo (rm.le (by decide)) sk (.refl _) (con_rr_pop (i := j) (ti := ti) (fd := choiceFd ca c' doc pm ctv) .head hsp hv hat rfl ⟨by omega, by rw [List.length_append, List.length_singleton, hxl]; rw [List.length_append, List.length_singleton] at hjl; omega⟩ (by rw [h.length]; omega) (by omega) (by omega)) ?_
    rintro _ _ s' ⟨tp, t2, tk, rfl, rfl⟩ w'
    have hpop := hI.pop (ti := ti) ok.nd hj
    rw [hxl] at w'
    refine hq tp tk t w0 (rr wd self dx dd xd kl ((rem ws w0.g).length) m t2 tm (.ref f) (without kvs w0.g) (if (j : Int) = gr.length then without ikvs w0.g else stored (without ikvs w0.g) z (.int j ti)) (if (j : Int) = gr.length then xr else xr.set j (.int z tz)) ++ chL f c' ca dl doc pm ctv) s' hm0 hdue ⟨dx, dd, xd, kl, f, c', ca, t2, tm, doc, pm, ctv, _, _, _, _, h.rem w0.g, ?_, hpop, rfl⟩ ?_
    · split
      · exact hxr
      · exact ints_set hxr
    · rw [cur_rem ok.nd hm0] at w'
      have e : ∀ (X : Led), (tp, IsTu [.int w0.g tk, .int w0.came t]) :: ((X ++ chL f c' ca dl doc pm ctv) ++ ((dl, IsLs [.int d0 td]) :: rest)) = ((tp, IsTu [.int w0.g tk, .int w0.came t]) :: (X ++ (chL f c' ca dl doc pm ctv ++ [(dl, IsLs [.int d0 td])]))) ++ rest := fun X => by simp
      rw [e]
      exact w'
end

def Fa (ws : List Wt) (c : Int) : List Wt := ws.filter fun w => decide (w.asks + 1 = c)
theorem mem_Fa {ws : List Wt} {c : Int} {u : Wt} : u ∈ Fa ws c ↔ u ∈ ws ∧ u.asks + 1 = c := by unfold Fa; rw [List.mem_filter]; simp
theorem Fa_cons_eq {w : Wt} {ws : List Wt} {c : Int} (h : w.asks + 1 = c) : Fa (w :: ws) c = w :: Fa ws c := by unfold Fa; rw [List.filter_cons_of_pos (by simpa using h)]
theorem Fa_cons_ne {w : Wt} {ws : List Wt} {c : Int} (h : w.asks + 1 ≠ c) : Fa (w :: ws) c = Fa ws c := by unfold Fa; rw [List.filter_cons_of_neg (by simpa using h)]
theorem Fa_tch_other {ws : List Wt} {w : Wt} {N c : Int} (nd : (Gs ws).Nodup) (hw : w ∈ ws) (h1 : c ≠ w.asks + 1) (h2 : c ≠ w.asks + 1 + 1) : Fa (tch ws w.g N) c = Fa ws c := by
  induction ws with
  | nil => rfl
  | cons u ws ih =>
    have nd' := gs_nd nd
    rcases List.mem_cons.mp hw with rfl | hw
    · rw [tch_cons, tch_notin nd'.1, tch1_eq rfl, Fa_cons_ne (Ne.symm h2), Fa_cons_ne (Ne.symm h1)]
    · rw [tch_cons, tch1_ne (nd'.1 w hw).symm]
      by_cases e : u.asks + 1 = c
      · rw [Fa_cons_eq e, Fa_cons_eq e, ih nd'.2 hw]
      · rw [Fa_cons_ne e, Fa_cons_ne e, ih nd'.2 hw]
theorem Fa_tch_from {ws : List Wt} {w : Wt} {N : Int} (nd : (Gs ws).Nodup) (hw : w ∈ ws) : Fa (tch ws w.g N) (w.asks + 1) = rem (Fa ws (w.asks + 1)) w.g := by
  induction ws with
  | nil => cases hw
  | cons u ws ih =>
    have nd' := gs_nd nd
    rcases List.mem_cons.mp hw with rfl | hw
    · rw [tch_cons, tch_notin nd'.1, tch1_eq rfl, Fa_cons_ne (by show w.asks + 1 + 1 ≠ w.asks + 1; omega), Fa_cons_eq rfl, rem_cons_eq rfl, rem_notin fun u hu => nd'.1 u (mem_Fa.mp hu).1]
    · rw [tch_cons, tch1_ne (nd'.1 w hw).symm]
      by_cases e : u.asks + 1 = w.asks + 1
      · rw [Fa_cons_eq e, Fa_cons_eq e, rem_cons_ne (nd'.1 w hw).symm, ih nd'.2 hw]
      · rw [Fa_cons_ne e, Fa_cons_ne e, ih nd'.2 hw]
theorem Fa_tch_to {ws : List Wt} {w : Wt} {N : Int} (nd : (Gs ws).Nodup) (hw : w ∈ ws) : (Fa (tch ws w.g N) (w.asks + 1 + 1)).Perm (Fa ws (w.asks + 1 + 1) ++ [tch1 w.g N w]) := by
  induction ws with
  | nil => cases hw
  | cons u ws ih =>
    have nd' := gs_nd nd
    rcases List.mem_cons.mp hw with rfl | hw
    · rw [tch_cons, tch_notin nd'.1, tch1_eq rfl, Fa_cons_eq (by rfl), Fa_cons_ne (w := w) (by omega)]
      exact List.perm_append_comm (l₁ := [_])
    · rw [tch_cons, tch1_ne (nd'.1 w hw).symm]
      by_cases e : u.asks + 1 = w.asks + 1 + 1
      · rw [Fa_cons_eq e, Fa_cons_eq e]
        exact (ih nd'.2 hw).cons u
      · rw [Fa_cons_ne e, Fa_cons_ne e]
        exact ih nd'.2 hw
theorem Fa_rem {ws : List Wt} {k c : Int} : Fa (rem ws k) c = rem (Fa ws c) k := by unfold Fa rem; rw [List.filter_filter, List.filter_filter]; congr 1; funext w; exact Bool.and_comm _ _
theorem Fa_app {ws : List Wt} {w : Wt} {c : Int} : Fa (ws ++ [w]) c = Fa ws c ++ (if w.asks + 1 = c then [w] else []) := by
  unfold Fa
  rw [List.filter_append]
  by_cases h : w.asks + 1 = c
  · rw [if_pos h, List.filter_cons_of_pos (by simpa using h)]; rfl
  · rw [if_neg h, List.filter_cons_of_neg (by simpa using h)]; rfl
def Grp (ws : List Wt) (k : Lk) : Prop := ∃ us : List Wt, us ≠ [] ∧ k.kv.map (·.1) = Gs us ∧ us.Pairwise (fun a b => a.last < b.last) ∧ us.Perm (Fa ws k.c)
structure LfuI (root : Addr) (as : List Addr) (st : Addr → Lk) (lkvs : List (Int × Value)) (ws : List Wt) : Prop where
  nd : (root :: as).Nodup
  ch : Ch (fun a => (st a).nx) (fun a => (st a).pv) root as root
  r0 : (st root).c = 0
  inc : as.Pairwise (fun a b => (st a).c < (st b).c)
  pos : ∀ a ∈ as, 1 ≤ (st a).c
  grp : ∀ a ∈ as, Grp ws (st a)
  lk : ∀ w ∈ ws, ∃ a ∈ as, (st a).c = w.asks + 1 ∧ valueAt lkvs w.g = some (.ref a)
  keys : (lkvs.map (·.1)).Perm (Gs ws)
theorem g_inj {ws : List Wt} {u w : Wt} (nd : (Gs ws).Nodup) (hu : u ∈ ws) (hw : w ∈ ws) (e : u.g = w.g) : u = w := by
  induction ws with
  | nil => cases hu
  | cons x ws ih =>
    have nd' := gs_nd nd
    rcases List.mem_cons.mp hu with e1 | h1 <;> rcases List.mem_cons.mp hw with e2 | h2
    · rw [e1, e2]
    · exact absurd (by rw [← e, e1]) (nd'.1 w h2)
    · exact absurd (by rw [e, e2]) (nd'.1 u h1)
    · exact ih nd'.2 h1 h2
section
variable {root : Addr} {as : List Addr} {st st' : Addr → Lk} {lkvs : List (Int × Value)} {ws : List Wt} {w : Wt} {N : Int}
theorem LfuI.len (I : LfuI root as st lkvs ws) : lkvs.length = ws.length := by
  have := I.keys.length_eq
  unfold Gs at this
  rwa [List.length_map, List.length_map] at this
theorem Grp.len {k : Lk} (g : Grp ws k) : k.kv.length ≤ ws.length := by
  obtain ⟨us, _, h1, _, h2⟩ := g
  have e1 := congrArg List.length h1
  unfold Gs at e1
  rw [List.length_map, List.length_map] at e1
  rw [e1, h2.length_eq]
  exact List.length_filter_le _ _
theorem Grp.mem {k : Lk} (g : Grp ws k) {x : Int} : x ∈ k.kv.map (·.1) ↔ ∃ u ∈ ws, u.asks + 1 = k.c ∧ u.g = x := by
  obtain ⟨us, _, h1, _, h2⟩ := g
  rw [h1]
  constructor
  · intro h
    obtain ⟨u, hu, e⟩ := List.mem_map.mp h
    have := mem_Fa.mp (h2.mem_iff.mp hu)
    exact ⟨u, this.1, this.2, e⟩
  · rintro ⟨u, hu, h, rfl⟩
    exact List.mem_map_of_mem (h2.mem_iff.mpr (mem_Fa.mpr ⟨hu, h⟩))
theorem inc_inj (inc : as.Pairwise (fun a b => (st a).c < (st b).c)) {a b : Addr} (ha : a ∈ as) (hb : b ∈ as) (e : (st a).c = (st b).c) : a = b := by
  induction as with
  | nil => cases ha
  | cons x as ih =>
    have p := List.pairwise_cons.mp inc
    rcases List.mem_cons.mp ha with e1 | h1 <;> rcases List.mem_cons.mp hb with e2 | h2
    · rw [e1, e2]
    · have := p.1 b h2; rw [e1] at e; omega
    · have := p.1 a h1; rw [e2] at e; omega
    · exact ih p.2 h1 h2
theorem lk_mem (I : LfuI root as st lkvs ws) {k : Int} (hk : k ∉ Gs ws) : valueAt lkvs k = none := valueAt_none_of_not_mem fun h => hk (I.keys.mem_iff.mp h)
theorem LfuI.add_old {g came : Int} (nd : (Gs ws).Nodup) (hg : g ∉ Gs ws) (I : LfuI root as st lkvs ws) {f : Addr} (hf : f ∈ as) (hc : (st f).c = 1) (hN : ∀ u ∈ ws, u.last < N)
    (e1 : ∀ b, (st' b).nx = (st b).nx ∧ (st' b).pv = (st b).pv ∧ (st' b).c = (st b).c) (e2 : ∀ b, b ≠ f → (st' b).kv = (st b).kv) (e3 : (st' f).kv = stored (st f).kv g .none) :
    LfuI root as st' (stored lkvs g (.ref f)) (ws ++ [⟨g, came, 0, N⟩]) := by
  have hk : g ∉ lkvs.map (·.1) := fun h => hg (I.keys.mem_iff.mp h)
  have eG : Gs (ws ++ [⟨g, came, 0, N⟩]) = Gs ws ++ [g] := by unfold Gs; rw [List.map_append]; rfl
  refine ⟨I.nd, I.ch.congr (fun a _ => (e1 a).1) (fun a _ => (e1 a).2.1), (e1 root).2.2.trans I.r0, I.inc.imp fun h => by rw [(e1 _).2.2, (e1 _).2.2]; exact h, fun a ha => by rw [(e1 a).2.2]; exact I.pos a ha, fun a ha => ?_, fun u hu => ?_, ?_⟩
  · by_cases h : a = f
    · subst h
      have G := I.grp a ha
      have hng : g ∉ (st a).kv.map (·.1) := fun h => by
        obtain ⟨u, hu, _, e⟩ := G.mem.mp h
        exact hg (by rw [← e]; exact List.mem_map_of_mem hu)
      obtain ⟨us, h1, h2, h3, h4⟩ := G
      refine ⟨us ++ [⟨g, came, 0, N⟩], by simp, ?_, ?_, ?_⟩
      · rw [e3]
        exact osnoc (w := ⟨g, came, 0, N⟩) h2 (by rw [← h2]; exact hng)
      · rw [List.pairwise_append]
        refine ⟨h3, List.pairwise_singleton _ _, fun x hx y hy => ?_⟩
        rw [List.mem_singleton.mp hy]
        exact hN x (mem_Fa.mp (h4.mem_iff.mp hx)).1
      · rw [(e1 a).2.2, Fa_app, if_pos (by rw [hc]; rfl)]
        exact h4.append_right _
    · have hne : (st a).c ≠ 1 := fun e => h (inc_inj I.inc ha hf (e.trans hc.symm))
      obtain ⟨us, h1, h2, h3, h4⟩ := I.grp a ha
      refine ⟨us, h1, by rw [e2 a h]; exact h2, h3, ?_⟩
      rw [(e1 a).2.2, Fa_app, if_neg (by show (0 : Int) + 1 ≠ _; omega), List.append_nil]
      exact h4
  · rcases List.mem_append.mp hu with hu | hu
    · obtain ⟨a, ha, h1, h2⟩ := I.lk u hu
      refine ⟨a, ha, by rw [(e1 a).2.2]; exact h1, ?_⟩
      rw [va_stored, if_neg (fun e => hg (by rw [← e]; exact List.mem_map_of_mem hu))]
      exact h2
    · rw [List.mem_singleton.mp hu]
      exact ⟨f, hf, by rw [(e1 f).2.2, hc]; rfl, by rw [va_stored, if_pos rfl]⟩
  · rw [stored_eq, if_neg hk, List.map_append, eG]
    exact I.keys.append_right _
theorem LfuI.add_new {g came : Int} (nd : (Gs ws).Nodup) (hg : g ∉ Gs ws) (I : LfuI root as st lkvs ws) {x : Addr} (hx : x ∉ root :: as) (hc : ∀ a ∈ as, (st a).c ≠ 1) 
    (e1 : ∀ b, (st' b).nx = if b = x then as.headD root else if b = root then x else (st b).nx) (e2 : ∀ b, (st' b).pv = if b = x then root else if b = as.headD root then x else (st b).pv)
    (e3 : ∀ b, b ≠ x → (st' b).c = (st b).c ∧ (st' b).kv = (st b).kv) (e4 : (st' x).c = 1 ∧ (st' x).kv = [(g, .none)]) :
    LfuI root (x :: as) st' (stored lkvs g (.ref x)) (ws ++ [⟨g, came, 0, N⟩]) := by
  have hk : g ∉ lkvs.map (·.1) := fun h => hg (I.keys.mem_iff.mp h)
  have eG : Gs (ws ++ [⟨g, came, 0, N⟩]) = Gs ws ++ [g] := by unfold Gs; rw [List.map_append]; rfl
  have nd1 := List.nodup_cons.mp I.nd
  have hne : ∀ a ∈ as, a ≠ x := fun a ha e => hx (by rw [← e]; exact .tail _ ha)
  have hxr : x ≠ root := fun e => hx (by rw [e]; exact .head _)
  refine ⟨?_, ?_, (e3 root hxr.symm).1.trans I.r0, ?_, fun a ha => ?_, fun a ha => ?_, fun u hu => ?_, ?_⟩
  · refine List.nodup_cons.mpr ⟨fun h => ?_, List.nodup_cons.mpr ⟨fun h => hx (.tail _ h), nd1.2⟩⟩
    rcases List.mem_cons.mp h with h | h
    · exact hxr h.symm
    · exact nd1.1 h
  · exact Ch.insert (nx := fun a => (st a).nx) (pv := fun a => (st a).pv) (l1 := []) (l2 := as) I.nd nd1.1 I.ch hx hxr e1 e2
  · refine List.pairwise_cons.mpr ⟨fun a ha => ?_, ?_⟩
    · rw [e4.1, (e3 a (hne a ha)).1]
      have := I.pos a ha; have := hc a ha; omega
    · refine I.inc.imp_of_mem fun {a b} ha hb h => ?_
      rw [(e3 a (hne a ha)).1, (e3 b (hne b hb)).1]; exact h
  · rcases List.mem_cons.mp ha with rfl | ha
    · rw [e4.1]; decide
    · rw [(e3 a (hne a ha)).1]; exact I.pos a ha
  · rcases List.mem_cons.mp ha with rfl | ha
    · refine ⟨[⟨g, came, 0, N⟩], by simp, by rw [e4.2]; rfl, List.pairwise_singleton _ _, ?_⟩
      rw [e4.1, Fa_app, if_pos (show (⟨g, came, 0, N⟩ : Wt).asks + 1 = 1 from rfl)]
      have : Fa ws 1 = [] := by
        rw [List.eq_nil_iff_forall_not_mem]
        intro u hu
        have := mem_Fa.mp hu
        obtain ⟨b, hb, h1, _⟩ := I.lk u this.1
        exact hc b hb (by omega)
      rw [this]; exact .refl _
    · obtain ⟨us, h1, h2, h3, h4⟩ := I.grp a ha
      refine ⟨us, h1, by rw [(e3 a (hne a ha)).2]; exact h2, h3, ?_⟩
      rw [(e3 a (hne a ha)).1, Fa_app, if_neg (by show (0 : Int) + 1 ≠ _; have := hc a ha; omega), List.append_nil]
      exact h4
  · rcases List.mem_append.mp hu with hu | hu
    · obtain ⟨a, ha, h1, h2⟩ := I.lk u hu
      refine ⟨a, .tail _ ha, by rw [(e3 a (hne a ha)).1]; exact h1, ?_⟩
      rw [va_stored, if_neg (fun e => hg (by rw [← e]; exact List.mem_map_of_mem hu))]
      exact h2
    · rw [List.mem_singleton.mp hu]
      exact ⟨x, .head _, by rw [e4.1]; rfl, by rw [va_stored, if_pos rfl]⟩
  · rw [stored_eq, if_neg hk, List.map_append, eG]
    exact I.keys.append_right _
end

structure LfuX (a : Addr) (root : Addr) (as : List Addr) (st : Addr → Lk) (lkvs : List (Int × Value)) (ws : List Wt) : Prop where
  nd : (root :: as).Nodup
  ch : Ch (fun a => (st a).nx) (fun a => (st a).pv) root as root
  r0 : (st root).c = 0
  inc : as.Pairwise (fun a b => (st a).c < (st b).c)
  pos : ∀ a ∈ as, 1 ≤ (st a).c
  grp : ∀ b ∈ as, b ≠ a → Grp ws (st b)
  ga : (st a).kv ≠ [] → Grp ws (st a)
  ge : (st a).kv = [] → Fa ws (st a).c = []
  lk : ∀ w ∈ ws, ∃ a ∈ as, (st a).c = w.asks + 1 ∧ valueAt lkvs w.g = some (.ref a)
  keys : (lkvs.map (·.1)).Perm (Gs ws)
section
variable {root a b x : Addr} {as : List Addr} {st st' : Addr → Lk} {lkvs : List (Int × Value)} {ws : List Wt} {w : Wt} {N : Int}
theorem LfuX.full (I : LfuX a root as st lkvs ws) (h : (st a).kv ≠ []) : LfuI root as st lkvs ws :=
  ⟨I.nd, I.ch, I.r0, I.inc, I.pos, fun b hb => if e : b = a then e ▸ I.ga h else I.grp b hb e, I.lk, I.keys⟩
theorem LfuX.unlink (I : LfuX a root as st lkvs ws) (ha : a ∈ as) (h : (st a).kv = []) (e1 : ∀ b, (st' b).nx = if b = (st a).pv then (st a).nx else (st b).nx) (e2 : ∀ b, (st' b).pv = if b = (st a).nx then (st a).pv else (st b).pv)
    (e3 : ∀ b, (st' b).c = (st b).c ∧ (st' b).kv = (st b).kv) : LfuI root (as.erase a) st' lkvs ws := by
  obtain ⟨l1, l2, rfl⟩ := List.append_of_mem ha
  have nd1 := List.nodup_cons.mp I.nd
  have nd2 := List.nodup_append.mp nd1.2
  have nd3 := List.nodup_cons.mp nd2.2.1
  have ha1 : a ∉ l1 := fun h => nd2.2.2 a h a (.head _) rfl
  have ee : (l1 ++ a :: l2).erase a = l1 ++ l2 := by
    rw [List.erase_append_right _ ha1, List.erase_cons_head]
  have sub : (l1 ++ l2).Sublist (l1 ++ a :: l2) := (List.sublist_cons_self a l2).append_left l1
  have hna : ∀ b ∈ l1 ++ l2, b ≠ a := fun b hb e => by
    subst e
    rcases List.mem_append.mp hb with q | q
    · exact ha1 q
    · exact nd3.1 q
  rw [ee]
  refine ⟨(List.Sublist.cons_cons root sub).nodup I.nd, Ch.unlink I.nd nd1.1 I.ch e1 e2, (e3 root).1.trans I.r0, (I.inc.sublist sub).imp fun h => by rw [(e3 _).1, (e3 _).1]; exact h, fun b hb => by rw [(e3 b).1]; exact I.pos b (sub.mem hb), fun b hb => ?_, fun u hu => ?_, I.keys⟩
  · have := I.grp b (sub.mem hb) (hna b hb)
    unfold Grp at this ⊢
    rw [(e3 b).1, (e3 b).2]; exact this
  · obtain ⟨b, hb, h1, h2⟩ := I.lk u hu
    refine ⟨b, ?_, by rw [(e3 b).1]; exact h1, h2⟩
    rcases List.mem_append.mp hb with q | q
    · exact List.mem_append_left _ q
    · rcases List.mem_cons.mp q with rfl | q
      · have := I.ge h
        have hm : u ∈ Fa ws (st b).c := mem_Fa.mpr ⟨hu, h1.symm⟩
        rw [this] at hm; cases hm
      · exact List.mem_append_right _ q
theorem LfuI.drop (nd : (Gs ws).Nodup) (hw : w ∈ ws) (I : LfuI root as st lkvs ws) (ha : a ∈ as) (hc : (st a).c = w.asks + 1)
    (e1 : ∀ b, (st' b).nx = (st b).nx ∧ (st' b).pv = (st b).pv ∧ (st' b).c = (st b).c) (e2 : ∀ b, b ≠ a → (st' b).kv = (st b).kv) (e3 : (st' a).kv = without (st a).kv w.g) :
    LfuX a root as st' (without lkvs w.g) (rem ws w.g) := by
  obtain ⟨us, h1, h2, h3, h4⟩ := I.grp a ha
  have hp : (rem us w.g).Perm (Fa (rem ws w.g) (st a).c) := by rw [Fa_rem]; exact rem_perm h4
  refine ⟨I.nd, I.ch.congr (fun a _ => (e1 a).1) (fun a _ => (e1 a).2.1), (e1 root).2.2.trans I.r0, I.inc.imp fun h => by rw [(e1 _).2.2, (e1 _).2.2]; exact h, fun a ha => by rw [(e1 a).2.2]; exact I.pos a ha, fun b hb hba => ?_, fun h => ?_, fun h => ?_, fun u hu => ?_, ?_⟩
  · obtain ⟨us, h1, h2, h3, h4⟩ := I.grp b hb
    refine ⟨us, h1, by rw [e2 b hba]; exact h2, h3, ?_⟩
    rw [(e1 b).2.2, Fa_rem, rem_notin]
    · exact h4
    · intro u hu e
      have := mem_Fa.mp hu
      have := g_inj nd this.1 hw e
      subst this
      exact hba (inc_inj I.inc hb ha (by rw [hc, ← this.2]))
  · refine ⟨rem us w.g, fun e => h ?_, by rw [e3]; exact orem w.g h2, h3.sublist rem_sub, by rw [(e1 a).2.2]; exact hp⟩
    rw [e3]
    have := orem w.g h2
    rw [e] at this
    exact List.map_eq_nil_iff.mp this
  · rw [e3] at h
    have := orem w.g h2
    rw [h] at this
    have e : rem us w.g = [] := List.map_eq_nil_iff.mp this.symm
    rw [e] at hp
    rw [(e1 a).2.2]
    exact hp.nil_eq.symm
  · have hu' := mem_rem.mp hu
    obtain ⟨b, hb, h1, h2⟩ := I.lk u hu'.1
    exact ⟨b, hb, by rw [(e1 b).2.2]; exact h1, by rw [va_without, if_neg hu'.2]; exact h2⟩
  · rw [keys_without, gs_rem]
    exact I.keys.filter _
theorem LfuI.move (nd : (Gs ws).Nodup) (hw : w ∈ ws) (hN : ∀ u ∈ ws, u.last < N) (I : LfuI root as st lkvs ws) (ha : a ∈ as) (hc : (st a).c = w.asks + 1) (hb : b ∈ as) (hcb : (st b).c = (st a).c + 1)
    (e1 : ∀ b, (st' b).nx = (st b).nx ∧ (st' b).pv = (st b).pv ∧ (st' b).c = (st b).c) (e2 : ∀ c, c ≠ a → c ≠ b → (st' c).kv = (st c).kv) (e3 : (st' a).kv = without (st a).kv w.g) (e4 : (st' b).kv = stored (st b).kv w.g .none) :
    LfuX a root as st' (stored lkvs w.g (.ref b)) (tch ws w.g N) := by
  have hab : a ≠ b := fun e => by rw [e] at hcb; omega
  have hwk : w.g ∈ lkvs.map (·.1) := I.keys.mem_iff.mpr (List.mem_map_of_mem hw)
  obtain ⟨us, h1, h2, h3, h4⟩ := I.grp a ha
  have hp : (rem us w.g).Perm (Fa (tch ws w.g N) (st a).c) := by rw [hc, Fa_tch_from nd hw, ← hc]; exact rem_perm h4
  refine ⟨I.nd, I.ch.congr (fun a _ => (e1 a).1) (fun a _ => (e1 a).2.1), (e1 root).2.2.trans I.r0, I.inc.imp fun h => by rw [(e1 _).2.2, (e1 _).2.2]; exact h, fun a ha => by rw [(e1 a).2.2]; exact I.pos a ha, fun d hd hda => ?_, fun h => ?_, fun h => ?_, fun u hu => ?_, ?_⟩
  · by_cases hdb : d = b
    · subst hdb
      have G := I.grp d hd
      have hng : w.g ∉ (st d).kv.map (·.1) := fun h => by
        obtain ⟨u, hu, h1, e⟩ := G.mem.mp h
        have := g_inj nd hu hw e
        subst this
        omega
      obtain ⟨vs, h1, h2, h3, h4⟩ := G
      refine ⟨vs ++ [tch1 w.g N w], by simp, ?_, ?_, ?_⟩
      · rw [e4]
        have := osnoc (w := tch1 w.g N w) (u := .none) h2 (by rw [tch1_g.1, ← h2]; exact hng)
        rwa [tch1_g.1] at this
      · rw [List.pairwise_append]
        refine ⟨h3, List.pairwise_singleton _ _, fun x hx y hy => ?_⟩
        rw [List.mem_singleton.mp hy, tch1_eq rfl]
        exact hN x (mem_Fa.mp (h4.mem_iff.mp hx)).1
      · rw [(e1 d).2.2, hcb, hc]
        refine List.Perm.trans ?_ (Fa_tch_to nd hw).symm
        rw [← hc, ← hcb]
        exact h4.append_right _
    · obtain ⟨vs, h1, h2, h3, h4⟩ := I.grp d hd
      refine ⟨vs, h1, by rw [e2 d hda hdb]; exact h2, h3, ?_⟩
      rw [(e1 d).2.2, Fa_tch_other nd hw (fun e => hda (inc_inj I.inc hd ha (by rw [e, hc]))) (fun e => hdb (inc_inj I.inc hd hb (by rw [e, hcb, hc])))]
      exact h4
  · refine ⟨rem us w.g, fun e => h ?_, by rw [e3]; exact orem w.g h2, h3.sublist rem_sub, by rw [(e1 a).2.2]; exact hp⟩
    rw [e3]
    have := orem w.g h2
    rw [e] at this
    exact List.map_eq_nil_iff.mp this
  · rw [e3] at h
    have := orem w.g h2
    rw [h] at this
    have e : rem us w.g = [] := List.map_eq_nil_iff.mp this.symm
    rw [e] at hp
    rw [(e1 a).2.2]
    exact hp.nil_eq.symm
  · obtain ⟨u0, hu0, rfl⟩ := List.mem_map.mp hu
    by_cases e : u0.g = w.g
    · have := g_inj nd hu0 hw e
      subst this
      rw [tch1_eq rfl]
      exact ⟨b, hb, by rw [(e1 b).2.2, hcb, hc], by rw [va_stored]; exact if_pos rfl⟩
    · rw [tch1_ne e]
      obtain ⟨d, hd, h1, h2⟩ := I.lk u0 hu0
      exact ⟨d, hd, by rw [(e1 d).2.2]; exact h1, by rw [va_stored, if_neg e]; exact h2⟩
  · rw [keys_stored hwk, Gs_tch]
    exact I.keys
theorem fa_nil (I : LfuI root as st lkvs ws) {c : Int} (h : ∀ b ∈ as, (st b).c ≠ c) : Fa ws c = [] := by
  rw [List.eq_nil_iff_forall_not_mem]
  intro u hu
  have := mem_Fa.mp hu
  obtain ⟨b, hb, h1, _⟩ := I.lk u this.1
  exact h b hb (h1.trans this.2)
theorem LfuI.bump (nd : (Gs ws).Nodup) (hw : w ∈ ws) (I : LfuI root as st lkvs ws) (ha : a ∈ as) (hc : (st a).c = w.asks + 1) (hl : valueAt lkvs w.g = some (.ref a)) (hno : ∀ b ∈ as, (st b).c ≠ (st a).c + 1) (h1 : (st a).kv.length = 1)
    (e1 : ∀ b, (st' b).nx = (st b).nx ∧ (st' b).pv = (st b).pv ∧ (st' b).kv = (st b).kv) (e2 : ∀ b, b ≠ a → (st' b).c = (st b).c) (e3 : (st' a).c = (st a).c + 1) : LfuI root as st' lkvs (tch ws w.g N) := by
  have nd1 := List.nodup_cons.mp I.nd
  have hra : root ≠ a := fun e => nd1.1 (e ▸ ha)
  have G := I.grp a ha
  have hmem : w.g ∈ (st a).kv.map (·.1) := G.mem.mpr ⟨w, hw, hc.symm, rfl⟩
  obtain ⟨p, hp⟩ := List.length_eq_one_iff.mp h1
  have hkv : (st a).kv.map (·.1) = [w.g] := by
    rw [hp] at hmem ⊢
    rw [List.map_cons, List.map_nil] at hmem ⊢
    rw [List.mem_singleton.mp hmem]
  have only : ∀ u ∈ ws, u.asks + 1 = (st a).c → u = w := fun u hu h => by
    have := G.mem.mpr ⟨u, hu, h, rfl⟩
    rw [hkv] at this
    exact g_inj nd hu hw (List.mem_singleton.mp this)
  refine ⟨I.nd, I.ch.congr (fun a _ => (e1 a).1) (fun a _ => (e1 a).2.1), (e2 root hra).trans I.r0, ?_, fun b hb => ?_, fun b hb => ?_, fun u hu => ?_, by rw [Gs_tch]; exact I.keys⟩
  · refine I.inc.imp_of_mem fun {c d} hc' hd h => ?_
    by_cases e : c = a
    · have hda : d ≠ a := fun q => by rw [e, q] at h; omega
      rw [e, e3, e2 d hda]
      rw [e] at h
      have := hno d hd
      omega
    · by_cases e' : d = a
      · rw [e', e3, e2 c e]; rw [e'] at h; omega
      · rw [e2 c e, e2 d e']; exact h
  · by_cases e : b = a
    · rw [e, e3]; have := I.pos a ha; omega
    · rw [e2 b e]; exact I.pos b hb
  · by_cases e : b = a
    · subst e
      refine ⟨[tch1 w.g N w], by simp, ?_, List.pairwise_singleton _ _, ?_⟩
      · rw [(e1 b).2.2, hkv]
        show [w.g] = [(tch1 w.g N w).g]
        rw [tch1_g.1]
      · rw [e3, hc]
        refine List.Perm.trans ?_ (Fa_tch_to nd hw).symm
        rw [fa_nil I (c := w.asks + 1 + 1) (fun d hd => by rw [← hc]; exact hno d hd)]
        exact .refl _
    · obtain ⟨vs, h1, h2, h3, h4⟩ := I.grp b hb
      refine ⟨vs, h1, by rw [(e1 b).2.2]; exact h2, h3, ?_⟩
      rw [e2 b e, Fa_tch_other nd hw (fun q => e (inc_inj I.inc hb ha (by rw [q, hc]))) (fun q => hno b hb (by rw [q, hc]))]
      exact h4
  · obtain ⟨u0, hu0, rfl⟩ := List.mem_map.mp hu
    by_cases e : u0.g = w.g
    · have := g_inj nd hu0 hw e
      subst this
      rw [tch1_eq rfl]
      exact ⟨a, ha, by rw [e3, hc], hl⟩
    · rw [tch1_ne e]
      obtain ⟨d, hd, h1, h2⟩ := I.lk u0 hu0
      have hda : d ≠ a := fun q => e (by rw [only u0 hu0 (by rw [← h1, q])])
      exact ⟨d, hd, by rw [e2 d hda]; exact h1, h2⟩
theorem LfuI.fork {l1 l2 : List Addr} (nd : (Gs ws).Nodup) (hw : w ∈ ws) (I : LfuI root (l1 ++ a :: l2) st lkvs ws) (hc : (st a).c = w.asks + 1) (hno : ∀ b ∈ l1 ++ a :: l2, (st b).c ≠ (st a).c + 1) (hx : x ∉ root :: (l1 ++ a :: l2)) (hne : without (st a).kv w.g ≠ [])
    (e1 : ∀ b, (st' b).nx = if b = x then (st a).nx else if b = a then x else (st b).nx) (e2 : ∀ b, (st' b).pv = if b = x then a else if b = (st a).nx then x else (st b).pv)
    (e3 : ∀ b, b ≠ x → (st' b).c = (st b).c) (e4 : ∀ b, b ≠ x → b ≠ a → (st' b).kv = (st b).kv) (e5 : (st' a).kv = without (st a).kv w.g) (e6 : (st' x).c = (st a).c + 1 ∧ (st' x).kv = [(w.g, .none)]) :
    LfuI root (l1 ++ a :: x :: l2) st' (stored lkvs w.g (.ref x)) (tch ws w.g N) := by
  have ha : a ∈ l1 ++ a :: l2 := List.mem_append_right _ (.head _)
  have hxr : x ≠ root := fun e => hx (by rw [e]; exact .head _)
  have hxm : ∀ b ∈ l1 ++ a :: l2, b ≠ x := fun b hb e => hx (by rw [← e]; exact .tail _ hb)
  have hwk : w.g ∈ lkvs.map (·.1) := I.keys.mem_iff.mpr (List.mem_map_of_mem hw)
  have nd1 := List.nodup_cons.mp I.nd
  have mem : ∀ b ∈ l1 ++ a :: x :: l2, b = x ∨ b ∈ l1 ++ a :: l2 := fun b hb => by
    rcases List.mem_append.mp hb with q | q
    · exact .inr (List.mem_append_left _ q)
    · rcases List.mem_cons.mp q with q | q
      · exact .inr (by rw [q]; exact ha)
      · rcases List.mem_cons.mp q with q | q
        · exact .inl q
        · exact .inr (List.mem_append_right _ (.tail _ q))
  have perm : (l1 ++ a :: x :: l2).Perm (x :: (l1 ++ a :: l2)) := by
    have : l1 ++ a :: x :: l2 = (l1 ++ [a]) ++ x :: l2 := by simp
    rw [this]
    refine List.perm_middle.trans ?_
    simp
  have hnx : (st a).nx = l2.headD root := (Ch.split I.ch).2.first
  have mono : ∀ b ∈ l1, (st b).c < (st a).c := fun b hb => (List.pairwise_append.mp I.inc).2.2 b hb a (.head _)
  have mono2 : ∀ b ∈ l2, (st a).c < (st b).c := fun b hb => (List.pairwise_cons.mp (List.pairwise_append.mp I.inc).2.1).1 b hb
  refine ⟨?_, ?_, (e3 root hxr.symm).trans I.r0, ?_, fun b hb => ?_, fun b hb => ?_, fun u hu => ?_, by rw [keys_stored hwk, Gs_tch]; exact I.keys⟩
  · refine (perm.cons root).nodup_iff.mpr ?_
    refine List.nodup_cons.mpr ⟨fun h => ?_, List.nodup_cons.mpr ⟨fun h => hx (.tail _ h), nd1.2⟩⟩
    rcases List.mem_cons.mp h with h | h
    · exact hxr h.symm
    · exact nd1.1 h
  · have e : l1 ++ a :: x :: l2 = (l1 ++ [a]) ++ x :: l2 := by simp
    have e' : l1 ++ a :: l2 = (l1 ++ [a]) ++ l2 := by simp
    have hlast : (l1 ++ [a]).getLastD root = a := by rw [List.getLastD_eq_getLast?, List.getLast?_append]; rfl
    rw [e]
    refine Ch.insert (nx := fun a => (st a).nx) (pv := fun a => (st a).pv) (l1 := l1 ++ [a]) (l2 := l2) (by rw [← e']; exact I.nd) (by rw [← e']; exact nd1.1) (by rw [← e']; exact I.ch) (by rw [← e']; exact hx) hxr ?_ ?_
    · intro b; rw [hlast, ← hnx]; exact e1 b
    · intro b; rw [hlast, ← hnx]; exact e2 b
  · have p1 := List.pairwise_append.mp I.inc
    have p2 := List.pairwise_cons.mp p1.2.1
    have c1 : ∀ b ∈ l1, (st' b).c = (st b).c := fun b hb => e3 b (hxm b (List.mem_append_left _ hb))
    have c2 : ∀ b ∈ l2, (st' b).c = (st b).c := fun b hb => e3 b (hxm b (List.mem_append_right _ (.tail _ hb)))
    have ca : (st' a).c = (st a).c := e3 a (hxm a ha)
    rw [List.pairwise_append]
    refine ⟨p1.1.imp_of_mem fun hb hd h => by rw [c1 _ hb, c1 _ hd]; exact h, ?_, fun b hb d hd => ?_⟩
    · refine List.pairwise_cons.mpr ⟨fun d hd => ?_, List.pairwise_cons.mpr ⟨fun d hd => ?_, p2.2.imp_of_mem fun hb hd h => by rw [c2 _ hb, c2 _ hd]; exact h⟩⟩
      · rw [ca]
        rcases List.mem_cons.mp hd with e | hd
        · rw [e, e6.1]; omega
        · rw [c2 d hd]; exact mono2 d hd
      · rw [e6.1, c2 d hd]
        have := mono2 d hd
        have := hno d (List.mem_append_right _ (.tail _ hd))
        omega
    · rw [c1 b hb]
      have hba := mono b hb
      rcases List.mem_cons.mp hd with e | hd
      · rw [e, ca]; exact hba
      · rcases List.mem_cons.mp hd with e | hd
        · rw [e, e6.1]; omega
        · rw [c2 d hd]; have := mono2 d hd; omega
  · rcases mem b hb with e | hb
    · rw [e, e6.1]; have := I.pos a ha; omega
    · rw [e3 b (hxm b hb)]; exact I.pos b hb
  · rcases mem b hb with e | hb
    · subst e
      refine ⟨[tch1 w.g N w], by simp, by rw [e6.2]; show [w.g] = [(tch1 w.g N w).g]; rw [tch1_g.1], List.pairwise_singleton _ _, ?_⟩
      rw [e6.1, hc]
      refine List.Perm.trans ?_ (Fa_tch_to nd hw).symm
      rw [fa_nil I (c := w.asks + 1 + 1) (fun d hd => by rw [← hc]; exact hno d hd)]
      exact .refl _
    · by_cases e : b = a
      · subst e
        obtain ⟨us, h1, h2, h3, h4⟩ := I.grp b ha
        refine ⟨rem us w.g, fun q => hne ?_, by rw [e5]; exact orem w.g h2, h3.sublist rem_sub, ?_⟩
        · have := orem w.g h2
          rw [q] at this
          exact List.map_eq_nil_iff.mp this
        · rw [e3 b (hxm b ha), hc, Fa_tch_from nd hw, ← hc]; exact rem_perm h4
      · obtain ⟨vs, h1, h2, h3, h4⟩ := I.grp b hb
        refine ⟨vs, h1, by rw [e4 b (hxm b hb) e]; exact h2, h3, ?_⟩
        rw [e3 b (hxm b hb), Fa_tch_other nd hw (fun q => e (inc_inj I.inc hb ha (by rw [q, hc]))) (fun q => hno b hb (by rw [q, hc]))]
        exact h4
  · obtain ⟨u0, hu0, rfl⟩ := List.mem_map.mp hu
    have hxin : x ∈ l1 ++ a :: x :: l2 := List.mem_append_right _ (.tail _ (.head _))
    by_cases e : u0.g = w.g
    · have := g_inj nd hu0 hw e
      subst this
      rw [tch1_eq rfl]
      exact ⟨x, hxin, by rw [e6.1, hc], by rw [va_stored]; exact if_pos rfl⟩
    · rw [tch1_ne e]
      obtain ⟨d, hd, h1, h2⟩ := I.lk u0 hu0
      refine ⟨d, ?_, by rw [e3 d (hxm d hd)]; exact h1, by rw [va_stored, if_neg e]; exact h2⟩
      exact perm.mem_iff.mpr (.tail _ hd)
end

theorem mt_993_setitem (wd : World) : Mt wd 993 "__setitem__" 961 := ⟨by kernel_rfl, by kernel_rfl, by kernel_rfl⟩
theorem mt_993_len (wd : World) : Mt wd 993 "__len__" 784 := ⟨by kernel_rfl, by kernel_rfl, by kernel_rfl⟩
theorem mt_993_get (wd : World) : Mt wd 993 "get" 792 := ⟨by kernel_rfl, by kernel_rfl, by kernel_rfl⟩
theorem mt_993_popitem (wd : World) : Mt wd 993 "popitem" 976 := ⟨by kernel_rfl, by kernel_rfl, by kernel_rfl⟩
theorem mt_993_getitem (wd : World) : Mt wd 993 "__getitem__" 953 := ⟨by kernel_rfl, by kernel_rfl, by kernel_rfl⟩
section
variable {st : Addr → Lk} {a b f p q x root : Addr} {k : Int} {L : Lk} {kv' : List (Int × Value)}
theorem b_nx : (upd st p { st p with nx := x } b).nx = (if b = p then x else (st b).nx) ∧ (upd st p { st p with nx := x } b).pv = (st b).pv ∧ (upd st p { st p with nx := x } b).c = (st b).c ∧ (upd st p { st p with nx := x } b).kv = (st b).kv := by
  by_cases h : b = p
  · subst h; rw [upd_self]; exact ⟨(if_pos rfl).symm, rfl, rfl, rfl⟩
  · rw [upd_ne h]; exact ⟨(if_neg h).symm, rfl, rfl, rfl⟩
theorem b_pv : (upd st p { st p with pv := x } b).nx = (st b).nx ∧ (upd st p { st p with pv := x } b).pv = (if b = p then x else (st b).pv) ∧ (upd st p { st p with pv := x } b).c = (st b).c ∧ (upd st p { st p with pv := x } b).kv = (st b).kv := by
  by_cases h : b = p
  · subst h; rw [upd_self]; exact ⟨rfl, (if_pos rfl).symm, rfl, rfl⟩
  · rw [upd_ne h]; exact ⟨rfl, (if_neg h).symm, rfl, rfl⟩
theorem b_kv : (upd st p { st p with kv := kv' } b).nx = (st b).nx ∧ (upd st p { st p with kv := kv' } b).pv = (st b).pv ∧ (upd st p { st p with kv := kv' } b).c = (st b).c ∧ (upd st p { st p with kv := kv' } b).kv = (if b = p then kv' else (st b).kv) := by
  by_cases h : b = p
  · subst h; rw [upd_self]; exact ⟨rfl, rfl, rfl, (if_pos rfl).symm⟩
  · rw [upd_ne h]; exact ⟨rfl, rfl, rfl, (if_neg h).symm⟩
theorem f_kv : ((upd st f { st f with kv := kv' } b).nx = (st b).nx ∧ (upd st f { st f with kv := kv' } b).pv = (st b).pv ∧ (upd st f { st f with kv := kv' } b).c = (st b).c) := ⟨b_kv.1, b_kv.2.1, b_kv.2.2.1⟩
theorem f_c {t : Tok} {c : Int} : ((upd st f { st f with c := c, tc := t } b).nx = (st b).nx ∧ (upd st f { st f with c := c, tc := t } b).pv = (st b).pv ∧ (upd st f { st f with c := c, tc := t } b).kv = (st b).kv) := by
  by_cases h : b = f
  · subst h; rw [upd_self]; exact ⟨rfl, rfl, rfl⟩
  · rw [upd_ne h]; exact ⟨rfl, rfl, rfl⟩
theorem f_moved : (moved st a b k q).nx = (st q).nx ∧ (moved st a b k q).pv = (st q).pv ∧ (moved st a b k q).c = (st q).c := by
  unfold moved
  exact ⟨b_kv.1.trans b_kv.1, b_kv.2.1.trans b_kv.2.1, b_kv.2.2.1.trans b_kv.2.2.1⟩
theorem f_unl : (unlinked st p q b).nx = (if b = p then q else (st b).nx) ∧ (unlinked st p q b).pv = (if b = q then p else (st b).pv) ∧ (unlinked st p q b).c = (st b).c ∧ (unlinked st p q b).kv = (st b).kv := by
  unfold unlinked
  refine ⟨b_pv.1.trans b_nx.1, b_pv.2.1.trans ?_, b_pv.2.2.1.trans b_nx.2.2.1, b_pv.2.2.2.trans b_nx.2.2.2⟩
  rw [b_nx.2.1]
theorem f_insd_x : insd st a q x k L x = L := by unfold insd; exact upd_self
theorem f_insd (h : b ≠ x) : (insd st a q x k L b).nx = (if b = a then x else (st b).nx) ∧ (insd st a q x k L b).pv = (if b = q then x else (st b).pv) ∧ (insd st a q x k L b).c = (st b).c := by
  unfold insd
  rw [upd_ne h]
  refine ⟨b_kv.1.trans (b_pv.1.trans b_nx.1), b_kv.2.1.trans (b_pv.2.1.trans ?_), b_kv.2.2.1.trans (b_pv.2.2.1.trans b_nx.2.2.1)⟩
  rw [b_nx.2.1]
theorem f_insd_kv (h : b ≠ x) (ha : b ≠ a) : (insd st a q x k L b).kv = (st b).kv := by
  unfold insd
  rw [upd_ne h, b_kv.2.2.2, if_neg ha, b_pv.2.2.2, b_nx.2.2.2]
theorem f_insd_a (h : a ≠ x) : (insd st a q x k L a).kv = without (st a).kv k := by
  unfold insd
  rw [upd_ne h, b_kv.2.2.2, if_pos rfl, b_pv.2.2.2, b_nx.2.2.2]
theorem f_insb (h : b ≠ x) : (upd (upd (upd st root { st root with nx := x }) f { (upd st root { st root with nx := x }) f with pv := x }) x L b).nx = (if b = root then x else (st b).nx) ∧ (upd (upd (upd st root { st root with nx := x }) f { (upd st root { st root with nx := x }) f with pv := x }) x L b).pv = (if b = f then x else (st b).pv) ∧
    (upd (upd (upd st root { st root with nx := x }) f { (upd st root { st root with nx := x }) f with pv := x }) x L b).c = (st b).c ∧ (upd (upd (upd st root { st root with nx := x }) f { (upd st root { st root with nx := x }) f with pv := x }) x L b).kv = (st b).kv := by
  rw [upd_ne h]
  refine ⟨b_pv.1.trans b_nx.1, b_pv.2.1.trans ?_, b_pv.2.2.1.trans b_nx.2.2.1, b_pv.2.2.2.trans b_nx.2.2.2⟩
  rw [b_nx.2.1]
end
section
variable {wd : World} {self dl : Addr} {m : Int}
def I3 (wd : World) (self : Addr) (m : Int) (ws : List Wt) (l : Led) : Prop := ∃ (dx dd ld root : Addr) (tn tm : Tok) (kvs lkvs : List (Int × Value)) (as as2 : List Addr) (st : Addr → Lk), KV ws kvs ∧ as2.Perm as ∧ LfuI root as st lkvs ws ∧ l = lfu wd self dx dd ld root ws.length m tn tm kvs lkvs as2 st
theorem lfu_set {ws : List Wt} {l : Led} {g came N : Int} {tg tc : Tok} (hI : I3 wd self m ws l) (ok : Ok ws) (hg : g ∉ Gs ws) (hN : ∀ w ∈ ws, w.last < N) (hm : (ws.length : Int) + 1 ≤ m) (h1 : 1 ≤ m) :
    Spec wd 9 (call (.ref 961) [.ref self, .int g tg, .int came tc]) l (fun r l' => I3 wd self m (ws ++ [⟨g, came, 0, N⟩]) l') := by
  obtain ⟨dx, dd, ld, root, tn, tm, kvs, lkvs, as, as2, st, h, hp, I, rfl⟩ := hI
  have := ok.len
  have hl := I.len
  have nd2 : (root :: as2).Nodup := (hp.cons root).nodup_iff.mpr I.nd
  have en : (st root).nx = as.headD root := I.ch.first
  have hfm : as.headD root ∈ root :: as2 := by
    have := headD_mem (l := as) (r := root)
    rcases List.mem_append.mp this with q | q
    · exact .tail _ (hp.mem_iff.mpr q)
    · rw [List.mem_singleton.mp q]; exact .head _
  by_cases ec : (st (as.headD root)).c = 1
  · have hfa : as.headD root ∈ as := by
      cases as with
      | nil => rw [show ([] : List Addr).headD root = root from rfl, I.r0] at ec; cases ec
      | cons b as => exact .head _
    have G := I.grp _ hfa
    refine ((con_lfu_setA hfm en ec nd2 (h.none hg) (lk_mem I hg) hm h1 (by rw [h.length]; omega) (by omega) (by have := G.len; omega)).le (by decide)).mono ?_
    rintro v l' ⟨_, t, rfl⟩
    exact ⟨dx, dd, ld, root, t, tm, _, _, as, as2, _, h.stored hg, hp, I.add_old ok.nd hg hfa ec hN (fun b => f_kv) (fun b hb => by rw [upd_ne hb]) (congrArg Lk.kv upd_self), by rw [List.length_append]; rfl⟩
  · refine ((con_lfu_setB hfm en ec nd2 (h.none hg) (lk_mem I hg) hm h1 (by rw [h.length]; omega) (by omega)).le (by decide)).mono ?_
    rintro v l' ⟨_, t, x, dxx, ks, t1, hx, rfl⟩
    have hx' : x ∉ root :: as := fun q => hx ((hp.cons root).mem_iff.mpr q)
    refine ⟨dx, dd, ld, root, t, tm, _, _, x :: as, x :: as2, _, h.stored hg, hp.cons x, I.add_new ok.nd hg hx' (fun a ha => ?_) (fun b => ?_) (fun b => ?_) (fun b hb => ⟨(f_insb hb).2.2.1, (f_insb hb).2.2.2⟩) ⟨congrArg Lk.c upd_self, congrArg Lk.kv upd_self⟩, by rw [List.length_append]; rfl⟩
    · cases as with
      | nil => cases ha
      | cons b as =>
        have p := List.pairwise_cons.mp I.inc
        have := I.pos b (.head _)
        have ec : (st b).c ≠ 1 := ec
        rcases List.mem_cons.mp ha with e | ha
        · rw [e]; exact ec
        · have := p.1 a ha; omega
    · by_cases hb : b = x
      · subst hb; rw [upd_self, if_pos rfl]
      · rw [(f_insb hb).1, if_neg hb]
    · by_cases hb : b = x
      · subst hb; rw [upd_self, if_pos rfl]
      · rw [(f_insb hb).2.1, if_neg hb]
theorem lfu_touch {ws : List Wt} {dx dd ld root : Addr} {tn tm tk : Tok} {kvs lkvs : List (Int × Value)} {as as2 : List Addr} {st : Addr → Lk} {w : Wt} {N : Int} (h : KV ws kvs) (hp : as2.Perm as) (I : LfuI root as st lkvs ws) (ok : Ok ws) (hw : w ∈ ws) (hN : ∀ u ∈ ws, u.last < N) :
    Spec wd 6 (call (.ref 990) [.ref self, .int w.g tk]) (lfu wd self dx dd ld root ws.length m tn tm kvs lkvs as2 st) (fun r l => r = .none ∧ I3 wd self m (tch ws w.g N) l) := by
  have := ok.len
  have hl := I.len
  have nd2 : (root :: as2).Nodup := (hp.cons root).nodup_iff.mpr I.nd
  have el : (tch ws w.g N).length = ws.length := by unfold tch; rw [List.length_map]
  obtain ⟨a, ha, hc, hla⟩ := I.lk w hw
  have hac : (st a).c = w.asks + 1 := hc
  have ha2 : a ∈ as2 := hp.mem_iff.mpr ha
  have G := I.grp a ha
  have hk : (valueAt (st a).kv w.g).isSome = true := va_mem.mpr (G.mem.mpr ⟨w, hw, hac.symm, rfl⟩)
  obtain ⟨l1, l2, rfl⟩ := List.append_of_mem ha
  have hs := Ch.split I.ch
  have hnx : (st a).nx = l2.headD root := hs.2.first
  have hpv : (st a).pv = l1.getLastD root := hs.1.last
  have nd1 := List.nodup_cons.mp I.nd
  have nd3 := List.nodup_cons.mp (List.nodup_append.mp nd1.2).2.1
  have hqm : l2.headD root ∈ root :: as2 := by
    have := headD_mem (l := l2) (r := root)
    rcases List.mem_append.mp this with q | q
    · exact .tail _ (hp.mem_iff.mpr (List.mem_append_right _ (.tail _ q)))
    · rw [List.mem_singleton.mp q]; exact .head _
  have hpm : l1.getLastD root ∈ root :: as2 := by
    have := getLastD_mem (l := l1) (p := root)
    rcases List.mem_cons.mp this with q | q
    · rw [q]; exact .head _
    · exact .tail _ (hp.mem_iff.mpr (List.mem_append_left _ q))
  have hposA := I.pos a ha
  have hra : root ≠ a := fun e => nd1.1 (e ▸ ha)
  by_cases ec : (st (l2.headD root)).c = (st a).c + 1
  · obtain ⟨b, r, rfl⟩ : ∃ b r, l2 = b :: r := by
      cases l2 with
      | nil => rw [show ([] : List Addr).headD root = root from rfl, I.r0] at ec; omega
      | cons b r => exact ⟨b, r, rfl⟩
    have hbm : b ∈ l1 ++ a :: b :: r := List.mem_append_right _ (.tail _ (.head _))
    have hb2 : b ∈ as2 := hp.mem_iff.mpr hbm
    have ec : (st b).c = (st a).c + 1 := ec
    have hab : a ≠ b := fun e => nd3.1 (e ▸ .head _)
    have Gb := I.grp b hbm
    have X : LfuX a root (l1 ++ a :: b :: r) (moved st a b w.g) (stored lkvs w.g (.ref b)) (tch ws w.g N) :=
      I.move ok.nd hw hN ha hac hbm ec (fun d => f_moved) (fun d h1 h2 => by rw [moved_ne h1 h2]) (by rw [moved_a hab]) (by rw [moved_b hab])
    by_cases hne : without (st a).kv w.g = []
    · refine (con_lfu_touch1b ha2 (.tail _ hb2) hpm hab hnx hpv hla nd2 ec hk hne (by omega) (by have := G.len; omega) (by have := Gb.len; omega)).mono ?_
      rintro v l' ⟨rfl, rfl⟩
      have ekv : (moved st a b w.g a).kv = [] := by rw [moved_a hab]; exact hne
      have enx : (moved st a b w.g a).nx = b := f_moved.1.trans hnx
      have epv : (moved st a b w.g a).pv = l1.getLastD root := f_moved.2.1.trans hpv
      refine ⟨rfl, dx, dd, ld, root, tn, tm, kvs, _, _, as2.erase a, _, h.tch _ _, hp.erase a, X.unlink (st' := unlinked (moved st a b w.g) (l1.getLastD root) b) ha ekv (fun d => ?_) (fun d => ?_) (fun d => ⟨f_unl.2.2.1, f_unl.2.2.2⟩), by rw [el]⟩
      · rw [enx, epv]; exact f_unl.1
      · rw [enx, epv]; exact f_unl.2.1
    · have hne' : (without (st a).kv w.g).isEmpty = false := by
        cases q : without (st a).kv w.g with
        | nil => exact absurd q hne
        | cons y ys => rfl
      refine (con_lfu_touch1a (.tail _ ha2) (.tail _ hb2) hab hnx hla nd2 ec hk hne' (by omega) (by have := G.len; omega) (by have := Gb.len; omega)).mono ?_
      rintro v l' ⟨rfl, rfl⟩
      exact ⟨rfl, dx, dd, ld, root, tn, tm, kvs, _, _, as2, _, h.tch _ _, hp, X.full (by rw [moved_a hab]; exact hne), by rw [el]⟩
  · have hno : ∀ b ∈ l1 ++ a :: l2, (st b).c ≠ (st a).c + 1 := fun b hb e => by
      have p1 := List.pairwise_append.mp I.inc
      have p2 := List.pairwise_cons.mp p1.2.1
      rcases List.mem_append.mp hb with q | q
      · have := p1.2.2 b q a (.head _); omega
      · rcases List.mem_cons.mp q with q | q
        · rw [q] at e; omega
        · cases l2 with
          | nil => cases q
          | cons d r =>
            have ec : (st d).c ≠ (st a).c + 1 := ec
            have := p2.1 d (.head _)
            rcases List.mem_cons.mp q with q | q
            · rw [q] at e; exact ec e
            · have := (List.pairwise_cons.mp p2.2).1 b q; omega
    by_cases hone : (st a).kv.length = 1
    · refine (con_lfu_touch2 (.tail _ ha2) hqm hnx hla nd2 ec hone).mono ?_
      rintro v l' ⟨rfl, t, rfl⟩
      exact ⟨rfl, dx, dd, ld, root, tn, tm, kvs, lkvs, _, as2, _, h.tch _ _, hp, I.bump ok.nd hw ha hac hla hno hone (fun d => f_c) (fun d hd => by rw [upd_ne hd]) (congrArg Lk.c upd_self), by rw [el]⟩
    · have hne : without (st a).kv w.g ≠ [] := fun q => by
        obtain ⟨us, h1, h2, h3, h4⟩ := G
        have e1 := orem w.g h2
        rw [q] at e1
        have e2 : rem us w.g = [] := List.map_eq_nil_iff.mp e1.symm
        have hwu : w ∈ us := h4.mem_iff.mpr (mem_Fa.mpr ⟨hw, hac.symm⟩)
        have ndu : (Gs us).Nodup := by
          have : (Gs (Fa ws (st a).c)).Nodup := (List.filter_sublist.map _).nodup ok.nd
          exact (gs_perm h4).nodup_iff.mpr this
        have e3 := rem_len ndu hwu
        rw [e2] at e3
        have e4 := congrArg List.length h2
        unfold Gs at e4
        rw [List.length_map, List.length_map] at e4
        apply hone
        rw [e4, ← e3]; rfl
      have hne' : (without (st a).kv w.g).isEmpty = false := by
        cases q : without (st a).kv w.g with
        | nil => exact absurd q hne
        | cons y ys => rfl
      have haq : a ≠ l2.headD root := by
        cases l2 with
        | nil => exact hra.symm
        | cons d r => exact fun e => nd3.1 (e ▸ .head _)
      refine (con_lfu_touch3 (.tail _ ha2) hqm haq hnx hla nd2 ec hk hone hne' (by omega) (by have := G.len; omega)).mono ?_
      rintro v l' ⟨rfl, x, dxx, ks, t1, hx, rfl⟩
      have hx' : x ∉ root :: (l1 ++ a :: l2) := fun q => hx ((hp.cons root).mem_iff.mpr q)
      have hax : a ≠ x := fun e => hx' (e ▸ .tail _ ha)
      refine ⟨rfl, dx, dd, ld, root, tn, tm, kvs, _, l1 ++ a :: x :: l2, x :: as2, _, h.tch _ _, ?_, I.fork ok.nd hw hac hno hx' hne (fun b => ?_) (fun b => ?_) (fun b hb => (f_insd hb).2.2) (fun b h1 h2 => f_insd_kv h1 h2) (f_insd_a hax) ⟨congrArg Lk.c f_insd_x, congrArg Lk.kv f_insd_x⟩, by rw [el]⟩
      · refine (hp.cons x).trans ?_
        have : l1 ++ a :: x :: l2 = (l1 ++ [a]) ++ x :: l2 := by simp
        rw [this]
        refine List.Perm.trans ?_ List.perm_middle.symm
        simp
      · by_cases hb : b = x
        · subst hb; rw [f_insd_x, if_pos rfl, hnx]
        · rw [(f_insd hb).1, if_neg hb]
      · by_cases hb : b = x
        · subst hb; rw [f_insd_x, if_pos rfl]
        · rw [(f_insd hb).2.1, if_neg hb, hnx]
end

section
variable {wd : World} {self dl : Addr} {m : Int}
theorem lfu_pop {ws : List Wt} {dx dd ld root : Addr} {tn tm : Tok} {kvs lkvs : List (Int × Value)} {as as2 : List Addr} {st : Addr → Lk} (h : KV ws kvs) (hp : as2.Perm as) (I : LfuI root as st lkvs ws) (ok : Ok ws) (hne : ws ≠ []) :
    Spec wd 9 (call (.ref 976) [.ref self]) (lfu wd self dx dd ld root ws.length m tn tm kvs lkvs as2 st) (fun r l => ∃ tp tk tc w l', r = .ref tp ∧ w ∈ ws ∧ DueAsks ws 0 w ∧ I3 wd self m (rem ws w.g) l' ∧ l = (tp, IsTu [.int w.g tk, .int w.came tc]) :: l') := by
  have := ok.len
  have hl := I.len
  have nd2 : (root :: as2).Nodup := (hp.cons root).nodup_iff.mpr I.nd
  obtain ⟨w1, hw1⟩ := List.exists_mem_of_ne_nil _ hne
  obtain ⟨a1, ha1, _⟩ := I.lk w1 hw1
  cases as with
  | nil => cases ha1
  | cons f as =>
    have hf : f ∈ f :: as := .head _
    have hf2 : f ∈ as2 := hp.mem_iff.mpr hf
    have en : (st root).nx = f := I.ch.1
    have epv : (st f).pv = root := I.ch.2.1
    have G := I.grp f hf
    have G' := G
    obtain ⟨us, h1, h2, h3, h4⟩ := G'
    cases us with
    | nil => exact absurd rfl h1
    | cons w0 us =>
      have hm0 := mem_Fa.mp (h4.mem_iff.mp (.head _))
      have hw0 := hm0.1
      have hc0 : (st f).c = w0.asks + 1 := hm0.2.symm
      obtain ⟨u, h0, hk⟩ := ofirst h2
      obtain ⟨tc, hv⟩ := h.at ok.nd hw0
      have hlk : valueAt lkvs w0.g = some (.ref f) := by
        obtain ⟨b, hb, e1, e2⟩ := I.lk w0 hw0
        rw [e2, inc_inj I.inc hb hf (by rw [e1, hc0])]
      have nd1 := List.nodup_cons.mp I.nd
      have hqm : (st f).nx ∈ root :: as2 := by
        rw [show (st f).nx = as.headD root from I.ch.2.2.first]
        have := headD_mem (l := as) (r := root)
        rcases List.mem_append.mp this with q | q
        · exact .tail _ (hp.mem_iff.mpr (.tail _ q))
        · rw [List.mem_singleton.mp q]; exact .head _
      have due : DueAsks ws 0 w0 := fun u hu => by
        obtain ⟨b, hb, e1, _⟩ := I.lk u hu
        rcases List.mem_cons.mp hb with e | hb
        · rw [e] at e1
          have hm := h4.mem_iff.mpr (mem_Fa.mpr ⟨hu, e1.symm⟩)
          refine .inr ⟨by omega, ?_⟩
          rcases List.mem_cons.mp hm with e | hm
          · rw [e]; exact Int.le_refl _
          · exact Int.le_of_lt ((List.pairwise_cons.mp h3).1 u hm)
        · have := (List.pairwise_cons.mp I.inc).1 b hb
          exact .inl (by omega)
      have hsp : ∀ tk, Spec wd 7 (call (.ref 969) [.ref self, .int w0.g tk]) (lfu wd self dx dd ld root ws.length m tn tm kvs lkvs as2 st) (fun r l => r = .none ∧ I3 wd self m (rem ws w0.g) l) := fun tk => by
        have X : LfuX f root (f :: as) (upd st f { st f with kv := without (st f).kv w0.g }) (without lkvs w0.g) (rem ws w0.g) :=
          I.drop ok.nd hw0 hf hc0 (fun b => f_kv) (fun b hb => by rw [upd_ne hb]) (congrArg Lk.kv upd_self)
        by_cases hz : without (st f).kv w0.g = []
        · refine (con_lfu_delB (p := root) (q := (st f).nx) hf2 (.head _) hqm epv rfl hlk nd2 hk hz (by rw [hv]; rfl) (by rw [h.length]; omega) (by omega) (by have := G.len; omega)).mono ?_
          rintro v l' ⟨rfl, t, rfl⟩
          rw [hz] at X
          have ekv : (upd st f { st f with kv := [] } f).kv = [] := congrArg Lk.kv upd_self
          have enx : (upd st f { st f with kv := [] } f).nx = (st f).nx := b_kv.1
          have epv' : (upd st f { st f with kv := [] } f).pv = root := b_kv.2.1.trans epv
          exact ⟨rfl, dx, dd, ld, root, t, tm, _, _, _, as2.erase f, _, h.rem w0.g, hp.erase f, X.unlink (st' := unlinked (upd st f { st f with kv := [] }) root (st f).nx) hf ekv (fun d => by rw [enx, epv']; exact f_unl.1) (fun d => by rw [enx, epv']; exact f_unl.2.1) (fun d => ⟨f_unl.2.2.1, f_unl.2.2.2⟩), by rw [cur_rem ok.nd hw0]⟩
        · have hne' : (without (st f).kv w0.g).isEmpty = false := by
            cases q : without (st f).kv w0.g with
            | nil => exact absurd q hz
            | cons y ys => rfl
          refine (con_lfu_delA (.tail _ hf2) hlk nd2 hk hne' (by rw [hv]; rfl) (by rw [h.length]; omega) (by omega) (by have := G.len; omega)).mono ?_
          rintro v l' ⟨rfl, t, rfl⟩
          exact ⟨rfl, dx, dd, ld, root, t, tm, _, _, _, as2, _, h.rem w0.g, hp, X.full (by rw [show (upd st f { st f with kv := without (st f).kv w0.g } f).kv = without (st f).kv w0.g from congrArg Lk.kv upd_self]; exact hz), by rw [cur_rem ok.nd hw0]⟩
      refine (con_lfu_pop hf2 en nd2 h0 hv hsp).mono ?_
      rintro v l' ⟨tp, tk, l0, rfl, hI, rfl⟩
      exact ⟨tp, tk, tc, w0, l0, rfl, hw0, due, hI, rfl⟩
def line3 (wd : World) (self : Addr) (m : Int) (dl : Addr) : LineI wd self m dl DueAsks where
  I := I3 wd self m
  C := 993
  T := T3
  fset := 961
  fpop := 976
  cc := cc_993 wd
  mset := mt_993_setitem wd
  mlen := mt_993_len wd
  mget := mt_993_get wd
  mpop := mt_993_popitem wd
  nget := by decide
  npop := by decide
  inst := by
    rintro ws l ⟨dx, dd, ld, root, tn, tm, kvs, lkvs, as, as2, st, h, hp, I, rfl⟩
    exact ⟨dx, _, .head, .tail .head⟩
  set := fun ws l g tg came tc N hI ok hg hN hm h1 => lfu_set hI ok hg hN hm h1
  len := by
    rintro ws l ⟨dx, dd, ld, root, tn, tm, kvs, lkvs, as, as2, st, h, hp, I, rfl⟩ ok
    have := ok.len
    refine ((con_len_ex (ex := (ld, IsD wd lkvs) :: ringOf (lks wd) (root :: as2) st) (cc_993 wd) (us := [some (.ref dd), some (.int ws.length tn), some (.int m tm), some (.ref root), some (.ref ld)]) .here (by rw [h.length]; omega)).le (by decide)).mono ?_
    rintro v l' ⟨⟨t, rfl⟩, rfl⟩
    exact ⟨⟨t, by rw [h.length]⟩, dx, dd, ld, root, tn, tm, kvs, lkvs, as, as2, st, h, hp, I, rfl⟩
  miss := by
    rintro ws l g tg d ⟨dx, dd, ld, root, tn, tm, kvs, lkvs, as, as2, st, h, hp, I, rfl⟩ ok hg
    refine ((con_get_miss_ex (ex := (ld, IsD wd lkvs) :: ringOf (lks wd) (root :: as2) st) (cc_993 wd) (mt_993_contains wd) (us := [some (.ref dd), some (.int ws.length tn), some (.int m tm), some (.ref root), some (.ref ld)]) .here (h.none hg)).le (by decide)).mono ?_
    rintro v l' ⟨rfl, rfl⟩
    exact ⟨rfl, dx, dd, ld, root, tn, tm, kvs, lkvs, as, as2, st, h, hp, I, rfl⟩
  hit := by
    rintro ws l w N tg d ⟨dx, dd, ld, root, tn, tm, kvs, lkvs, as, as2, st, h, hp, I, rfl⟩ ok hw hN
    have := ok.len
    obtain ⟨t, hv⟩ := h.at ok.nd hw
    have hlv : (valueAt lkvs w.g).isSome = true := va_mem.mpr (I.keys.mem_iff.mpr (List.mem_map_of_mem hw))
    have sp : Spec wd 8 (call (.ref 953) [.ref self, .int w.g tg]) (lfu wd self dx dd ld root ws.length m tn tm kvs lkvs as2 st) (fun r l => r = .int w.came t ∧ I3 wd self m (tch ws w.g N) l) := con_lfu_getitem hv hlv (lfu_touch (tk := tg) h hp I ok hw hN)
    refine ((con_get_hit (cc_993 wd) (mt_993_contains wd) (mt_993_getitem wd) (ex := (ld, IsD wd lkvs) :: ringOf (lks wd) (root :: as2) st) (us := [some (.ref dd), some (.int ws.length tn), some (.int m tm), some (.ref root), some (.ref ld)]) .here hv (sp.le (by decide))).le (by decide)).mono ?_
    rintro v l' ⟨rfl, hI⟩
    exact ⟨⟨t, rfl⟩, hI⟩
  pop := by
    rintro ws l d0 td ⟨dx, dd, ld, root, tn, tm, kvs, lkvs, as, as2, st, h, hp, I, rfl⟩ ok hne A c env T vs rest s Q E w bo rm sk hq
    refine w.useP bo (rm.le (by decide)) sk (.refl _) (lfu_pop h hp I ok hne) ?_
    rintro _ _ s' ⟨tp, tk, tc, w0, l', rfl, hm, due, hI, rfl⟩ w'
    exact hq tp tk tc w0 l' s' hm due hI w'
end

local macro_rules | `(tactic| wtm_at "myf7") => `(tactic| first
  | wtm_at "sxf6"
  | ((with_reducible show wpAny _ _ (call (Value.builtin "len") _) _ _ _); (first | refine r_llen ‹W _ _ _ _ _ _› (by wtm_at "hxf6") (by omega) ?_ | refine r_dlen ‹W _ _ _ _ _ _› ‹BaseOk _ _› (by wtm_at "hxf6") (by omega) ?_); intro _ _ _))
theorem mk_844 (wd : World) : makesIn (KF wd.params) 844 = true := by kernel_rfl
theorem init_844 (wd : World) : findIn (KF wd.params) (.ref 844) "__init__" = some (some (.ref 728)) := by kernel_rfl
theorem ty_728 (wd : World) : typeIn (KF wd.params) (.ref 728) = some (.type "function") := by kernel_rfl
theorem gz_844 (wd : World) : findIn (KF wd.params) (.ref 844) "getsizeof" = some (some (.ref 840)) := by kernel_rfl
theorem mk_896 (wd : World) : makesIn (KF wd.params) 896 = true := by kernel_rfl
theorem init_896 (wd : World) : findIn (KF wd.params) (.ref 896) "__init__" = some (some (.ref 863)) := by kernel_rfl
theorem ty_863 (wd : World) : typeIn (KF wd.params) (.ref 863) = some (.type "function") := by kernel_rfl
theorem mk_1058 (wd : World) : makesIn (KF wd.params) 1058 = true := by kernel_rfl
theorem init_1058 (wd : World) : findIn (KF wd.params) (.ref 1058) "__init__" = some (some (.ref 1010)) := by kernel_rfl
theorem ty_1010 (wd : World) : typeIn (KF wd.params) (.ref 1010) = some (.type "function") := by kernel_rfl
theorem mk_993 (wd : World) : makesIn (KF wd.params) 993 = true := by kernel_rfl
theorem init_993 (wd : World) : findIn (KF wd.params) (.ref 993) "__init__" = some (some (.ref 945)) := by kernel_rfl
theorem ty_945 (wd : World) : typeIn (KF wd.params) (.ref 945) = some (.type "function") := by kernel_rfl
theorem mk_1116 (wd : World) : makesIn (KF wd.params) 1116 = true := by kernel_rfl
theorem init_1116 (wd : World) : findIn (KF wd.params) (.ref 1116) "__init__" = some (some (.ref 1075)) := by kernel_rfl
theorem ty_1075 (wd : World) : typeIn (KF wd.params) (.ref 1075) = some (.type "function") := by kernel_rfl
theorem fn_1420 (wd : World) : FnC wd 1420 (fdOf (o_1420 wd.params)) (fnBody (fAt [45])) ["kind", "places", "choice"] := ⟨⟨o_1420 wd.params, by kernel_rfl, rfl⟩, rfl, by kernel_rfl⟩
theorem bd_1420 (wd : World) (v0 v1 v2 : Value) (s : Shared) : BindsTo s (fdOf (o_1420 wd.params)) ⟨[v0, v1, v2], []⟩ [("kind", v0), ("places", v1), ("draw", v2)] := BindsTo.of_eq (by kernel_rfl)
theorem cl_1420 (wd : World) (n : Nat) : cellsFrom n (fdOf (o_1420 wd.params)).scope.names [] = ([("draw", n)] : List (Str × Addr)) := by kernel_rfl
theorem loc_1420 (wd : World) (v0 v1 v2 : Value) (L : Addr) : bindL (callEnvC (fdOf (o_1420 wd.params)) L 1420).kindOf [("kind", v0), ("places", v1), ("draw", v2)] (fun _ => none) = loc ["kind", "places", "choice"] [some v0, some v1, none] := by
  have e : bindL (callEnvC (fdOf (o_1420 wd.params)) L 1420).kindOf [("kind", v0), ("places", v1), ("draw", v2)] (fun _ => none) = fun y => if y = ("places" : Str) then some v1 else (if y = ("kind" : Str) then some v0 else none) := by kernel_rfl
  rw [e]
  funext y
  unfold loc loc loc loc
  by_cases h1 : y = ("kind" : Str)
  · subst h1; rw [if_neg (by decide), if_pos rfl, if_pos rfl]
  · rw [if_neg h1, if_neg h1]
    by_cases h2 : y = ("places" : Str)
    · rw [if_pos h2, if_pos h2]
    · rw [if_neg h2, if_neg h2]
      split <;> rfl
theorem cells_1420 (wd : World) (v0 v1 v2 : Value) (L : Addr) : ([("draw", L + 1)] : List (Str × Addr)).map (fun p => (p.2, IsCl (bindC (callEnvC (fdOf (o_1420 wd.params)) L 1420).kindOf [("kind", v0), ("places", v1), ("draw", v2)] (fun _ => none) p.1))) = [(L + 1, IsCl (some v2))] := by
  have e : bindC (callEnvC (fdOf (o_1420 wd.params)) L 1420).kindOf [("kind", v0), ("places", v1), ("draw", v2)] (fun _ => none) "draw" = some v2 := by kernel_rfl
  rw [List.map_cons, List.map_nil, e]
theorem SpecC.le {wd n m f args fp post} (h : SpecC wd n f args fp post) (k : n ≤ m) : SpecC wd m f args fp post := fun c A s bo rm bel o R hq => h c A s bo (rm.le k) bel o R hq
def LineNew (wd : World) (kind : Int) (self : Addr) (m : Int) (dl : Addr) (l : Led) : Prop :=
  (kind = 0 ∧ I0 wd self m [] l) ∨ (kind = 1 ∧ I1 wd self m [] l) ∨ (kind = 2 ∧ I2 wd self m [] l) ∨ (kind = 3 ∧ I3 wd self m [] l) ∨ (kind = 4 ∧ I4 wd self m dl [] l)
theorem q_1420 (wd : World) (L : Addr) : qualnameIn (callEnvC (fdOf (o_1420 wd.params)) L 1420) "choice" "choice" = "_law_line.<locals>.choice" := by kernel_rfl
section
variable {wd : World} {kind m : Int} {tk tm : Tok} {dl : Addr}
set_option maxHeartbeats 4000000 in
theorem con_law_line (h0 : 0 ≤ kind) (h5 : kind < 5) (hm : 0 ≤ m) : Spec wd 12 (call (.ref 1420) [.int kind tk, .int m tm, .ref dl]) [(1415, IsTab #[])]
    (fun r l => ∃ self l0 ps, r = .ref self ∧ LineNew wd kind self m dl l0 ∧ l = l0 ++ [(1415, IsTab ps)]) := by
  refine spec_defCells (fn_1420 wd) (fun s _ => bd_1420 wd _ _ _ s) (cl_1420 wd) (fun n x hx => ?_) (fun n p hp => ?_) (loc_1420 wd _ _ _) (cells_1420 wd _ _ _) ?_
  · simp only [List.mem_cons, List.not_mem_nil, or_false] at hx
    rcases hx with rfl | rfl | rfl
    · exact .inl (by kernel_rfl)
    · exact .inl (by kernel_rfl)
    · exact .inr ⟨by kernel_rfl, rfl⟩
  · rw [List.mem_singleton.mp hp]; rfl
  intro c A L s Q E bo rm sk hq w
  refine wpAny_execs_cons ?_
  refine r_nest (P := 1415) (c0 := 1419) (l' := fun c' => [(L + 1, IsCl (some (.ref dl))), (1415, IsTab _)]) (clos := [("draw", L + 1)]) w bo (by kernel_rfl) (fun c' => .tail .head) (by kernel_rfl) ?_
  intro f c' doc pm ctv s1 w1
  rw [q_1420] at w1
  repeat wtm_at "myf7"
  have hk : kind = 0 ∨ kind = 1 ∨ kind = 2 ∨ kind = 3 ∨ kind = 4 := by omega
  rcases hk with rfl | rfl | rfl | rfl | rfl
  · repeat wtm_at "myf7"
    refine r_make (T' := T0) (n := 9) (post := fun x dxx r l => r = .none ∧ ∃ dd t, l = [(dd, IsD wd []), (x, IsInst 844 dxx), (dxx, IsNs T0 [some (.ref dd), some (.int 0 t), some (.int m tm)])]) ‹W _ _ _ _ _ _› bo (rm.le (by decide)) sk (mk_844 wd) (init_844 wd) (ty_728 wd) (fun x dxx => SpecC.le (con_initC (cc_844 wd) (gz_844 wd) (by decide) (fun d => by wtm_at "lsxf6") (fun d t => by wtm_at "lsxf6") (fun d t => by wtm_at "lsxf6") (fun d => by simp) (fun d t => by simp) (fun d t => by simp) hm (bd_728_2 wd _ _)) (by decide)) ?_
    rintro x dxx _ _ s6 ⟨rfl, dd, t, rfl⟩ w6
    refine ⟨rfl, ?_⟩
    have w7 := w6.picks (fp := [(x, _), (dxx, _), (dd, _), (1415, _)]) (by wtm_at "pkxf6")
    exact hq _ _ _ ⟨x, _, _, rfl, .inl ⟨rfl, dxx, dd, t, tm, [], .nil, rfl⟩, rfl⟩ (w7.sub (l' := [_, _, _, _]) (List.sublist_append_left [_, _, _, _] _)).own
  · repeat wtm_at "myf7"
    refine r_make (T' := T1) (n := 9) (post := fun x dxx r l => r = .none ∧ ∃ dd od t, l = (od, IsD wd []) :: (dd, IsD wd []) :: [(x, IsInst 896 dxx), (dxx, IsNs T1 [some (.ref dd), some (.int 0 t), some (.int m tm), some (.ref od)])]) ‹W _ _ _ _ _ _› bo (rm.le (by decide)) sk (mk_896 wd) (init_896 wd) (ty_863 wd) (fun x dxx => SpecC.le (con_fifo_init hm) (by decide)) ?_
    rintro x dxx _ _ s6 ⟨rfl, dd, od, t, rfl⟩ w6
    refine ⟨rfl, ?_⟩
    have w7 := w6.picks (fp := [(x, _), (dxx, _), (dd, _), (od, _), (1415, _)]) (by wtm_at "pkxf6")
    exact hq _ _ _ ⟨x, _, _, rfl, .inr (.inl ⟨rfl, dxx, dd, od, t, tm, [], [], .nil, rfl, rfl⟩), rfl⟩ (w7.sub (l' := [_, _, _, _, _]) (List.sublist_append_left [_, _, _, _, _] _)).own
  · repeat wtm_at "myf7"
    refine r_make (T' := T2) (n := 9) (post := fun x dxx r l => r = .none ∧ ∃ dd od t, l = (od, IsD wd []) :: (dd, IsD wd []) :: [(x, IsInst 1058 dxx), (dxx, IsNs T2 [some (.ref dd), some (.int 0 t), some (.int m tm), some (.ref od)])]) ‹W _ _ _ _ _ _› bo (rm.le (by decide)) sk (mk_1058 wd) (init_1058 wd) (ty_1010 wd) (fun x dxx => SpecC.le (con_lru_init hm) (by decide)) ?_
    rintro x dxx _ _ s6 ⟨rfl, dd, od, t, rfl⟩ w6
    refine ⟨rfl, ?_⟩
    have w7 := w6.picks (fp := [(x, _), (dxx, _), (dd, _), (od, _), (1415, _)]) (by wtm_at "pkxf6")
    exact hq _ _ _ ⟨x, _, _, rfl, .inr (.inr (.inl ⟨rfl, dxx, dd, od, t, tm, [], [], [], .nil, .refl _, .nil, rfl, rfl⟩)), rfl⟩ (w7.sub (l' := [_, _, _, _, _]) (List.sublist_append_left [_, _, _, _, _] _)).own
  · repeat wtm_at "myf7"
    refine r_make (T' := T3) (n := 9) (post := fun x dxx r l => r = .none ∧ ∃ dd ld root t, ∃ st : Addr → Lk, (st root).nx = root ∧ (st root).pv = root ∧ (st root).c = 0 ∧ (st root).kv = [] ∧ l = lfu wd x dxx dd ld root 0 m t tm [] [] [] st) ‹W _ _ _ _ _ _› bo (rm.le (by decide)) sk (mk_993 wd) (init_993 wd) (ty_945 wd) (fun x dxx => SpecC.le (con_lfu_init hm) (by decide)) ?_
    rintro x dxx _ _ s6 ⟨rfl, dd, ld, root, t, st, e1, e2, e3, e4, rfl⟩ w6
    refine ⟨rfl, ?_⟩
    have w7 : W _ _ _ _ (lfu wd x dxx dd ld root 0 m t tm [] [] [] st ++ [(1415, IsTab _)]) _ := w6.sub (List.Sublist.append_left (.cons _ (.cons _ (.cons _ (.refl _)))) _)
    exact hq _ _ _ ⟨x, _, _, rfl, .inr (.inr (.inr (.inl ⟨rfl, dxx, dd, ld, root, t, tm, [], [], [], [], st, .nil, .refl _, ⟨List.nodup_cons.mpr ⟨List.not_mem_nil, List.nodup_nil⟩, ⟨e1, e2⟩, e3, .nil, fun a ha => absurd ha List.not_mem_nil, fun a ha => absurd ha List.not_mem_nil, fun a ha => absurd ha List.not_mem_nil, .refl _⟩, rfl⟩))), rfl⟩ w7.own
  · repeat wtm_at "myf7"
    refine r_make (T' := T4) (n := 9) (post := fun x dxx r l => r = .none ∧ ∃ dd xd kl t, l = (kl, IsLs []) :: (xd, IsD wd []) :: (dd, IsD wd []) :: [(x, IsInst 1116 dxx), (dxx, IsNs T4 [some (.ref dd), some (.int 0 t), some (.int m tm), some (.ref f), some (.ref xd), some (.ref kl)])]) ‹W _ _ _ _ _ _› bo (rm.le (by decide)) sk (mk_1116 wd) (init_1116 wd) (ty_1075 wd) (fun x dxx => SpecC.le (con_rr_init hm) (by decide)) ?_
    rintro x dxx _ _ s6 ⟨rfl, dd, xd, kl, t, rfl⟩ w6
    refine ⟨rfl, ?_⟩
    have w7 := w6.picks (fp := [(x, _), (dxx, _), (dd, _), (xd, _), (kl, _), (f, _), (c', _), (L + 1, _), (1415, _)]) (by wtm_at "pkxf6")
    have w8 := w7.sub (l' := [_, _, _, _, _, _, _, _, _]) (List.sublist_append_left [_, _, _, _, _, _, _, _, _] _)
    exact hq _ _ _ ⟨x, _, _, rfl, .inr (.inr (.inr (.inr ⟨rfl, dxx, dd, xd, kl, f, c', L + 1, t, tm, doc, pm, ctv, [], [], [], [], .nil, .nil, ⟨.refl _, .refl _, fun j g h => by cases h⟩, rfl⟩))), rfl⟩ w8.own
end

theorem tuple_lt_tree {wd : World} {A : Around} {s : Shared} {E : Value → Shared → Prop} {a b : Addr} {oa ob : Obj} {na nb : Nat} {x1 y1 x2 y2 : Value} {P : Fin → Shared → Prop} (hTb : s.TypeIs (.ref b) "tuple") (hoa : s.heap.get? a = some oa) (hda : oa.data = .seq #[x1, y1] na) (hob : s.heap.get? b = some ob) (hdb : ob.data = .seq #[x2, y2] nb)
    (h : wpAny (model pw wd) A (eqBool x1 x2) (fun e s1 => if e = true then wpAny (model pw wd) A (eqBool y1 y2) (fun e2 s2 => if e2 = true then P (.done (.ret (.bool false))) s2 else wpAny (model pw wd) A (richCompare .Lt y1 y2) (fun r s3 => P (.done (.ret r)) s3) E s2) E s1
      else wpAny (model pw wd) A (richCompare .Lt x1 x2) (fun r s3 => P (.done (.ret r)) s3) E s1) E s) :
    wpAny (model pw wd) A (Builtin.«tuple.__lt__» ⟨[.ref a, .ref b], []⟩) P E s := by
  show wpAny _ _ (isInstance (.ref b) (.type "tuple") >>= _) _ _ s
  refine wpAny_bind (wpAny_isInstance hTb isSubtype_tuple_tuple ?_)
  simp only [Bool.not_true, Bool.false_eq_true, if_false]
  refine wpAny_bind (wpAny_tupleItemsOf hoa hda ?_)
  refine wpAny_bind (wpAny_tupleItemsOf hob hdb ?_)
  refine wpAny_bind ?_
  show wpAny _ _ (forIn [(x1, x2), (y1, y2)] _ _) _ _ s
  rw [List.forIn_cons]
  refine wpAny_bind (wpAny_bind (wpAny_mono h (fun e s1 h1 => ?_) fun _ _ z => z))
  cases e with
  | true =>
    simp only [Bool.not_true, Bool.false_eq_true, if_false]
    rw [if_pos rfl] at h1
    refine wpAny_pure ?_
    dsimp only
    rw [List.forIn_cons]
    refine wpAny_bind (wpAny_bind (wpAny_mono h1 (fun e2 s2 h2 => ?_) fun _ _ z => z))
    cases e2 with
    | true =>
      simp only [Bool.not_true, Bool.false_eq_true, if_false]
      rw [if_pos rfl] at h2
      refine wpAny_pure ?_
      dsimp only
      rw [List.forIn_nil]
      refine wpAny_pure ?_
      exact wpAny_pure h2
    | false =>
      simp only [Bool.not_false, if_true]
      rw [if_neg (by decide)] at h2
      refine wpAny_bind (wpAny_rule ?_)
      refine wpAny_bind (wpAny_mono h2 (fun r s3 h3 => ?_) fun _ _ z => z)
      exact wpAny_bind (wpAny_pure (wpAny_pure (wpAny_pure (wpAny_pure h3))))
  | false =>
    simp only [Bool.not_false, if_true]
    rw [if_neg (by decide)] at h1
    refine wpAny_bind (wpAny_rule ?_)
    refine wpAny_bind (wpAny_mono h1 (fun r s3 h3 => ?_) fun _ _ z => z)
    exact wpAny_bind (wpAny_pure (wpAny_pure (wpAny_pure (wpAny_pure h3))))

section
variable {wd : World} {A : Around} {E : Value → Shared → Prop} {s : Shared}
theorem rc_lt_int {a b : Int} {t u : Tok} {Q : Value → Shared → Prop} (h : Q (.bool (decide (a < b))) s) : wpAny (model pw wd) A (richCompare .Lt (.int a t) (.int b u)) Q E s := by
  have := PyProof.Rows.lt_int (prog := pw) (w := wd) (A := A) (E := E) (s := s) (a := a) (b := b) (t := t) (u := u) (Q := Q) h
  exact this
def TupAt (h : Heap) (a : Addr) (x y : Value) : Prop := ∃ o n, h.get? a = some o ∧ o.cls = .type "tuple" ∧ o.data = .seq #[x, y] n
theorem TupAt.ty {a : Addr} {x y : Value} (h : TupAt s.heap a x y) : s.TypeIs (.ref a) "tuple" := let ⟨o, _, ho, hc, _⟩ := h; ⟨o, ho, hc⟩
theorem rc_lt_tup {a b : Addr} {x1 y1 x2 y2 : Value} {Q : Value → Shared → Prop} (hu : A.units < cLine) (ha : TupAt s.heap a x1 y1) (hb : TupAt s.heap b x2 y2)
    (h : wpAny (model pw wd) A.in1 (eqBool x1 x2) (fun e s1 => if e = true then wpAny (model pw wd) A.in1 (eqBool y1 y2) (fun e2 s2 => if e2 = true then Q (.bool false) s2 else wpAny (model pw wd) A.in1 (richCompare .Lt y1 y2) (fun r s3 => r ≠ .notImplemented ∧ Q r s3) E s2) E s1
      else wpAny (model pw wd) A.in1 (richCompare .Lt x1 x2) (fun r s3 => r ≠ .notImplemented ∧ Q r s3) E s1) E s) :
    wpAny (model pw wd) A (richCompare .Lt (.ref a) (.ref b)) Q E s := by
  have hTa := ha.ty
  have hTb := hb.ty
  obtain ⟨oa, na, hoa, hca, hda⟩ := ha
  obtain ⟨ob, nb, hob, hcb, hdb⟩ := hb
  refine wpAny_richCompare_same_room (op := .Lt) hTa hTb F.slot_tuple_lt (wpAny_call_entry F.slot_tuple_lt hTa F.entry_tuple_lt (tuple_lt_tree hTb hoa hda hob hdb (wpAny_mono h (fun e s1 h1 => ?_) fun _ _ z => z)) (F.args_tuple_lt_2 _ _)) hu
  cases e with
  | true =>
    rw [if_pos rfl] at h1 ⊢
    refine wpAny_mono h1 (fun e2 s2 h2 => ?_) fun _ _ z => z
    cases e2 with
    | true =>
      rw [if_pos rfl] at h2 ⊢
      exact ⟨_, rfl, nofun, h2⟩
    | false =>
      rw [if_neg (by decide)] at h2 ⊢
      exact wpAny_mono h2 (fun r s3 h3 => ⟨r, rfl, h3⟩) fun _ _ z => z
  | false =>
    rw [if_neg (by decide)] at h1 ⊢
    exact wpAny_mono h1 (fun r s3 h3 => ⟨r, rfl, h3⟩) fun _ _ z => z
theorem rc_lt_ii {a b : Addr} {p q p' q' : Int} {t u t' u' : Tok} {Q : Value → Shared → Prop} (hu : A.units < cLine) (ha : TupAt s.heap a (.int p t) (.int q u)) (hb : TupAt s.heap b (.int p' t') (.int q' u'))
    (h : Q (.bool (decide (p < p' ∨ (p = p' ∧ q < q')))) s) : wpAny (model pw wd) A (richCompare .Lt (.ref a) (.ref b)) Q E s := by
  refine rc_lt_tup hu ha hb (wpAny_eqBool_int ?_)
  by_cases e : p = p'
  · subst e
    rw [if_pos (by simp)]
    refine wpAny_eqBool_int ?_
    by_cases e : q = q'
    · subst e
      rw [if_pos (by simp)]
      have : decide (p < p ∨ (p = p ∧ q < q)) = false := decide_eq_false (by omega)
      rw [this] at h; exact h
    · rw [if_neg (by simpa using e)]
      refine rc_lt_int ⟨nofun, ?_⟩
      have : decide (p < p ∨ (p = p ∧ q < q')) = decide (q < q') := by congr 1; exact propext ⟨fun h => by omega, fun h => .inr ⟨rfl, h⟩⟩
      rw [this] at h; exact h
  · rw [if_neg (by simpa using e)]
    refine rc_lt_int ⟨nofun, ?_⟩
    have : decide (p < p' ∨ (p = p' ∧ q < q')) = decide (p < p') := by congr 1; exact propext ⟨fun h => by omega, fun h => .inl h⟩
    rw [this] at h; exact h
theorem TupAt.key {h : Heap} {a : Addr} {p q : Int} {t u : Tok} (ha : TupAt h a (.int p t) (.int q u)) : IsTupleKey (intKind pw wd) h [p, q] a := by
  obtain ⟨o, n, ho, hc, hd⟩ := ha
  exact ⟨o, _, n, ho, hc, hd, .cons (intKey p t) (.cons (intKey q u) .nil)⟩
theorem rc_lt_tii {a b c d : Addr} {p q r p' q' r' : Int} {t u v t' u' v' : Tok} {Q : Value → Shared → Prop} (hu : A.units + 2 < cLine) (ha : TupAt s.heap a (.ref c) (.int r v)) (hb : TupAt s.heap b (.ref d) (.int r' v')) (hc : TupAt s.heap c (.int p t) (.int q u)) (hd : TupAt s.heap d (.int p' t') (.int q' u'))
    (h : Q (.bool (decide (p < p' ∨ (p = p' ∧ (q < q' ∨ (q = q' ∧ r < r')))))) s) : wpAny (model pw wd) A (richCompare .Lt (.ref a) (.ref b)) Q E s := by
  have hu1 : A.in1.units < cLine := by show A.units + 1 < _; omega
  refine rc_lt_tup (by omega) ha hb (wpAny_eqBool_tuple hu1 (TupAt.key (wd := wd) hc) (TupAt.key (wd := wd) hd) ?_)
  by_cases e : ([p, q] : List Int) = [p', q']
  · rw [if_pos (decide_eq_true e)]
    simp only [List.cons.injEq, and_true] at e
    obtain ⟨rfl, rfl⟩ := e
    refine wpAny_eqBool_int ?_
    by_cases e : r = r'
    · subst e
      rw [if_pos (by simp)]
      have : decide (p < p ∨ (p = p ∧ (q < q ∨ (q = q ∧ r < r)))) = false := decide_eq_false (by omega)
      rw [this] at h; exact h
    · rw [if_neg (by simpa using e)]
      refine rc_lt_int ⟨nofun, ?_⟩
      have : decide (p < p ∨ (p = p ∧ (q < q ∨ (q = q ∧ r < r')))) = decide (r < r') := by congr 1; exact propext ⟨fun h => by omega, fun h => .inr ⟨rfl, .inr ⟨rfl, h⟩⟩⟩
      rw [this] at h; exact h
  · rw [if_neg (by simpa using e)]
    refine rc_lt_ii hu1 hc hd ⟨nofun, ?_⟩
    simp only [List.cons.injEq, and_true] at e
    have : decide (p < p' ∨ (p = p' ∧ (q < q' ∨ (q = q' ∧ r < r')))) = decide (p < p' ∨ (p = p' ∧ q < q')) := by
      congr 1
      refine propext ⟨fun h => ?_, fun h => ?_⟩
      · rcases h with h | ⟨h1, h | ⟨h2, _⟩⟩
        · exact .inl h
        · exact .inr ⟨h1, h⟩
        · exact absurd ⟨h1, h2⟩ e
      · rcases h with h | ⟨h1, h⟩
        · exact .inl h
        · exact .inr ⟨h1, .inl h⟩
    rw [this] at h; exact h
end

def CmpG (wd : World) (A : Around) (P : Nat → Value → Prop) (bt : Nat → Nat → Bool) (h0 : Heap) : Prop :=
  ∀ i j vi vj (s : Shared) (Q : Value → Shared → Prop) (E : Value → Shared → Prop), P i vi → P j vj → (∀ b o, h0.get? b = some o → s.heap.get? b = some o) → Q (.bool (bt i j)) s → wpAny (model pw wd) A (richCompare .Lt vi vj) Q E s
section
variable {wd : World} {A : Around} {R : Result → Shared → Prop} {I : Addr} {fp wr : List Addr} {n : Nat} {P : Nat → Value → Prop} {St : Nat → Heap → Prop} {h0 : Heap}
theorem min_loopG (W : Walks pw wd A.in1 I fp wr n P St) (bt : Nat → Nat → Bool) (hcmp : CmpG wd A.in1 P bt h0) (S : Addr) (hSf : S ∉ fp) (h0S : h0.get? S = none) (h0w : ∀ b ∈ wr, h0.get? b = none) (k : Nat) :
    ∀ (j : Nat) (s : Shared) (vb : Value) (c : Nat), n - (j + 1) = k → j + 1 ≤ n → St (j + 1) s.heap → P (argBest bt j) vb → (∀ b o, h0.get? b = some o → s.heap.get? b = some o) →
    s.heap.get? S = some { cls := .type "list", dict := none, data := .seq #[vb, vb] c, slots := #[] } →
    (∀ v h' tk, P (argBest bt (n - 1)) v → (∀ b o, b ∉ wr → b ≠ S → s.heap.get? b = some o → h'.get? b = some o) → R (.ok (.ret v)) { s with heap := h', toks := tk }) →
    codeAny (model pw wd) A (.builtin "min.loop" ⟨[.ref I, .none, .ref S], []⟩) R s := by
  have hSw : S ∉ wr := fun h => hSf (W.sub _ h)
  have hname : (toString "min" ++ toString ".loop" : String) = "min.loop" := by decide
  have keep0 : ∀ {h h' : Heap}, (∀ b o, h0.get? b = some o → h.get? b = some o) → (∀ b o, b ∉ wr → h.get? b = some o → h'.get? b = some o) → ∀ b o, h0.get? b = some o → h'.get? b = some o :=
    fun h1 h2 b o e => h2 b o (fun m => by rw [h0w b m] at e; cases e) (h1 b o e)
  induction k with
  | zero =>
    intro j s vb c hk hj hst hPb hG hS hR
    have hin : j + 1 = n := by omega
    refine codeAny_builtin F.entry_min_loop ?_
    rw [Around.under_plainId F.plain_min_loop _]
    show wpAny _ A.in1 (seqItems? (.ref S) >>= _) _ _ s
    refine wpAny_bind (wpAny_seqItems hS rfl ?_)
    show wpAny _ A.in1 (tryCatch (pyNext (.ref I)) _ >>= _) _ _ s
    refine wpAny_bind (wpAny_tryCatch (W.done s _ _ (hin ▸ hst) fun h' tk hk' => ?_))
    have hS' := hk' S _ hSw hS
    show wpAny _ A.in1 (updateSeq S (fun _ => #[]) >>= _) _ _ _
    refine wpAny_bind ?_
    refine wpAny_updateSeq hS' rfl (wpAny_bind (wpAny_letGo (wpAny_pure ?_)))
    refine hR vb _ tk (by rw [← hin]; exact hPb) fun b o hbw hbS e => (Heap.get?_update_other _ _ (Ne.symm hbS)).trans (hk' b o hbw e)
  | succ k ih =>
    intro j s vb c hk hj hst hPb hG hS hR
    have hlt : j + 1 < n := by omega
    refine codeAny_builtin F.entry_min_loop ?_
    rw [Around.under_plainId F.plain_min_loop _]
    show wpAny _ A.in1 (seqItems? (.ref S) >>= _) _ _ s
    refine wpAny_bind (wpAny_seqItems hS rfl ?_)
    show wpAny _ A.in1 (tryCatch (pyNext (.ref I)) _ >>= _) _ _ s
    refine wpAny_bind (wpAny_tryCatch (W.item (j + 1) s _ _ hlt hst fun v h' tk hP hst' hk' => ?_))
    have hS' := hk' S _ hSw hS
    have hG' : ∀ b o, h0.get? b = some o → h'.get? b = some o := keep0 hG hk'
    show wpAny _ A.in1 (tryCatch (holding [v, v] (richCompare .Lt v vb >>= _)) _ >>= _) _ _ _
    refine wpAny_bind (wpAny_tryCatch (wpAny_holding (wpAny_bind (hcmp (j + 1) (argBest bt j) v vb _ _ _ hP hPb hG' ?_))))
    refine wpAny_bind (wpAny_holding (wpAny_truthy_bool ?_))
    refine wpAny_bind (wpAny_letGo (wpAny_pure ?_))
    cases hb : bt (j + 1) (argBest bt j) with
    | true =>
      simp only [if_true]
      refine wpAny_bind ?_
      refine wpAny_updateSeq hS' rfl (wpAny_bind (wpAny_letGo ?_))
      rw [hname]
      refine wpAny_pure ⟨plainId_quiet F.plain_min_loop _, ih (j + 1) _ v _ (by omega) hlt (W.frame _ _ _ hst' fun b hbf o e => ?_) (by simp only [argBest, hb, if_true]; exact hP) (fun b o e => ?_) (Heap.get?_update_self _ hS' rfl)
        fun v' h'' tk'' hP' hk'' => ?_⟩
      · exact (Heap.get?_update_other _ _ (fun h : S = b => hSf (by rw [h]; exact hbf))).trans e
      · exact (Heap.get?_update_other _ _ (fun h : S = b => by rw [← h, h0S] at e; cases e)).trans (hG' b o e)
      · exact hR v' h'' tk'' hP' fun b o hbw hbS e => hk'' b o hbw hbS ((Heap.get?_update_other _ _ (Ne.symm hbS)).trans (hk' b o hbw e))
    | false =>
      simp only [Bool.false_eq_true, if_false]
      refine wpAny_bind (wpAny_letGo ?_)
      rw [hname]
      refine wpAny_pure ⟨plainId_quiet F.plain_min_loop _, ih (j + 1) _ vb c (by omega) hlt hst' (by simp only [argBest, hb, Bool.false_eq_true, if_false]; exact hPb) hG' hS' fun v' h'' tk'' hP' hk'' => ?_⟩
      exact hR v' h'' tk'' hP' fun b o hbw hbS e => hk'' b o hbw hbS (hk' b o hbw e)
theorem min_loopG_first (W : Walks pw wd A.in1 I fp wr n P St) (bt : Nat → Nat → Bool) (hcmp : CmpG wd A.in1 P bt h0) (S : Addr) (hSf : S ∉ fp) (h0S : h0.get? S = none) (h0w : ∀ b ∈ wr, h0.get? b = none) (hn : 0 < n) {s : Shared} {c : Nat} (hst : St 0 s.heap) (hG : ∀ b o, h0.get? b = some o → s.heap.get? b = some o)
    (hS : s.heap.get? S = some { cls := .type "list", dict := none, data := .seq #[] c, slots := #[] })
    (hR : ∀ v h' tk, P (argBest bt (n - 1)) v → (∀ b o, b ∉ wr → b ≠ S → s.heap.get? b = some o → h'.get? b = some o) → R (.ok (.ret v)) { s with heap := h', toks := tk }) :
    codeAny (model pw wd) A (.builtin "min.loop" ⟨[.ref I, .none, .ref S], []⟩) R s := by
  have hSw : S ∉ wr := fun h => hSf (W.sub _ h)
  have hname : (toString "min" ++ toString ".loop" : String) = "min.loop" := by decide
  refine codeAny_builtin F.entry_min_loop ?_
  rw [Around.under_plainId F.plain_min_loop _]
  show wpAny _ A.in1 (seqItems? (.ref S) >>= _) _ _ s
  refine wpAny_bind (wpAny_seqItems hS rfl ?_)
  show wpAny _ A.in1 (tryCatch (pyNext (.ref I)) _ >>= _) _ _ s
  refine wpAny_bind (wpAny_tryCatch (W.item 0 s _ _ hn hst fun v h' tk hP hst' hk' => ?_))
  have hS' := hk' S _ hSw hS
  show wpAny _ A.in1 (updateSeq S (fun _ => #[v, v]) >>= _) _ _ _
  refine wpAny_bind ?_
  refine wpAny_updateSeq hS' rfl ?_
  rw [hname]
  refine wpAny_pure ⟨plainId_quiet F.plain_min_loop _, min_loopG W bt hcmp S hSf h0S h0w _ 0 _ v _ rfl hn (W.frame _ _ _ hst' fun b hbf o e => ?_) hP (fun b o e => ?_) (Heap.get?_update_self _ hS' rfl) fun v' h'' tk'' hP' hk'' => ?_⟩
  · exact (Heap.get?_update_other _ _ (fun h : S = b => hSf (by rw [h]; exact hbf))).trans e
  · exact (Heap.get?_update_other _ _ (fun h : S = b => by rw [← h, h0S] at e; cases e)).trans (hk' b o (fun m => by rw [h0w b m] at e; cases e) (hG b o e))
  · exact hR v' h'' tk'' hP' fun b o hbw hbS e => hk'' b o hbw hbS ((Heap.get?_update_other _ _ (Ne.symm hbS)).trans (hk' b o hbw e))
end
theorem heap_none {h : Heap} {a : Addr} (l : h.objs.size ≤ a) : h.get? a = none := by
  cases q : h.get? a with
  | none => rfl
  | some x => exact absurd (Heap.lt_size q) (Nat.not_lt.mpr l)
section
variable {wd : World} {A : Around} {E : Value → Shared → Prop} {c : Cx} {env : Env} {T : List Str} {vs : List (Option Value)} {l : Led} {s : Shared} {d : Addr} {xs : List Value}
theorem r_min {Q : Value → Shared → Prop} (w : W c env T vs l s) (hd : Has d (IsLs xs) l) (hn : 0 < xs.length) (hh : A.handled = none) (bt : Nat → Nat → Bool) (hcmp : CmpG wd A.in1 (fun i v => xs[i]? = some v) bt s.heap)
    (h : ∀ v s', xs[argBest bt (xs.length - 1)]? = some v → W c env T vs l s' → Q v s') : wpAny (model pw wd) A (call (.builtin "min") [.ref d]) Q E s := by
  have hname : (toString "min" ++ toString ".loop" : String) = "min.loop" := by decide
  have hl := ls_is w.own hd
  have hds : d < s.heap.objs.size := by obtain ⟨o, ho, _⟩ := hl; exact Heap.lt_size ho
  refine call_function_tree F.kind_min F.plain_min F.entry_min (F.args_min1 _) ?_
  show wpAny _ A.in1 (Builtin.Builtins.bindParams "min" ["key", "default"] 0 ⟨[], []⟩ >>= _) _ _ s
  refine wpAny_bind (wpAny_of_eq (show Builtin.Builtins.bindParams "min" ["key", "default"] 0 ⟨[], []⟩ = pure [none, none] from rfl) ?_)
  refine wpAny_bind (wpAny_pure ?_)
  refine wpAny_bind (wpAny_pyIter_list hl ?_)
  refine wpAny_bind (wpAny_newObj_type ?_)
  rw [hname]
  have hz : xs.toArray.size = xs.length := List.size_toArray
  have W0 := Walks.list (prog := pw) (w := wd) (A := A.in1) hh s.heap.objs.size d (Nat.ne_of_lt hds) xs.toArray
  have W1 : Walks pw wd A.in1 s.heap.objs.size [s.heap.objs.size, d] [s.heap.objs.size] xs.length (fun i v => xs[i]? = some v) (fun i h => h.IsListIter s.heap.objs.size d i ∧ h.IsList d xs.toArray) := by
    rw [hz] at W0
    have e : (fun (i : Nat) (v : Value) => xs.toArray[i]? = some v) = fun i v => xs[i]? = some v := by funext i v; rw [List.getElem?_toArray]
    rw [e] at W0
    exact W0
  have hsz : (s.heap.push { cls := .type "list_iterator", data := .fields #[.ref d, .int 0 0] }).objs.size = s.heap.objs.size + 1 := Heap.size_push ..
  refine wpAny_pure ⟨plainId_quiet F.plain_min_loop _, min_loopG_first (h0 := s.heap) W1 bt hcmp _ ?_ ?_ ?_ hn ⟨?_, ?_⟩ ?_ (Heap.get?_push_size _ rfl) fun v h' tk hP hk => ?_⟩
  · rw [hsz]
    intro hm
    rcases List.mem_cons.mp hm with e | hm
    · exact absurd e (Nat.succ_ne_self _)
    · have e := List.mem_singleton.mp hm
      have : s.heap.objs.size + 1 < s.heap.objs.size := e ▸ hds
      exact absurd this (Nat.not_lt.mpr (Nat.le_succ _))
  · exact heap_none (by rw [hsz]; omega)
  · intro b hb
    rw [List.mem_singleton.mp hb]
    exact heap_none (Nat.le_refl _)
  · exact ⟨_, Heap.get?_push_of_some _ (Heap.get?_push_size _ rfl), rfl, rfl⟩
  · exact (hl.push _).push _
  · exact fun b o e => Heap.get?_push_of_some _ (Heap.get?_push_of_some _ e)
  · refine h v _ hP (w.keeps (tk := tk) fun b o e => ?_)
    have hb := Heap.lt_size e
    exact hk b o (fun hm => Nat.ne_of_lt hb (List.mem_singleton.mp hm)) (fun e => Nat.ne_of_lt (Nat.lt_succ_of_lt hb) (e.trans hsz)) (Heap.get?_push_of_some _ (Heap.get?_push_of_some _ e))
end

theorem ints_of : ∀ {vs : List Value} {ns : List Int}, vs.length = ns.length → (∀ (j : Nat) (v : Value), vs[j]? = some v → ∃ (n : Int) (t : Tok), ns[j]? = some n ∧ v = Value.int n t) → IntsAre vs ns
  | [], [], _, _ => .nil
  | [], _ :: _, h, _ => by cases h
  | _ :: _, [], h, _ => by cases h
  | v :: vs, n :: ns, h, k => by
    obtain ⟨n', t, e1, e2⟩ := k 0 v rfl
    cases e1
    subst e2
    exact .cons n t (ints_of (Nat.succ.inj h) fun j u hj => k (j + 1) u hj)
section
variable {wd : World} {A : Around} {E : Value → Shared → Prop} {c : Cx} {env : Env} {T : List Str} {vs : List (Option Value)} {l : Led} {s : Shared} {d : Addr} {kvs : List (Int × Value)}
theorem r_sortedD {Q : Value → Shared → Prop} (w : W c env T vs l s) (bo : BaseOk wd c.B) (hd : Has d (IsD wd kvs) l) (hh : A.handled = none) (h64 : kvs.length < 64)
    (h : ∀ D vs' ns' s', IntsAre vs' ns' → ns'.Perm (kvs.map (·.1)) → ns'.Pairwise (· ≤ ·) → W c env T vs ((D, IsLs vs') :: l) s' → Q (.ref D) s') : wpAny (model pw wd) A (call (.builtin "sorted") [.ref d]) Q E s := by
  obtain ⟨ep, hat⟩ := (dict_at w.own hd).dictAt
  refine call_function_entry kind_sorted plain_sorted entry_sorted (args_sorted1 _) ?_
  unfold Builtin.«sorted»
  refine wpAny_bind (m := checkCount "sorted" 1 1 _) (wpAny_pure ?_)
  refine wpAny_bind (kdu_collect (A := A.in1) (kdl_dict (knd := intKind pw wd) (kvs := kvs) (ep := ep) (dict_low w.own bo hd)) hh hat (by rw [sizeLine_eq]; omega) fun h' tk acc hk hacc => ?_)
  have hl : acc.toList.length = kvs.length := by rw [Array.length_toList]; exact hacc.1
  have hI : IntsAre acc.toList (kvs.map (·.1)) := ints_of (by rw [hl, List.length_map]) fun j v hj => by
    obtain ⟨k, x, e1, e2⟩ := hacc.2 j v (by rw [← Array.getElem?_toList]; exact hj)
    obtain ⟨t, rfl⟩ := Value.isInt_shape e2
    exact ⟨k, t, by rw [List.getElem?_map, e1]; rfl, rfl⟩
  refine wpAny_bind (wpAny_newList ?_ (by rw [hl, sizeLine_eq]; omega))
  have hoL : (h'.push { cls := .type "list", data := .seq acc.toList.toArray }).get? h'.objs.size = some (seqObj "list" acc.toList.toArray 0) := Heap.get?_push_size _ rfl
  refine wpAny_bind (wpAny_holding (wpAny_call_entry slot_list_sort ⟨_, hoL, rfl⟩ entry_list_sort (list_sort_tree hoL hI (by rw [hl]; exact h64) fun out ns' a1 a2 a3 => ⟨_, rfl, ?_⟩) (args_list_sort _)))
  obtain ⟨e, he⟩ := sortedHeap_at (out := out) hoL
  have w1 := w.keeps (tk := tk) hk
  refine wpAny_pure ⟨_, rfl, h _ out.toList ns' _ a1 a2 a3 (w1.made (tk := tk) (fun b o e => ?_) (Nat.le_refl _) he ⟨_, rfl⟩)⟩
  have hb := Heap.lt_size e
  rw [sortedHeap_old (Nat.ne_of_lt hb) (by rw [Heap.size_push]; exact Nat.lt_succ_of_lt hb)]
  exact Heap.get?_push_of_some _ e
end

def lcOk (scope : Scope) (Tc : List Str) : Bool :=
  (scope.names.all fun y => y.2 != .cell) && scope.kind == .function && (scope.names.all fun y => y.2 != .local || scope.names.lookup y.1 == some .local) && (Tc.all fun x => scope.names.lookup x == some .local && !(x == ("__debug__" : Str))) && nodupS Tc
theorem lcOk.parts {scope : Scope} {Tc : List Str} (h : lcOk scope Tc = true) : (∀ y ∈ scope.names, y.2 ≠ .cell) ∧ scope.kind = .function ∧ (∀ y ∈ scope.names, y.2 = .local → scope.names.lookup y.1 = some .local) ∧ ∀ (env : Env) (cl : List (Str × Addr)) (C : Addr), Fx (compEnvC scope cl C env) Tc := by
  unfold lcOk at h
  simp only [Bool.and_eq_true, List.all_eq_true, bne_iff_ne, ne_eq, beq_iff_eq, Bool.not_eq_true', Bool.or_eq_true] at h
  obtain ⟨⟨⟨⟨h1, h2⟩, h3⟩, h4⟩, h5⟩ := h
  refine ⟨fun y hy => h1 y hy, h2, fun y hy hl => (h3 y hy).resolve_left fun q => q hl, fun env cl C => ⟨h2, fun x hx => lookup_relabel_local (h4 x hx).1, nodupS_spec h5, fun x hx => (h4 x hx).2⟩⟩
section
variable {wd : World} {A : Around} {E : Value → Shared → Prop} {c : Cx} {env : Env} {T Tc : List Str} {vs : List (Option Value)} {l : Led} {s : Shared}
theorem r_lc {elt target iter : PySem.Expr} {scope : Scope} {cl : List (Str × Addr)} {pos : Pos} {Q : Value → Shared → Prop} (_w : W c env T vs l s) (ok : lcOk scope Tc = true) (hclos : closureFor scope env = pure cl)
    (h : wpAny (model pw wd) A (eval iter env) (fun xv s₁ => wpAny (model pw wd) A (pyIter xv) (fun it s₂ => ∃ (l2 : Led) (Fin : List Value → Led → Prop), W c env T vs l2 s₂ ∧ (∀ v, letOwnedTupleGo target it v = pure ()) ∧
      (∀ (c' : Cx) (env' : Env) (T' : List Str) (vs' : List (Option Value)) (s' : Shared) (E' : Value → Shared → Prop) (Q : Value → Shared → Prop), (∃ f, W c' env' T' vs' (f :: l2) s') → Q it s' → wpAny (model pw wd) A (pyIter it) Q E' s') ∧
      (∀ D C, CompGo wd A (c.inn env.locals (loc T vs)) (compEnvC scope cl C env) Tc elt target it D Fin l2) ∧ ∀ D ys l'' s', Fin ys l'' → W c env T vs ((D, IsLs ys) :: l'') s' → Q (.ref D) s') E s₁) E s)
    (hs : ∀ x, foldedSetIterable iter env x = pure x := by intro _; rfl) : wpAny (model pw wd) A (eval (.ListComp elt [⟨target, iter, [], 0⟩] scope pos) env) Q E s := by
  obtain ⟨h1, h2, h3, h4⟩ := lcOk.parts ok
  exact r_lcomp hclos h1 h2 h3 (h4 env cl) h hs
theorem r_lcA {elt target iter : PySem.Expr} {y : Str} {py : Pos} {scope : Scope} {cl : List (Str × Addr)} {pos spos : Pos} {vs' : Addr → List (Option Value)} {Q : Flow → Shared → Prop} (_w : W c env T vs l s) (ok : lcOk scope Tc = true)
    (hsw : swapsWith (.ListComp elt [⟨target, iter, [], 0⟩] scope pos) (some (.Name y py)) spos.line env = pure true) (hclos : closureFor scope env = pure cl) (hls : ∀ D, Lset y (.ref D) T vs (vs' D))
    (h : wpAny (model pw wd) A (eval iter env) (fun xv s₁ => wpAny (model pw wd) A (pyIter xv) (fun it s₂ => ∃ (l2 : Led) (Fin : List Value → Led → Prop), W c env T vs l2 s₂ ∧ (∀ v, letOwnedTupleGo target it v = pure ()) ∧
      (∀ (c' : Cx) (env' : Env) (T' : List Str) (vs' : List (Option Value)) (s' : Shared) (E' : Value → Shared → Prop) (Q : Value → Shared → Prop), (∃ f, W c' env' T' vs' (f :: l2) s') → Q it s' → wpAny (model pw wd) A (pyIter it) Q E' s') ∧
      (∀ D C, CompGo wd A (c.inn env.locals (loc T vs)) (compEnvC scope cl C env) Tc elt target it D Fin l2) ∧ ∀ D ys l'' s', Fin ys l'' → W c env T (vs' D) ((D, IsLs ys) :: l'') s' → Q .next s') E s₁) E s)
    (hs : ∀ x, foldedSetIterable iter env x = pure x := by intro _; rfl) : wpAny (model pw wd) A (exec (.Assign [.Name y py] (.ListComp elt [⟨target, iter, [], 0⟩] scope pos) spos) env) Q E s := by
  obtain ⟨h1, h2, h3, h4⟩ := lcOk.parts ok
  exact r_lcompA hsw hclos h1 h2 h3 (h4 env cl) hls h hs
end
section
variable {wd : World} {A : Around} {l2 : Led} {I d : Addr} {i n ep : Nat} {x left : Int}
theorem hit_key (h : Has I (IsIt d i n ep) l2) : ∀ (c' : Cx) (env' : Env) (T' : List Str) (vs' : List (Option Value)) (s' : Shared) (E' : Value → Shared → Prop) (Q : Value → Shared → Prop), (∃ f, W c' env' T' vs' (f :: l2) s') → Q (.ref I) s' → wpAny (model pw wd) A (pyIter (.ref I)) Q E' s' := by
  rintro c' env' T' vs' s' E' Q ⟨f, w⟩ hq
  obtain ⟨io, hio, hi⟩ := w.own.get (.tail h)
  exact wpAny_pyIter_keyiter (KdkIter.at hi hio) hq
theorem hit_range (h : Has I (IsRi x left) l2) : ∀ (c' : Cx) (env' : Env) (T' : List Str) (vs' : List (Option Value)) (s' : Shared) (E' : Value → Shared → Prop) (Q : Value → Shared → Prop), (∃ f, W c' env' T' vs' (f :: l2) s') → Q (.ref I) s' → wpAny (model pw wd) A (pyIter (.ref I)) Q E' s' := by
  rintro c' env' T' vs' s' E' Q ⟨f, w⟩ hq
  obtain ⟨io, hio, hi⟩ := w.own.get (.tail h)
  cases hi
  exact wpAny_pyIter_rangeiter hio hq
theorem hit_list (h : Has I (IsLi d i) l2) : ∀ (c' : Cx) (env' : Env) (T' : List Str) (vs' : List (Option Value)) (s' : Shared) (E' : Value → Shared → Prop) (Q : Value → Shared → Prop), (∃ f, W c' env' T' vs' (f :: l2) s') → Q (.ref I) s' → wpAny (model pw wd) A (pyIter (.ref I)) Q E' s' := by
  rintro c' env' T' vs' s' E' Q ⟨f, w⟩ hq
  obtain ⟨io, hio, h1, h2⟩ := w.own.get (.tail h)
  exact wpAny_pyIter_listiter (i := i) ⟨io, hio, h1, h2⟩ hq
end
section
variable {wd : World} {A : Around} {E : Value → Shared → Prop} {c : Cx} {env : Env} {T : List Str} {vs : List (Option Value)} {l : Led} {s : Shared} {d : Addr} {kvs : List (Int × Value)} {k : Int} {t : Tok} {v : Value} {ep : Nat}
theorem dict_atE (w : W c env T vs l s) (hd : Has d (IsDE wd kvs ep) l) : s.heap.DictOf (intKind pw wd) d kvs := by
  obtain ⟨o, ho, es, r⟩ := w.own.get hd
  exact Heap.dictOf_iff.mpr ⟨o, ho, es, ep, r⟩
theorem r_dsubE {value slice : PySem.Expr} {Q : Value → Shared → Prop} (w : W c env T vs l s) (hd : Has d (IsDE wd kvs ep) l) (hv : valueAt kvs k = some v) (h : ∀ s', W c env T vs l s' → Q v s')
    (hs : subscripted slice false (.ref d) (.int k t) = operate [.ref d, .int k t] (getItem (.ref d) (.int k t)) := by with_unfolding_all rfl) :
    wpAny (model pw wd) A (subscriptTail value slice (.ref d) (.int k t)) Q E s :=
  subscriptTail_builtinR (x := v) (dict_atE w hd).typeIs slot_dict_getitem.lookup (wpAny_getItem_of (intKey k t) (dict_atE w hd).mapOf hv ⟨rfl, h _ (w.toks _)⟩) hs
theorem W.unE {l' : Led} (w : W c env T vs l s) (u : Up d (IsDE wd kvs ep) (IsD wd kvs) l l') : W c env T vs l' s := w.weak u fun o _ h => let ⟨es, r⟩ := h; ⟨es, ep, r⟩
end
inductive KW : List Wt → List (Int × Value) → Led → Prop
  | nil : KW [] [] []
  | cons {w : Wt} {tp : Addr} {ta tl : Tok} {ws wvs lt} : KW ws wvs lt → KW (w :: ws) ((w.g, .ref tp) :: wvs) ((tp, IsTu [.int w.asks ta, .int w.last tl]) :: lt)
theorem KW.keys {ws wvs lt} (h : KW ws wvs lt) : wvs.map (·.1) = Gs ws := by
  induction h with
  | nil => rfl
  | cons h ih => unfold Gs at ih ⊢; rw [List.map_cons, List.map_cons, ih]
theorem KW.length {ws wvs lt} (h : KW ws wvs lt) : wvs.length = ws.length := by
  have := congrArg List.length h.keys
  simpa [Gs] using this
theorem KW.at {ws wvs lt} {w : Wt} (h : KW ws wvs lt) (nd : (Gs ws).Nodup) (hw : w ∈ ws) : ∃ (tp : Addr) (ta tl : Tok), valueAt wvs w.g = some (.ref tp) ∧ Has tp (IsTu [.int w.asks ta, .int w.last tl]) lt := by
  induction h with
  | nil => cases hw
  | cons h ih =>
    rename_i w0 tp ta tl ws wvs lt
    have nd' := gs_nd nd
    rcases List.mem_cons.mp hw with rfl | hw
    · exact ⟨tp, ta, tl, valueAt_head, .head⟩
    · obtain ⟨tp', ta', tl', e, hh⟩ := ih nd'.2 hw
      refine ⟨tp', ta', tl', ?_, .tail hh⟩
      rw [va_cons, if_neg (nd'.1 w hw).symm]
      exact e
theorem KW.get {ws wvs lt} (h : KW ws wvs lt) : ∀ {i : Nat} {w : Wt}, ws[i]? = some w → ∃ u, wvs[i]? = some (w.g, u) := by
  induction h with
  | nil => intro i w hi; cases hi
  | cons h ih =>
    intro i w hi
    cases i with
    | zero => cases hi; exact ⟨_, rfl⟩
    | succ i => exact ih hi
inductive PrL (X : Wt → Value → Prop) : List Wt → List Value → Led → Prop
  | nil : PrL X [] [] []
  | snoc {w : Wt} {x : Value} {tp : Addr} {tg : Tok} {ws ys lp} : PrL X ws ys lp → X w x → PrL X (ws ++ [w]) (ys ++ [.ref tp]) ((tp, IsTu [x, .int w.g tg]) :: lp)
theorem PrL.len {X : Wt → Value → Prop} {ws ys lp} (h : PrL X ws ys lp) : ys.length = ws.length := by
  induction h with
  | nil => rfl
  | snoc h _ ih => rw [List.length_append, List.length_append, ih]; rfl
theorem PrL.at {X : Wt → Value → Prop} {ws ys lp} (h : PrL X ws ys lp) : ∀ {i : Nat} {v : Value}, ys[i]? = some v → ∃ (w : Wt) (tp : Addr) (x : Value) (tg : Tok), ws[i]? = some w ∧ v = .ref tp ∧ X w x ∧ Has tp (IsTu [x, .int w.g tg]) lp := by
  induction h with
  | nil => intro i v hi; cases hi
  | snoc h hx ih =>
    rename_i w x tp tg ws ys lp
    intro i v hi
    rcases Nat.lt_trichotomy i ys.length with q | q | q
    · rw [List.getElem?_append_left q] at hi
      obtain ⟨w', tp', x', tg', e1, e2, e3, e4⟩ := ih hi
      exact ⟨w', tp', x', tg', by rw [List.getElem?_append_left (by rw [← h.len]; exact q)]; exact e1, e2, e3, .tail e4⟩
    · rw [q, List.getElem?_append_right (Nat.le_refl _), Nat.sub_self] at hi
      cases hi
      exact ⟨w, tp, x, tg, by rw [q, h.len, List.getElem?_append_right (Nat.le_refl _), Nat.sub_self]; rfl, rfl, hx, .head⟩
    · rw [List.getElem?_eq_none (by rw [List.length_append, List.length_singleton]; omega)] at hi
      cases hi
theorem fn_1425 (wd : World) : FnC wd 1425 (fdOf (o_1425 wd.params)) (fnBody (fAt [46])) ["kind", "drawn"] := ⟨⟨o_1425 wd.params, by kernel_rfl, rfl⟩, rfl, by kernel_rfl⟩
theorem bd_1425 (wd : World) (v0 v1 v2 : Value) (s : Shared) : BindsTo s (fdOf (o_1425 wd.params)) ⟨[v0, v1, v2], []⟩ [("kind", v0), ("waiting", v1), ("drawn", v2)] := BindsTo.of_eq (by kernel_rfl)
theorem cl_1425 (wd : World) (n : Nat) : cellsFrom n (fdOf (o_1425 wd.params)).scope.names [] = ([("waiting", n)] : List (Str × Addr)) := by kernel_rfl
theorem loc_1425 (wd : World) (v0 v1 v2 : Value) (L : Addr) : bindL (callEnvC (fdOf (o_1425 wd.params)) L 1425).kindOf [("kind", v0), ("waiting", v1), ("drawn", v2)] (fun _ => none) = loc ["kind", "drawn"] [some v0, some v2] := by
  have e : bindL (callEnvC (fdOf (o_1425 wd.params)) L 1425).kindOf [("kind", v0), ("waiting", v1), ("drawn", v2)] (fun _ => none) = fun y => if y = ("drawn" : Str) then some v2 else (if y = ("kind" : Str) then some v0 else none) := by kernel_rfl
  rw [e]
  funext y
  unfold loc loc loc
  by_cases h1 : y = ("kind" : Str)
  · subst h1; rw [if_neg (by decide), if_pos rfl, if_pos rfl]
  · rw [if_neg h1, if_neg h1]
theorem cells_1425 (wd : World) (v0 v1 v2 : Value) (L : Addr) : ([("waiting", L + 1)] : List (Str × Addr)).map (fun p => (p.2, IsCl (bindC (callEnvC (fdOf (o_1425 wd.params)) L 1425).kindOf [("kind", v0), ("waiting", v1), ("drawn", v2)] (fun _ => none) p.1))) = [(L + 1, IsCl (some v1))] := by
  have e : bindC (callEnvC (fdOf (o_1425 wd.params)) L 1425).kindOf [("kind", v0), ("waiting", v1), ("drawn", v2)] (fun _ => none) "waiting" = some v1 := by kernel_rfl
  rw [List.map_cons, List.map_nil, e]

local macro_rules | `(tactic| wtm_at "myfc") => `(tactic| first
  | wtm_at "sxf6"
  | ((with_reducible show wpAny _ _ (call (Value.builtin "len") _) _ _ _); (first | refine r_llen ‹W _ _ _ _ _ _› (by wtm_at "hxf6") (by omega) ?_ | refine r_dlen ‹W _ _ _ _ _ _› ‹BaseOk _ _› (by wtm_at "hxf6") (by omega) ?_); intro _ _ _))
theorem argBest_min (bt : Nat → Nat → Bool) (irr : ∀ i, bt i i = false) (tr : ∀ i j k, bt i j = true → bt j k = true → bt i k = true) : ∀ k, argBest bt k ≤ k ∧ ∀ j, j ≤ k → bt j (argBest bt k) = false
  | 0 => ⟨Nat.le_refl _, fun j hj => by rw [Nat.le_zero.mp hj]; exact irr 0⟩
  | k + 1 => by
    obtain ⟨h1, h2⟩ := argBest_min bt irr tr k
    have e : argBest bt (k + 1) = if bt (k + 1) (argBest bt k) = true then k + 1 else argBest bt k := rfl
    rw [e]
    by_cases q : bt (k + 1) (argBest bt k) = true
    · rw [if_pos q]
      refine ⟨Nat.le_refl _, fun j hj => ?_⟩
      rcases Nat.lt_or_eq_of_le hj with hj | rfl
      · cases z : bt j (k + 1) with
        | false => rfl
        | true => have := tr _ _ _ z q; rw [h2 j (by omega)] at this; cases this
      · exact irr _
    · rw [if_neg q]
      refine ⟨by omega, fun j hj => ?_⟩
      rcases Nat.lt_or_eq_of_le hj with hj | rfl
      · exact h2 j (by omega)
      · simpa using q
def wAt (ws : List Wt) (i : Nat) : Wt := ws.getD i ⟨0, 0, 0, 0⟩
theorem wAt_of {ws : List Wt} {i : Nat} {w : Wt} (h : ws[i]? = some w) : wAt ws i = w := by unfold wAt; rw [List.getD_eq_getElem?_getD, h]; rfl
theorem tupAt {c : Cx} {l : Led} {s : Shared} {d : Addr} {x y : Value} (o : Own c l s) (hd : Has d (IsTu [x, y]) l) : TupAt s.heap d x y := by
  obtain ⟨ob, hob, e⟩ := o.get hd
  rw [e] at hob
  exact ⟨_, _, hob, rfl, rfl⟩
theorem TupAt.keep {h h' : Heap} {a : Addr} {x y : Value} (t : TupAt h a x y) (k : ∀ b o, h.get? b = some o → h'.get? b = some o) : TupAt h' a x y := let ⟨o, n, e, r⟩ := t; ⟨o, n, k _ _ e, r⟩
theorem Rm.u2 {n A} (r : Rm n A) (h : 1 ≤ n) : A.in1.units + 2 < cLine := by have := r.units; show A.units + 1 + 2 < cLine; omega
section
variable {wd : World} {tk td : Tok} {wdl : Addr} {ws : List Wt} {wvs : List (Int × Value)} {lt : Led} {d0 : Int}
set_option maxHeartbeats 4000000 in
theorem con_next2 (h : KW ws wvs lt) (ok : Ok ws) (hne : ws ≠ []) : Spec wd 12 (call (.ref 1425) [.int 2 tk, .ref wdl, .int d0 td]) ((wdl, IsD wd wvs) :: lt)
    (fun r l => (∃ w t, w ∈ ws ∧ DueLast ws d0 w ∧ r = .int w.g t) ∧ l = (wdl, IsD wd wvs) :: lt) := by
  have hlen := ok.len
  have hwl := h.length
  refine spec_defCells (fn_1425 wd) (fun s _ => bd_1425 wd _ _ _ s) (cl_1425 wd) (fun n x hx => ?_) (fun n p hp => ?_) (loc_1425 wd _ _ _) (cells_1425 wd _ _ _) ?_
  · simp only [List.mem_cons, List.not_mem_nil, or_false] at hx
    rcases hx with rfl | rfl | rfl
    · exact .inl (by kernel_rfl)
    · exact .inr ⟨by kernel_rfl, rfl⟩
    · exact .inl (by kernel_rfl)
  · rw [List.mem_singleton.mp hp]; rfl
  intro c A L s Q E bo rm sk hq w
  refine wpAny_execs_cons ?_
  repeat wtm_at "myfc"
  refine r_lc ‹W _ _ _ _ _ _› (Tc := ["guest"]) (cl := [("waiting", L + 1)]) (by kernel_rfl) (by kernel_rfl) ?_
  repeat wtm_at "myfc"
  refine r_iterD ‹W _ _ _ _ _ _› bo (fun ep => by wtm_at "uxf6") ?_
  intro I ep s1 w1
  refine ⟨_, fun ys l'' => ∃ lp, PrL (fun w x => ∃ t, x = .int w.last t) ws ys lp ∧ l'' = lp ++ ((L + 1, IsCl (some (.ref wdl))) :: (wdl, IsDE wd wvs ep) :: lt), w1, fun _ => rfl, hit_key .head, fun D C => ?_, fun D ys l'' s2 ⟨lp, hp, el⟩ w2 => ?_⟩
  · refine ⟨fun k ys l' vc => ∃ (done todo : List Wt) (lp : Led) (gv : Option Value), ws = done ++ todo ∧ todo.length = k ∧ PrL (fun w x => ∃ t, x = .int w.last t) done ys lp ∧ vc = [gv] ∧ l' = lp ++ ((I, IsIt wdl done.length wvs.length ep) :: (L + 1, IsCl (some (.ref wdl))) :: (wdl, IsDE wd wvs ep) :: lt), ws.length, ⟨[], ws, [], none, rfl, rfl, .nil, rfl, rfl⟩, ?_⟩
    rintro k ys l' vc s3 E' ⟨done, todo, lp, gv, e1, e2, hp, rfl, rfl⟩ w3
    have w4 := w3.perm ((List.perm_append_comm_assoc lp [_, _, _] lt).cons (D, IsLs ys))
    have hyl := hp.len
    cases todo with
    | nil =>
      rw [List.append_nil] at e1
      refine r_nextD_end w4 rm.handled (.tail .head) (.tail (.tail (.tail .head))) (List.getElem?_eq_none (by rw [hwl, e1]; exact Nat.le_refl _)) ?_
      intro s5 w5
      exact ⟨_, w5.perm ((List.perm_append_comm_assoc [_, _] lp lt).cons (D, IsLs ys)), lp, by rw [e1]; exact hp, rfl⟩
    | cons u todo =>
      have hu : u ∈ ws := by rw [e1]; exact List.mem_append_right _ (.head _)
      obtain ⟨u0, hg⟩ := h.get (i := done.length) (w := u) (by rw [e1, List.getElem?_append_right (Nat.le_refl _), Nat.sub_self]; rfl)
      obtain ⟨tp, ta, tl, hv, hhas⟩ := h.at ok.nd hu
      refine r_nextD w4 (.tail .head) (.tail (.tail (.tail .head))) hg ?_
      intro tg s5 w5
      have hys : ys.length ≤ 1000 := by rw [hyl]; have := congrArg List.length e1; rw [List.length_append] at this; omega
      clear w3 w4
      repeat wtm_at "myfc"
      refine r_dsubE ‹W _ _ _ _ _ _› (by wtm_at "hxf6") hv ?_
      intro s6 w6
      repeat wtm_at "myfc"
      refine r_tsub ‹W _ _ _ _ _ _› (.tail (.tail (.tail (.tail (Has.pre hhas))))) (by decide) (by decide) rfl ?_ (by with_unfolding_all rfl)
      intro s7 w7
      repeat wtm_at "myfc"
      have w9 := ‹W _ _ _ _ _ _›
      refine ⟨((_, IsTu [.int u.last tl, .int u.g tg]) :: lp) ++ ((I, IsIt wdl (done ++ [u]).length wvs.length ep) :: (L + 1, IsCl (some (.ref wdl))) :: (wdl, IsDE wd wvs ep) :: lt), [some (.int u.g tg)], todo.length, ?_, hys, by rw [← e2]; exact Nat.lt_succ_self _, done ++ [u], todo, _, _, by rw [List.append_assoc]; exact e1, rfl, hp.snoc ⟨tl, rfl⟩, rfl, rfl⟩
      rw [List.length_append]
      exact w9.perm (.trans (.swap _ _ _) (.cons _ (.cons _ (List.perm_append_comm_assoc [_, _, _] lp lt))))
  · subst el
    repeat wtm_at "myfc"
    refine r_min w2 .head (by rw [hp.len]; exact List.length_pos_iff.mpr hne) rm.handled (fun i j => decide ((wAt ws i).last < (wAt ws j).last ∨ ((wAt ws i).last = (wAt ws j).last ∧ (wAt ws i).g < (wAt ws j).g))) ?_ ?_
    · intro i j vi vj s5 Q' E' hi hj hk hq'
      obtain ⟨wi, ti, xi, tgi, ei, rfl, ⟨t1, rfl⟩, hi'⟩ := hp.at hi
      obtain ⟨wj, tj, xj, tgj, ej, rfl, ⟨t2, rfl⟩, hj'⟩ := hp.at hj
      dsimp only at hq'
      rw [wAt_of ei, wAt_of ej] at hq'
      exact rc_lt_ii (Nat.lt_of_le_of_lt (Nat.le_add_right _ _) (rm.u2 (by decide))) ((tupAt w2.own (.tail (.app hi'))).keep hk) ((tupAt w2.own (.tail (.app hj'))).keep hk) hq'
    · intro v s5 hv w5
      obtain ⟨hle, hmin⟩ := argBest_min (fun i j => decide ((wAt ws i).last < (wAt ws j).last ∨ ((wAt ws i).last = (wAt ws j).last ∧ (wAt ws i).g < (wAt ws j).g))) (fun i => decide_eq_false (by omega)) (fun i j k h1 h2 => by have h1 := of_decide_eq_true h1; have h2 := of_decide_eq_true h2; exact decide_eq_true (by omega)) (ys.length - 1)
      obtain ⟨wi, ti, xi, tgi, ei, rfl, ⟨t1, rfl⟩, hi'⟩ := hp.at hv
      repeat wtm_at "myfc"
      refine r_tsub ‹W _ _ _ _ _ _› (.tail (.app hi')) (by decide) (by decide) rfl ?_ (by with_unfolding_all rfl)
      intro s6 w6
      rw [wAt_of ei] at hmin
      refine hq _ _ _ ⟨⟨wi, tgi, List.mem_of_getElem? ei, fun u hu => ?_, rfl⟩, rfl⟩ ((w6.unE (.tail (.pre (.tail .head)))).sub (l' := (wdl, IsD wd wvs) :: lt) (.cons _ (.trans (.cons _ (.refl _)) (List.sublist_append_right _ _)))).own
      obtain ⟨j, hj⟩ := List.mem_iff_getElem?.mp hu
      have hjl := (List.getElem?_eq_some_iff.mp hj).1
      have := of_decide_eq_false (hmin j (by rw [hp.len]; omega))
      rw [wAt_of hj] at this
      omega

set_option maxHeartbeats 4000000 in
theorem con_next3 (h : KW ws wvs lt) (ok : Ok ws) (hne : ws ≠ []) : Spec wd 12 (call (.ref 1425) [.int 3 tk, .ref wdl, .int d0 td]) ((wdl, IsD wd wvs) :: lt)
    (fun r l => (∃ w t, w ∈ ws ∧ DueAsks ws d0 w ∧ r = .int w.g t) ∧ l = (wdl, IsD wd wvs) :: lt) := by
  have hlen := ok.len
  have hwl := h.length
  refine spec_defCells (fn_1425 wd) (fun s _ => bd_1425 wd _ _ _ s) (cl_1425 wd) (fun n x hx => ?_) (fun n p hp => ?_) (loc_1425 wd _ _ _) (cells_1425 wd _ _ _) ?_
  · simp only [List.mem_cons, List.not_mem_nil, or_false] at hx
    rcases hx with rfl | rfl | rfl
    · exact .inl (by kernel_rfl)
    · exact .inr ⟨by kernel_rfl, rfl⟩
    · exact .inl (by kernel_rfl)
  · rw [List.mem_singleton.mp hp]; rfl
  intro c A L s Q E bo rm sk hq w
  refine wpAny_execs_cons ?_
  repeat wtm_at "myfc"
  refine r_lc ‹W _ _ _ _ _ _› (Tc := ["guest"]) (cl := [("waiting", L + 1)]) (by kernel_rfl) (by kernel_rfl) ?_
  repeat wtm_at "myfc"
  refine r_iterD ‹W _ _ _ _ _ _› bo (fun ep => by wtm_at "uxf6") ?_
  intro I ep s1 w1
  refine ⟨_, fun ys l'' => ∃ lp, PrL (fun w x => ∃ (a : Addr) (t1 t2 : Tok), x = .ref a ∧ Has a (IsTu [.int w.asks t1, .int w.last t2]) lt) ws ys lp ∧ l'' = lp ++ ((L + 1, IsCl (some (.ref wdl))) :: (wdl, IsDE wd wvs ep) :: lt), w1, fun _ => rfl, hit_key .head, fun D C => ?_, fun D ys l'' s2 ⟨lp, hp, el⟩ w2 => ?_⟩
  · refine ⟨fun k ys l' vc => ∃ (done todo : List Wt) (lp : Led) (gv : Option Value), ws = done ++ todo ∧ todo.length = k ∧ PrL (fun w x => ∃ (a : Addr) (t1 t2 : Tok), x = .ref a ∧ Has a (IsTu [.int w.asks t1, .int w.last t2]) lt) done ys lp ∧ vc = [gv] ∧ l' = lp ++ ((I, IsIt wdl done.length wvs.length ep) :: (L + 1, IsCl (some (.ref wdl))) :: (wdl, IsDE wd wvs ep) :: lt), ws.length, ⟨[], ws, [], none, rfl, rfl, .nil, rfl, rfl⟩, ?_⟩
    rintro k ys l' vc s3 E' ⟨done, todo, lp, gv, e1, e2, hp, rfl, rfl⟩ w3
    have w4 := w3.perm ((List.perm_append_comm_assoc lp [_, _, _] lt).cons (D, IsLs ys))
    have hyl := hp.len
    cases todo with
    | nil =>
      rw [List.append_nil] at e1
      refine r_nextD_end w4 rm.handled (.tail .head) (.tail (.tail (.tail .head))) (List.getElem?_eq_none (by rw [hwl, e1]; exact Nat.le_refl _)) ?_
      intro s5 w5
      exact ⟨_, w5.perm ((List.perm_append_comm_assoc [_, _] lp lt).cons (D, IsLs ys)), lp, by rw [e1]; exact hp, rfl⟩
    | cons u todo =>
      have hu : u ∈ ws := by rw [e1]; exact List.mem_append_right _ (.head _)
      obtain ⟨u0, hg⟩ := h.get (i := done.length) (w := u) (by rw [e1, List.getElem?_append_right (Nat.le_refl _), Nat.sub_self]; rfl)
      obtain ⟨tp, ta, tl, hv, hhas⟩ := h.at ok.nd hu
      refine r_nextD w4 (.tail .head) (.tail (.tail (.tail .head))) hg ?_
      intro tg s5 w5
      have hys : ys.length ≤ 1000 := by rw [hyl]; have := congrArg List.length e1; rw [List.length_append] at this; omega
      clear w3 w4
      repeat wtm_at "myfc"
      refine r_dsubE ‹W _ _ _ _ _ _› (by wtm_at "hxf6") hv ?_
      intro s6 w6
      repeat wtm_at "myfc"
      have w9 := ‹W _ _ _ _ _ _›
      refine ⟨((_, IsTu [.ref tp, .int u.g tg]) :: lp) ++ ((I, IsIt wdl (done ++ [u]).length wvs.length ep) :: (L + 1, IsCl (some (.ref wdl))) :: (wdl, IsDE wd wvs ep) :: lt), [some (.int u.g tg)], todo.length, ?_, hys, by rw [← e2]; exact Nat.lt_succ_self _, done ++ [u], todo, _, _, by rw [List.append_assoc]; exact e1, rfl, hp.snoc ⟨tp, ta, tl, rfl, hhas⟩, rfl, rfl⟩
      rw [List.length_append]
      exact w9.perm (.trans (.swap _ _ _) (.cons _ (.cons _ (List.perm_append_comm_assoc [_, _, _] lp lt))))
  · subst el
    repeat wtm_at "myfc"
    refine r_min w2 .head (by rw [hp.len]; exact List.length_pos_iff.mpr hne) rm.handled (fun i j => decide ((wAt ws i).asks < (wAt ws j).asks ∨ ((wAt ws i).asks = (wAt ws j).asks ∧ ((wAt ws i).last < (wAt ws j).last ∨ ((wAt ws i).last = (wAt ws j).last ∧ (wAt ws i).g < (wAt ws j).g))))) ?_ ?_
    · intro i j vi vj s5 Q' E' hi hj hk hq'
      obtain ⟨wi, ti, xi, tgi, ei, rfl, ⟨ai, t1, t2, rfl, hai⟩, hi'⟩ := hp.at hi
      obtain ⟨wj, tj, xj, tgj, ej, rfl, ⟨aj, t3, t4, rfl, haj⟩, hj'⟩ := hp.at hj
      dsimp only at hq'
      rw [wAt_of ei, wAt_of ej] at hq'
      exact rc_lt_tii (rm.u2 (by decide)) ((tupAt w2.own (.tail (.app hi'))).keep hk) ((tupAt w2.own (.tail (.app hj'))).keep hk) ((tupAt w2.own (.tail (.pre (.tail (.tail hai))))).keep hk) ((tupAt w2.own (.tail (.pre (.tail (.tail haj))))).keep hk) hq'
    · intro v s5 hv w5
      obtain ⟨hle, hmin⟩ := argBest_min (fun i j => decide ((wAt ws i).asks < (wAt ws j).asks ∨ ((wAt ws i).asks = (wAt ws j).asks ∧ ((wAt ws i).last < (wAt ws j).last ∨ ((wAt ws i).last = (wAt ws j).last ∧ (wAt ws i).g < (wAt ws j).g))))) (fun i => decide_eq_false (by omega)) (fun i j k h1 h2 => by have h1 := of_decide_eq_true h1; have h2 := of_decide_eq_true h2; exact decide_eq_true (by omega)) (ys.length - 1)
      obtain ⟨wi, ti, xi, tgi, ei, rfl, ⟨ai, t1, t2, rfl, hai⟩, hi'⟩ := hp.at hv
      repeat wtm_at "myfc"
      refine r_tsub ‹W _ _ _ _ _ _› (.tail (.app hi')) (by decide) (by decide) rfl ?_ (by with_unfolding_all rfl)
      intro s6 w6
      rw [wAt_of ei] at hmin
      refine hq _ _ _ ⟨⟨wi, tgi, List.mem_of_getElem? ei, fun u hu => ?_, rfl⟩, rfl⟩ ((w6.unE (.tail (.pre (.tail .head)))).sub (l' := (wdl, IsD wd wvs) :: lt) (.cons _ (.trans (.cons _ (.refl _)) (List.sublist_append_right _ _)))).own
      obtain ⟨j, hj⟩ := List.mem_iff_getElem?.mp hu
      have hjl := (List.getElem?_eq_some_iff.mp hj).1
      have := of_decide_eq_false (hmin j (by rw [hp.len]; omega))
      rw [wAt_of hj] at this
      omega
end

local macro_rules | `(tactic| wtm_at "myfd") => `(tactic| first
  | wtm_at "sxf6"
  | ((with_reducible show wpAny _ _ (call (Value.builtin "len") _) _ _ _); (first | refine r_llen ‹W _ _ _ _ _ _› (by wtm_at "hxf6") (by omega) ?_ | refine r_dlen ‹W _ _ _ _ _ _› ‹BaseOk _ _› (by wtm_at "hxf6") (by omega) ?_); intro _ _ _))
theorem sorted_gs {ws : List Wt} {ns : List Int} (ok : Ok ws) (hp : ns.Perm (Gs ws)) (hs : ns.Pairwise (· ≤ ·)) : ns = Gs ws :=
  List.Perm.eq_of_pairwise (le := fun a b => decide (a ≤ b)) (fun a b _ _ h1 h2 => Int.le_antisymm (of_decide_eq_true h1) (of_decide_eq_true h2)) (hs.imp fun h => decide_eq_true h) (ok.inc.imp fun h => decide_eq_true (Int.le_of_lt h)) hp
def GuL (ws : List Wt) (ys : List Value) : Prop := ys.length = ws.length ∧ ∀ (i : Nat) (v : Value), ys[i]? = some v → ∃ (w : Wt) (t : Tok), ws[i]? = some w ∧ v = .int w.g t
theorem GuL.snoc {ws : List Wt} {ys : List Value} {w : Wt} {t : Tok} (h : GuL ws ys) : GuL (ws ++ [w]) (ys ++ [.int w.g t]) := by
  refine ⟨by rw [List.length_append, List.length_append, h.1]; rfl, fun i v hi => ?_⟩
  rcases Nat.lt_trichotomy i ys.length with q | q | q
  · rw [List.getElem?_append_left q] at hi
    obtain ⟨w', t', e1, e2⟩ := h.2 i v hi
    exact ⟨w', t', by rw [List.getElem?_append_left (by rw [← h.1]; exact q)]; exact e1, e2⟩
  · rw [q, List.getElem?_append_right (Nat.le_refl _), Nat.sub_self] at hi
    cases hi
    exact ⟨w, t, by rw [q, h.1, List.getElem?_append_right (Nat.le_refl _), Nat.sub_self]; rfl, rfl⟩
  · rw [List.getElem?_eq_none (by rw [List.length_append, List.length_singleton]; omega)] at hi
    cases hi
section
variable {wd : World} {tk td : Tok} {wdl : Addr} {ws : List Wt} {wvs : List (Int × Value)} {lt : Led} {d0 : Int}
set_option maxHeartbeats 4000000 in
theorem con_next4 (h : KW ws wvs lt) (ok : Ok ws) (hne : ws ≠ []) : Spec wd 12 (call (.ref 1425) [.int 4 tk, .ref wdl, .int d0 td]) ((wdl, IsD wd wvs) :: lt)
    (fun r l => (∃ w t, w ∈ ws ∧ DueDraw ws d0 w ∧ r = .int w.g t) ∧ l = (wdl, IsD wd wvs) :: lt) := by
  have hlen := ok.len
  have hwl := h.length
  have hpos := List.length_pos_iff.mpr hne
  refine spec_defCells (fn_1425 wd) (fun s _ => bd_1425 wd _ _ _ s) (cl_1425 wd) (fun n x hx => ?_) (fun n p hp => ?_) (loc_1425 wd _ _ _) (cells_1425 wd _ _ _) ?_
  · simp only [List.mem_cons, List.not_mem_nil, or_false] at hx
    rcases hx with rfl | rfl | rfl
    · exact .inl (by kernel_rfl)
    · exact .inr ⟨by kernel_rfl, rfl⟩
    · exact .inl (by kernel_rfl)
  · rw [List.mem_singleton.mp hp]; rfl
  intro c A L s Q E bo rm sk hq w
  refine wpAny_execs_cons ?_
  repeat wtm_at "myfd"
  refine r_sortedD ‹W _ _ _ _ _ _› bo (.tail .head) rm.handled (by omega) ?_
  intro D vs' ns' s1 hI hp hs w1
  rw [h.keys] at hp
  have e := sorted_gs ok hp hs
  subst e
  repeat wtm_at "myfd"
  have hl' : vs'.length = ws.length := by rw [hI.length]; unfold Gs; rw [List.length_map]
  rw [hwl] at *
  have b0 : 0 ≤ d0.fmod ws.length := Int.fmod_nonneg_of_pos _ (by omega)
  have b1 : d0.fmod ws.length < ws.length := Int.fmod_lt_of_pos _ (by omega)
  have hi : (d0.fmod ws.length).toNat < vs'.length := by omega
  obtain ⟨n, t, e1, e2⟩ := hI.at _ _ (List.getElem?_eq_getElem hi)
  obtain ⟨w0, hw0⟩ : ∃ w0, ws[(d0.fmod ws.length).toNat]? = some w0 := ⟨_, List.getElem?_eq_getElem (by omega)⟩
  have hg : (Gs ws)[(d0.fmod ws.length).toNat]? = some w0.g := by unfold Gs; rw [List.getElem?_map, hw0]; rfl
  rw [hg] at e2
  cases e2
  refine r_lsub ‹W _ _ _ _ _ _› (by wtm_at "hxf6") b0 (by omega) (v := .int w0.g t) (by rw [List.getElem?_eq_getElem hi, e1]) ?_ (by with_unfolding_all rfl)
  intro s3 w3
  exact hq _ _ _ ⟨⟨w0, t, List.mem_of_getElem? hw0, hg, rfl⟩, rfl⟩ (w3.sub (l' := (wdl, IsD wd wvs) :: lt) (.cons _ (.cons _ (.refl _)))).own
set_option maxHeartbeats 4000000 in
theorem con_next0 {kind : Int} (hk : kind = 0 ∨ kind = 1) (h : KW ws wvs lt) (ok : Ok ws) (hne : ws ≠ []) : Spec wd 12 (call (.ref 1425) [.int kind tk, .ref wdl, .int d0 td]) ((wdl, IsD wd wvs) :: lt)
    (fun r l => (∃ w t, w ∈ ws ∧ DueFirst ws d0 w ∧ r = .int w.g t) ∧ l = (wdl, IsD wd wvs) :: lt) := by
  have hlen := ok.len
  have hwl := h.length
  refine spec_defCells (fn_1425 wd) (fun s _ => bd_1425 wd _ _ _ s) (cl_1425 wd) (fun n x hx => ?_) (fun n p hp => ?_) (loc_1425 wd _ _ _) (cells_1425 wd _ _ _) ?_
  · simp only [List.mem_cons, List.not_mem_nil, or_false] at hx
    rcases hx with rfl | rfl | rfl
    · exact .inl (by kernel_rfl)
    · exact .inr ⟨by kernel_rfl, rfl⟩
    · exact .inl (by kernel_rfl)
  · rw [List.mem_singleton.mp hp]; rfl
  intro c A L s Q E bo rm sk hq w
  refine wpAny_execs_cons ?_
  repeat wtm_at "myfd"
  refine r_lc ‹W _ _ _ _ _ _› (Tc := ["guest"]) (cl := []) (by kernel_rfl) (by kernel_rfl) ?_
  repeat wtm_at "myfd"
  refine r_iterD ‹W _ _ _ _ _ _› bo (fun ep => by wtm_at "uxf6") ?_
  intro I ep s1 w1
  refine ⟨_, fun ys l'' => GuL ws ys ∧ l'' = ((L + 1, IsCl (some (.ref wdl))) :: (wdl, IsDE wd wvs ep) :: lt), w1, fun _ => rfl, hit_key .head, fun D C => ?_, fun D ys l'' s2 ⟨hp, el⟩ w2 => ?_⟩
  · refine ⟨fun k ys l' vc => ∃ (done todo : List Wt) (gv : Option Value), ws = done ++ todo ∧ todo.length = k ∧ GuL done ys ∧ vc = [gv] ∧ l' = ((I, IsIt wdl done.length wvs.length ep) :: (L + 1, IsCl (some (.ref wdl))) :: (wdl, IsDE wd wvs ep) :: lt), ws.length, ⟨[], ws, none, rfl, rfl, ⟨rfl, fun i v hi => by cases hi⟩, rfl, rfl⟩, ?_⟩
    rintro k ys l' vc s3 E' ⟨done, todo, gv, e1, e2, hp, rfl, rfl⟩ w3
    have hyl := hp.1
    cases todo with
    | nil =>
      rw [List.append_nil] at e1
      refine r_nextD_end w3 rm.handled (.tail .head) (.tail (.tail (.tail .head))) (List.getElem?_eq_none (by rw [hwl, e1]; exact Nat.le_refl _)) ?_
      intro s5 w5
      exact ⟨_, w5, by rw [e1]; exact hp, rfl⟩
    | cons u todo =>
      obtain ⟨u0, hg⟩ := h.get (i := done.length) (w := u) (by rw [e1, List.getElem?_append_right (Nat.le_refl _), Nat.sub_self]; rfl)
      refine r_nextD w3 (.tail .head) (.tail (.tail (.tail .head))) hg ?_
      intro tg s5 w5
      have hys : ys.length ≤ 1000 := by rw [hyl]; have := congrArg List.length e1; rw [List.length_append] at this; omega
      clear w3
      repeat wtm_at "myfd"
      have w9 := ‹W _ _ _ _ _ _›
      refine ⟨_, [some (.int u.g tg)], todo.length, w9, hys, by rw [← e2]; exact Nat.lt_succ_self _, done ++ [u], todo, _, by rw [List.append_assoc]; exact e1, rfl, hp.snoc, rfl, ?_⟩
      rw [List.length_append]
      rfl
  · subst el
    repeat wtm_at "myfd"
    refine r_min w2 .head (by rw [hp.1]; exact List.length_pos_iff.mpr hne) rm.handled (fun i j => decide ((wAt ws i).g < (wAt ws j).g)) ?_ ?_
    · intro i j vi vj s5 Q' E' hi hj hk hq'
      obtain ⟨wi, ti, ei, rfl⟩ := hp.2 _ _ hi
      obtain ⟨wj, tj, ej, rfl⟩ := hp.2 _ _ hj
      dsimp only at hq'
      rw [wAt_of ei, wAt_of ej] at hq'
      exact rc_lt_int hq'
    · intro v s5 hv w5
      obtain ⟨hle, hmin⟩ := argBest_min (fun i j => decide ((wAt ws i).g < (wAt ws j).g)) (fun i => decide_eq_false (by omega)) (fun i j k h1 h2 => by have h1 := of_decide_eq_true h1; have h2 := of_decide_eq_true h2; exact decide_eq_true (by omega)) (ys.length - 1)
      obtain ⟨wi, ti, ei, rfl⟩ := hp.2 _ _ hv
      repeat wtm_at "myfd"
      rw [wAt_of ei] at hmin
      refine hq _ _ _ ⟨⟨wi, ti, List.mem_of_getElem? ei, ?_, rfl⟩, rfl⟩ ((w5.unE (.tail (.tail .head))).sub (l' := (wdl, IsD wd wvs) :: lt) (.cons _ (.cons _ (.refl _)))).own
      cases ws with
      | nil => exact absurd rfl hne
      | cons w0 ws' =>
        have := of_decide_eq_false (hmin 0 (Nat.zero_le _))
        rw [wAt_of (w := w0) rfl] at this
        rcases List.mem_cons.mp (List.mem_of_getElem? ei) with e | e
        · rw [e]; rfl
        · have : w0.g < wi.g := (List.pairwise_cons.mp ok.inc).1 wi.g (List.mem_map.mpr ⟨wi, e, rfl⟩)
          omega
end
def DueOf (kind : Int) : List Wt → Int → Wt → Prop := if kind = 2 then DueLast else if kind = 3 then DueAsks else if kind = 4 then DueDraw else DueFirst
theorem con_next {wd : World} {tk td : Tok} {wdl : Addr} {ws : List Wt} {wvs : List (Int × Value)} {lt : Led} {d0 kind : Int} (k0 : 0 ≤ kind) (k1 : kind < 5) (h : KW ws wvs lt) (ok : Ok ws) (hne : ws ≠ []) : Spec wd 12 (call (.ref 1425) [.int kind tk, .ref wdl, .int d0 td]) ((wdl, IsD wd wvs) :: lt)
    (fun r l => (∃ w t, w ∈ ws ∧ DueOf kind ws d0 w ∧ r = .int w.g t) ∧ l = (wdl, IsD wd wvs) :: lt) := by
  have hk : kind = 0 ∨ kind = 1 ∨ kind = 2 ∨ kind = 3 ∨ kind = 4 := by omega
  rcases hk with rfl | rfl | rfl | rfl | rfl
  · exact con_next0 (.inl rfl) h ok hne
  · exact con_next0 (.inr rfl) h ok hne
  · exact con_next2 h ok hne
  · exact con_next3 h ok hne
  · exact con_next4 h ok hne
theorem due_unique {kind : Int} {ws : List Wt} {d0 : Int} {w u : Wt} (nd : (ws.map (·.last)).Nodup) (ok : Ok ws) (hw : w ∈ ws) (hu : u ∈ ws) (h1 : DueOf kind ws d0 w) (h2 : DueOf kind ws d0 u) : w = u := by
  have lastInj : ∀ a ∈ ws, ∀ b ∈ ws, a.last = b.last → a = b := fun a ha b hb e => by
    obtain ⟨i, hi⟩ := List.mem_iff_getElem?.mp ha
    obtain ⟨j, hj⟩ := List.mem_iff_getElem?.mp hb
    have hil := (List.getElem?_eq_some_iff.mp hi).1
    have : i = j := (List.getElem?_inj (l := ws.map (·.last)) (by rw [List.length_map]; exact hil) nd).mp (by rw [List.getElem?_map, List.getElem?_map, hi, hj]; exact congrArg some e)
    subst this
    rw [hi] at hj
    exact Option.some.inj hj
  have gInj : ∀ a ∈ ws, ∀ b ∈ ws, a.g = b.g → a = b := fun a ha b hb e => by
    obtain ⟨i, hi⟩ := List.mem_iff_getElem?.mp ha
    obtain ⟨j, hj⟩ := List.mem_iff_getElem?.mp hb
    have hil := (List.getElem?_eq_some_iff.mp hi).1
    have : i = j := (List.getElem?_inj (l := Gs ws) (by unfold Gs; rw [List.length_map]; exact hil) ok.nd).mp (by unfold Gs; rw [List.getElem?_map, List.getElem?_map, hi, hj]; exact congrArg some e)
    subst this
    rw [hi] at hj
    exact Option.some.inj hj
  unfold DueOf at h1 h2
  by_cases k2 : kind = 2
  · rw [if_pos k2] at h1 h2
    have := h1 u hu
    have := h2 w hw
    exact lastInj w hw u hu (by omega)
  · rw [if_neg k2] at h1 h2
    by_cases k3 : kind = 3
    · rw [if_pos k3] at h1 h2
      have := h1 u hu
      have := h2 w hw
      exact lastInj w hw u hu (by omega)
    · rw [if_neg k3] at h1 h2
      by_cases k4 : kind = 4
      · rw [if_pos k4] at h1 h2
        unfold DueDraw at h1 h2
        rw [h1] at h2
        exact gInj w hw u hu (Option.some.inj h2)
      · rw [if_neg k4] at h1 h2
        unfold DueFirst at h1 h2
        rw [h1] at h2
        exact Option.some.inj h2

section
variable {wd : World} {A : Around} {E : Value → Shared → Prop} {s : Shared} {env : Env} {pos : Pos} {Q : Flow → Shared → Prop}
theorem r_for {target iter : PySem.Expr} {body : List Stmt}
    (h : wpAny (model pw wd) A (eval iter env) (fun xv s₁ => wpAny (model pw wd) A (pyIter xv) (fun it s₂ => ∃ (I : Nat → Shared → Prop) (n : Nat), I n s₂ ∧ ∀ k s₃ (E' : Value → Shared → Prop), I k s₃ →
      wpAny (model pw wd) A (pyNext it) (fun r s₁ => match r with
        | none => Q .next s₁
        | some v => wpAny (model pw wd) A (letOwnedTupleGo target it v) (fun _ s₁' => wpAny (model pw wd) A (assign target env v) (fun _ s₂ => wpAny (model pw wd) A (execs body env) (fun f s₃ => match f with
            | .next | .cont => ∃ m, m < k ∧ I m s₃
            | .brk => Q .next s₃
            | .ret v => Q (.ret v) s₃) E' s₂) E' s₁') E' s₁) E' s₃) E s₁) E s)
    (hs : ∀ x, foldedSetIterable iter env x = pure x := by intro _; rfl) : wpAny (model pw wd) A (exec (.For target iter body [] pos) env) Q E s := by
  refine wpAny_For (wpAny_mono h (fun xv s₁ h₁ => wpAny_mono h₁ (fun it s₂ h₂ => ?_) fun _ _ e => e) fun _ _ e => e) hs
  obtain ⟨I, n, hi, turn⟩ := h₂
  refine codeAny_forLoop_any I (fun k s₃ hk => ?_) n hi
  refine wpAny_mono (turn k s₃ _ hk) (fun r s₁ h1 => ?_) fun _ _ e => e
  cases r with
  | none => exact wpAny_execs_nil h1
  | some v => exact h1
theorem r_while {test : PySem.Expr} {body : List Stmt} (I : Nat → Shared → Prop) (n : Nat) (hi : I n s)
    (turn : ∀ k s₁ (E' : Value → Shared → Prop), I k s₁ → wpAny (model pw wd) A (isTrue test env (eval test env)) (fun b s₂ => if b = true then wpAny (model pw wd) A (execs body env) (fun f s₃ => match f with
            | .next | .cont => ∃ m, m < k ∧ I m s₃
            | .brk => Q .next s₃
            | .ret v => Q (.ret v) s₃) E' s₂ else Q .next s₂) E' s₁) : wpAny (model pw wd) A (exec (.While test body [] pos) env) Q E s := by
  refine wpAny_While (codeAny_whileLoop I (fun k s₁ hk => ?_) n hi)
  refine wpAny_mono (turn k s₁ _ hk) (fun b s₂ h2 => ?_) fun _ _ e => e
  cases b with
  | true => exact h2
  | false => exact wpAny_execs_nil h2
theorem r_goN {x : Str} {px : Pos} {it v : Value} {Q : Unit → Shared → Prop} (h : Q () s) : wpAny (model pw wd) A (letOwnedTupleGo (.Name x px) it v) Q E s := wpAny_pure h
end
section
variable {wd : World} {A : Around} {E : Value → Shared → Prop} {c : Cx} {env : Env} {T : List Str} {vs vs' : List (Option Value)} {l l' : Led} {s : Shared} {d I t : Addr} {xs : List Value} {i : Nat} {v v1 v2 v3 : Value} {x : Str} {a b : Int} {ta tb : Tok}
theorem r_goT {elts : List PySem.Expr} {k} {pos : Pos} {Q : Unit → Shared → Prop} (w : W c env T vs l s) (hI : Has I (IsLi d i) l) (h : Q () s) : wpAny (model pw wd) A (letOwnedTupleGo (.Tuple elts k pos) (.ref I) (.ref t)) Q E s := by
  obtain ⟨o, ho, h1, h2⟩ := w.own.get hI
  exact wpAny_letOwnedTupleGo_listiter ⟨o, ho, h1, h2⟩ h
theorem r_unp {elts : List PySem.Expr} {k} {pos : Pos} {Q : Unit → Shared → Prop} (w : W c env T vs l s) (ht : Has t (IsTu xs) l) (hh : A.handled = none)
    (h : ∀ s', W c env T vs l s' → wpAny (model pw wd) A (assignInOrder ((assignEach elts env).map (·.2)) xs) Q E s')
    (hn : (assignEach elts env).length = xs.length := by rfl) (hstar : (assignEach elts env).findIdx? (·.1) = none := by rfl) : wpAny (model pw wd) A (assign (.Tuple elts k pos) env (.ref t)) Q E s := by
  refine assign_Tuple_tuple hh (tu_at w.own ht) (by rw [hn]; exact List.size_toArray.symm) hstar fun h' he => ?_
  exact h _ (w.keeps (tk := s.toks) fun b o e => he b o (Nat.ne_of_lt (Heap.lt_size e)) e)
theorem r_unp2 {x1 x2 : Str} {p1 p2 : Pos} {k} {pos : Pos} {Q : Unit → Shared → Prop} (w : W c env T vs l s) (ht : Has t (IsTu [v1, v2]) l) (hh : A.handled = none)
    (h : ∀ s', W c env T vs l s' → wpAny (model pw wd) A (assign (.Name x1 p1) env v1) (fun _ s1 => wpAny (model pw wd) A (assign (.Name x2 p2) env v2) Q E s1) E s') : wpAny (model pw wd) A (assign (.Tuple [.Name x1 p1, .Name x2 p2] k pos) env (.ref t)) Q E s :=
  r_unp w ht hh fun s' w' => assignInOrder_cons (wpAny_mono (h s' w') (fun _ s1 h1 => assignInOrder_cons (wpAny_mono h1 (fun _ s2 h2 => assignInOrder_nil h2) fun _ _ e => e)) fun _ _ e => e)
theorem r_unp3 {x1 x2 x3 : Str} {p1 p2 p3 : Pos} {k} {pos : Pos} {Q : Unit → Shared → Prop} (w : W c env T vs l s) (ht : Has t (IsTu [v1, v2, v3]) l) (hh : A.handled = none)
    (h : ∀ s', W c env T vs l s' → wpAny (model pw wd) A (assign (.Name x1 p1) env v1) (fun _ s1 => wpAny (model pw wd) A (assign (.Name x2 p2) env v2) (fun _ s2 => wpAny (model pw wd) A (assign (.Name x3 p3) env v3) Q E s2) E s1) E s') : wpAny (model pw wd) A (assign (.Tuple [.Name x1 p1, .Name x2 p2, .Name x3 p3] k pos) env (.ref t)) Q E s :=
  r_unp w ht hh fun s' w' => assignInOrder_cons (wpAny_mono (h s' w') (fun _ s1 h1 => assignInOrder_cons (wpAny_mono h1 (fun _ s2 h2 => assignInOrder_cons (wpAny_mono h2 (fun _ s3 h3 => assignInOrder_nil h3) fun _ _ e => e)) fun _ _ e => e)) fun _ _ e => e)
theorem r_asTup {elts : List PySem.Expr} {k} {tpos pos : Pos} {value : PySem.Expr} {Q : Flow → Shared → Prop}
    (h : wpAny (model pw wd) A (eval value env) (fun v s₁ => wpAny (model pw wd) A (assign (.Tuple elts k tpos) env v) (fun _ => Q .next) E s₁) E s)
    (hs : swapsWithSole [.Tuple elts k tpos] value pos.line env = pure false := by rfl)
    (hw : swappedStores [.Tuple elts k tpos] value env = pure none := by rfl) : wpAny (model pw wd) A (exec (.Assign [.Tuple elts k tpos] value pos) env) Q E s := PyProof.Rows.Assign_Tuple h hs hw
theorem r_max2 {Q : Value → Shared → Prop} (w : W c env T vs l s) (hh : A.handled = none) (h : ∀ t s', W c env T vs l s' → Q (.int (max a b) t) s') : wpAny (model pw wd) A (call (.builtin "max") [.int a ta, .int b tb]) Q E s := by
  refine max_two_ints hh fun h' tk hk => ?_
  have e : (if b > a then Value.int b tb else Value.int a ta) = Value.int (max a b) (if b > a then tb else ta) := by
    by_cases q : b > a
    · rw [if_pos q, if_pos q, Int.max_eq_right (Int.le_of_lt q)]
    · rw [if_neg q, if_neg q, Int.max_eq_left (Int.not_lt.mp q)]
  rw [e]
  exact h _ _ (w.keeps (tk := tk) hk)
theorem r_sum {val : Nat → Int} {Q : Value → Shared → Prop} (w : W c env T vs l s) (hd : Has d (IsLs xs) l) (hh : A.handled = none) (hv : ∀ (i : Nat) (v : Value), xs[i]? = some v → ∃ t, v = Value.int (val i) t)
    (h : ∀ t s', W c env T vs l s' → Q (.int (preSum val xs.length) t) s') : wpAny (model pw wd) A (call (.builtin "sum") [.ref d]) Q E s := by
  have hl := ls_is w.own hd
  have hds : d < s.heap.objs.size := by obtain ⟨o, ho, _⟩ := hl; exact Heap.lt_size ho
  refine call_sum_walkG (wpAny_pyIter_list hl ?_)
  have hz : xs.toArray.size = xs.length := List.size_toArray
  have W0 := Walks.list (prog := pw) (w := wd) (A := A.in1) hh s.heap.objs.size d (Nat.ne_of_lt hds) xs.toArray
  have W1 : Walks pw wd A.in1 s.heap.objs.size [s.heap.objs.size, d] [s.heap.objs.size] xs.length (fun i v => xs[i]? = some v) (fun i h => h.IsListIter s.heap.objs.size d i ∧ h.IsList d xs.toArray) := by
    rw [hz] at W0
    have e : (fun (i : Nat) (v : Value) => xs.toArray[i]? = some v) = fun i v => xs[i]? = some v := by funext i v; rw [List.getElem?_toArray]
    rw [e] at W0
    exact W0
  refine ⟨_, _, _, _, _, _, val, rfl, W1, ⟨⟨_, Heap.get?_push_size _ rfl, rfl, rfl⟩, hl.push _⟩, fun b hb => ?_, hv, fun h' tk t' hk => h t' _ (w.keeps (tk := tk) fun b o e => ?_)⟩
  · show b < (s.heap.push _).objs.size
    rw [Heap.size_push]
    rcases List.mem_cons.mp hb with rfl | hb
    · exact Nat.lt_succ_self _
    · rw [List.mem_singleton.mp hb]; exact Nat.lt_succ_of_lt hds
  · exact hk b o (fun hm => Nat.ne_of_lt (Heap.lt_size e) (List.mem_singleton.mp hm)) (Heap.get?_push_of_some _ e)
theorem r_augN {op : Operator} {p' pos : Pos} {value : PySem.Expr} {Q : Flow → Shared → Prop} (w : W c env T vs l s) (hx : Lget x v T vs)
    (h : wpAny (model pw wd) A (eval value env) (fun v2 s₂ => wpAny (model pw wd) A (inplaceOp op v v2) (fun r s₃ => wpAny (model pw wd) A (storeName env x r) (fun _ => Q .next) E s₃) E s₂) E s) :
    wpAny (model pw wd) A (exec (.AugAssign (.Name x p') op value pos) env) Q E s := by
  exact wpAny_AugAssign_Name (wpAny_loadName_local w.fx.fn (w.fx.loc x hx.mem) w.fr.ns (hx.loc w.fx.nd) h)
end

theorem sum_count {α : Type _} (a : α) (l : List α) : ∀ {l' : List α}, (∀ f : α → Nat, (l.map f).sum = (l'.map f).sum) → (l.filter fun x => @decide (x = a) (Classical.propDecidable _)).length = (l'.filter fun x => @decide (x = a) (Classical.propDecidable _)).length := by
  have key : ∀ l : List α, (l.map fun x => if @decide (x = a) (Classical.propDecidable _) = true then 1 else 0).sum = (l.filter fun x => @decide (x = a) (Classical.propDecidable _)).length := fun l => by
    induction l with
    | nil => rfl
    | cons x l ih =>
      rw [List.map_cons, List.sum_cons, ih, List.filter_cons]
      split <;> simp [Nat.add_comm]
  intro l' h
  rw [← key, ← key]
  exact h _
theorem perm_cnt {α : Type _} {l l' : List α} (h : ∀ f : α → Nat, (l.map f).sum = (l'.map f).sum) : l.Perm l' := by
  classical
  rw [List.perm_iff_count]
  intro a
  have := sum_count a l h
  rw [List.count_eq_length_filter, List.count_eq_length_filter]
  have e : ∀ l : List α, (l.filter fun x => x == a) = l.filter fun x => @decide (x = a) (Classical.propDecidable _) := fun l => by
    congr 1
  rw [e, e]
  exact this
local macro_rules | `(tactic| wtm_at "pmyff") => `(tactic| (refine perm_cnt fun f => ?_; simp only [List.map_append, List.map_cons, List.map_nil, List.sum_append, List.sum_cons, List.sum_nil, List.cons_append, List.nil_append]; omega))
def FrI (wd : World) (self : Addr) (m : Int) (rs : List Int) (l : Led) : Prop :=
  ∃ (dx dd od : Addr) (tn tm : Tok) (kvs okvs : List (Int × Value)), kvs.map (·.1) = rs ∧ okvs.map (·.1) = rs ∧ (∀ p ∈ kvs, ∃ t, p.2 = .int p.1 t) ∧ l = fifo wd self dx dd od rs.length m tn tm kvs okvs
section
variable {wd : World} {self : Addr} {m r : Int} {rs : List Int} {l : Led} {tr tv : Tok}
theorem va_none {kvs : List (Int × Value)} {k : Int} (h : k ∉ kvs.map (·.1)) : valueAt kvs k = none := valueAt_none_of_not_mem h
theorem FrI.inst (h : FrI wd self m rs l) : ∃ dx us, Has self (IsInst 896 dx) l ∧ Has dx (IsNs T1 us) l := by
  obtain ⟨dx, dd, od, tn, tm, kvs, okvs, _, _, _, rfl⟩ := h
  exact ⟨dx, _, .head, .tail .head⟩
theorem con_free_set (h : FrI wd self m rs l) (hr : r ∉ rs) (hm : (rs.length : Int) + 1 ≤ m) (hz : rs.length ≤ 900) : Spec wd 9 (call (.ref 871) [.ref self, .int r tr, .int r tv]) l (fun _ l' => FrI wd self m (rs ++ [r]) l') := by
  obtain ⟨dx, dd, od, tn, tm, kvs, okvs, e1, e2, e3, rfl⟩ := h
  have hv : valueAt kvs r = none := va_none (by rw [e1]; exact hr)
  have ho : valueAt okvs r = none := va_none (by rw [e2]; exact hr)
  have l1 : kvs.length = rs.length := by rw [← e1, List.length_map]
  have l2 : okvs.length = rs.length := by rw [← e2, List.length_map]
  refine ((con_fifo_set hv ho hm (by omega) (by omega) (by omega)).le (by decide)).mono ?_
  rintro v l' ⟨_, t, rfl⟩
  have s1 := stored_absent hv (.int r tv)
  have s2 := stored_absent ho .none
  rw [s1, s2]
  refine ⟨dx, dd, od, t, tm, kvs ++ [(r, .int r tv)], okvs ++ [(r, .none)], by rw [List.map_append, e1]; rfl, by rw [List.map_append, e2]; rfl, fun p hp => ?_, by rw [List.length_append]; rfl⟩
  rcases List.mem_append.mp hp with hp | hp
  · exact e3 p hp
  · rw [List.mem_singleton.mp hp]; exact ⟨tv, rfl⟩
theorem con_free_len (h : FrI wd self m rs l) (hz : rs.length ≤ 900) : Spec wd 9 (call (.ref 784) [.ref self]) l (fun v l' => (∃ t, v = .int rs.length t) ∧ FrI wd self m rs l') := by
  obtain ⟨dx, dd, od, tn, tm, kvs, okvs, e1, e2, e3, rfl⟩ := h
  have l1 : kvs.length = rs.length := by rw [← e1, List.length_map]
  refine ((con_len_ex (cc_896 wd) (us := [some (.ref dd), some (.int rs.length tn), some (.int m tm), some (.ref od)]) (ex := [(od, IsD wd okvs)]) .here (by omega)).le (by decide)).mono ?_
  rintro v l' ⟨⟨t, rfl⟩, rfl⟩
  exact ⟨⟨t, by rw [l1]⟩, dx, dd, od, tn, tm, kvs, okvs, e1, e2, e3, rfl⟩
theorem con_free_pop (h : FrI wd self m (r :: rs) l) (nd : (r :: rs).Nodup) (hz : rs.length ≤ 800) : Spec wd 9 (call (.ref 886) [.ref self]) l
    (fun v l' => ∃ tp tk tu l'', v = .ref tp ∧ l' = (tp, IsTu [.int r tk, .int r tu]) :: l'' ∧ FrI wd self m rs l'') := by
  obtain ⟨dx, dd, od, tn, tm, kvs, okvs, e1, e2, e3, rfl⟩ := h
  have hr := (List.nodup_cons.mp nd).1
  cases kvs with
  | nil => cases e1
  | cons p kvs =>
    cases okvs with
    | nil => cases e2
    | cons q okvs =>
      obtain ⟨k, v⟩ := p
      obtain ⟨k', v'⟩ := q
      rw [List.map_cons] at e1 e2
      obtain ⟨rfl, f1⟩ := List.cons.inj e1
      obtain ⟨e2', f2⟩ := List.cons.inj e2
      dsimp only at e2' hr
      subst e2'
      obtain ⟨t, ht⟩ := e3 _ (.head _)
      dsimp only at ht
      subst ht
      have l1 : kvs.length = rs.length := by rw [← f1, List.length_map]
      have l2 : okvs.length = rs.length := by rw [← f2, List.length_map]
      refine (con_fifo_pop (k := k') (v := .int k' t) (u := v') rfl valueAt_head (by rw [List.length_cons]; omega) (by rw [List.length_cons]; omega) (by rw [valueAt_head]; rfl)).mono ?_
      rintro v l' ⟨tp, t2, tk, rfl, rfl⟩
      rw [without_head (by rw [f1]; exact hr), without_head (by rw [f2]; exact hr)]
      exact ⟨tp, tk, t, _, rfl, rfl, dx, dd, od, t2, tm, kvs, okvs, f1, f2, fun p hp => e3 p (.tail _ hp), by rw [List.length_cons, show ((rs.length + 1 : Nat) : Int) - 1 = rs.length by omega]⟩
end
def HrB (S : Int) : List HR → List (Int × Int × Int) → Prop
  | [], [] => True
  | h :: hs, b :: bs => h.g = b.1 ∧ (∃ t, h.v = .int b.2.1 t) ∧ h.e = b.2.2 + S ∧ HrB S hs bs
  | _, _ => False
theorem HrB.len {S : Int} : ∀ {hs : List HR} {bs : List (Int × Int × Int)}, HrB S hs bs → hs.length = bs.length
  | [], [], _ => rfl
  | _ :: _, _ :: _, h => by rw [List.length_cons, List.length_cons, HrB.len h.2.2.2]
  | [], _ :: _, h => h.elim
  | _ :: _, [], h => h.elim
theorem HrB.gs {S : Int} : ∀ {hs : List HR} {bs : List (Int × Int × Int)}, HrB S hs bs → hs.map (·.g) = bs.map (·.1)
  | [], [], _ => rfl
  | _ :: _, _ :: _, h => by rw [List.map_cons, List.map_cons, h.1, HrB.gs h.2.2.2]
  | [], _ :: _, h => h.elim
  | _ :: _, [], h => h.elim
theorem HrB.split {S : Int} : ∀ {xs ys : List (Int × Int × Int)} {hs : List HR}, HrB S hs (xs ++ ys) → ∃ h1 h2, hs = h1 ++ h2 ∧ HrB S h1 xs ∧ HrB S h2 ys
  | [], ys, hs, h => ⟨[], hs, rfl, trivial, h⟩
  | x :: xs, ys, [], h => h.elim
  | x :: xs, ys, a :: hs, h => by
    obtain ⟨h1, h2, e, p, q⟩ := HrB.split h.2.2.2
    exact ⟨a :: h1, h2, by rw [e]; rfl, ⟨h.1, h.2.1, h.2.2.1, p⟩, q⟩
theorem HrB.snoc {S : Int} {z : HR} {b : Int × Int × Int} (hz : z.g = b.1 ∧ (∃ t, z.v = .int b.2.1 t) ∧ z.e = b.2.2 + S) : ∀ {hs : List HR} {bs : List (Int × Int × Int)}, HrB S hs bs → HrB S (hs ++ [z]) (bs ++ [b])
  | [], [], _ => ⟨hz.1, hz.2.1, hz.2.2, trivial⟩
  | _ :: _, _ :: _, h => ⟨h.1, h.2.1, h.2.2.1, HrB.snoc hz h.2.2.2⟩
  | [], _ :: _, h => h.elim
  | _ :: _, [], h => h.elim
theorem HrB.due {S h : Int} : ∀ {hs : List HR} {bs : List (Int × Int × Int)}, HrB S hs bs → (∀ b ∈ bs, b.2.2 + S ≤ h) → AllDue h hs
  | [], [], _, _ => fun x hx => by cases hx
  | a :: hs, b :: bs, p, q => fun x hx => by
    rcases List.mem_cons.mp hx with rfl | hx
    · rw [p.2.2.1]; exact q b (.head _)
    · exact HrB.due p.2.2.2 (fun b hb => q b (.tail _ hb)) x hx
  | [], _ :: _, h, _ => h.elim
  | _ :: _, [], h, _ => h.elim
theorem HrB.none {S h : Int} : ∀ {hs : List HR} {bs : List (Int × Int × Int)}, HrB S hs bs → (∀ b ∈ bs, h < b.2.2 + S) → NoneDue h hs
  | [], [], _, _ => trivial
  | a :: hs, b :: bs, p, q => by show h < a.e; rw [p.2.2.1]; exact q b (.head _)
  | [], _ :: _, h, _ => h.elim
  | _ :: _, [], h, _ => h.elim
def HoI (wd : World) (H : HA) (bs : List (Int × Int × Int)) (l : Led) : Prop :=
  ∃ (hs : List HR) (st : Addr → TLk) (tn ti : Tok) (u : Option Value), HInv H.root st hs ∧ HrB H.S hs bs ∧ l = houseH wd H hs.length tn 0 ti u (hkv hs) (hlv hs) ++ ringOf tls (H.root :: hs.map (·.a)) st
inductive Tp2 : List (Int × Int × Int) → List Value → Led → Prop
  | nil : Tp2 [] [] []
  | cons {b : Int × Int × Int} {tp : Addr} {t1 t2 : Tok} {bs ys lp} : Tp2 bs ys lp → Tp2 (b :: bs) (.ref tp :: ys) ((tp, IsTu [.int b.1 t1, .int b.2.1 t2]) :: lp)
theorem Tp2.of {S : Int} : ∀ {hs : List HR} {bs : List (Int × Int × Int)} {tps : List Addr}, HrB S hs bs → tps.length = hs.length → Tp2 bs (tps.map .ref) (tupL tps hs)
  | [], [], [], _, _ => .nil
  | a :: hs, b :: bs, tp :: tps, p, e => by
    obtain ⟨e1, ⟨t, e2⟩, _, p'⟩ := p
    have := Tp2.of p' (Nat.succ.inj e)
    unfold tupL
    rw [List.zip_cons_cons, List.map_cons, List.map_cons]
    dsimp only
    rw [e1, e2]
    exact .cons this
  | [], [], _ :: _, _, e => by cases e
  | _ :: _, _, [], _, e => by cases e
  | [], _ :: _, _, h, _ => h.elim
  | _ :: _, [], _, h, _ => h.elim
section
variable {wd : World} {H : HA} {h : Int} {th : Tok} {l cx : Led} {fd : FuncData} {bs : List (Int × Int × Int)}
theorem Spec.to {wd : World} {n : Nat} {t : Sem Value} {fp fp' : Led} {post post' : Value → Led → Prop} (h : Spec wd n t fp post) (e : fp'.Perm fp) (k : ∀ v l, post v l → ∃ l', l.Perm l' ∧ post' v l') : Spec wd n t fp' post' :=
  fun c A s bo rm bel o Q E hq => h c A s bo rm bel (o.perm e) Q E fun v l s' hp o' => let ⟨l', p, hp'⟩ := k v l hp; hq v l' s' hp' (o'.perm p)
theorem HoI.inst (h : HoI wd H bs l) : ∃ dx us, Has H.self (IsInst 1404 dx) l ∧ Has dx (IsNs T5 us) l := by
  obtain ⟨hs, st, tn, ti, u, _, _, rfl⟩ := h
  exact ⟨H.dx, _, .head, .tail .head⟩
theorem con_ho_expire {xs ys : List (Int × Int × Int)} (I : HoI wd H (xs ++ ys) l) (hx : ∀ b ∈ xs, b.2.2 + H.S ≤ h) (hy : ∀ b ∈ ys, h < b.2.2 + H.S) (hz : (xs ++ ys).length ≤ 900) (hf : Has H.f (IsFnObj fd) cx) (hsp : Spec wd 5 (call (.ref H.f) []) cx (fun r l => r = .int h th ∧ l = cx)) :
    Spec wd 9 (call (.ref 1387) [.ref H.self]) (l ++ cx) (fun r l' => ∃ ls vs lp l'', r = .ref ls ∧ Tp2 xs vs lp ∧ HoI wd H ys l'' ∧ l' = (ls, IsLs vs) :: (lp ++ (l'' ++ cx))) := by
  obtain ⟨hs, st, tn, ti, u, I, hb, rfl⟩ := I
  obtain ⟨h1, h2, rfl, b1, b2⟩ := hb.split
  have hz' : (h1 ++ h2).length ≤ 900 := by rw [List.length_append, b1.len, b2.len, ← List.length_append]; exact hz
  refine (con_expire (n := ((h1 ++ h2).length : Int)) (tn := tn) (ti := ti) (u := u) I (b1.due hx) (b2.none hy) hz' hf hsp).to (.of_eq (List.append_assoc ..)) ?_
  rintro v l' ⟨ls, tps, st', t, e, rfl, I', rfl⟩
  refine ⟨_, ?_, ls, tps.map .ref, tupL tps h1, _, rfl, Tp2.of b1 e, ⟨h2, st', t, ti, u, I', b2, rfl⟩, rfl⟩
  rw [show ((h1 ++ h2).length : Int) - h1.length = h2.length by rw [List.length_append]; omega]
  wtm_at "pmyff"
theorem con_ho_set {g r : Int} {tg tr : Tok} {xs : List (Int × Int × Int)} (I : HoI wd H xs l) (hy : ∀ b ∈ xs, h < b.2.2 + H.S) (hg : g ∉ xs.map (·.1)) (h1 : (xs.length : Int) + 1 ≤ H.m) (hz : xs.length ≤ 900) (hf : Has H.f (IsFnObj fd) cx) (hsp : Spec wd 5 (call (.ref H.f) []) cx (fun r l => r = .int h th ∧ l = cx)) :
    Spec wd 9 (call (.ref 1349) [.ref H.self, .int g tg, .int r tr]) (l ++ cx) (fun _ l' => ∃ l'', HoI wd H (xs ++ [(g, r, h)]) l'' ∧ l' = l'' ++ cx) := by
  obtain ⟨hs, st, tn, ti, u, I, hb, rfl⟩ := I
  have hl := hb.len
  refine (con_house_set (n := (hs.length : Int)) (tn := tn) (ti := ti) (u := u) (tg := tg) (v := .int r tr) I (hb.none hy) (by rw [hb.gs]; exact hg) (by omega) (by omega) (by omega) hf hsp).to (.of_eq (List.append_assoc ..)) ?_
  rintro v l' ⟨rfl, st', t, t', x, te, I', rfl⟩
  refine ⟨_, .refl _, _, ⟨_, st', t, t', some (.int h th), I', hb.snoc (b := (g, r, h)) ⟨rfl, ⟨tr, rfl⟩, rfl⟩, rfl⟩, ?_⟩
  rw [List.append_assoc, List.length_append]
  rfl
end

theorem loc_map {f : Str → Option Value} {y : Str} : ∀ {T : List Str}, loc T (T.map f) y = if y ∈ T then f y else none
  | [] => rfl
  | x :: T => by
    show (if y = x then f x else loc T (T.map f) y) = _
    rw [loc_map]
    by_cases h : y = x
    · subst h; rw [if_pos rfl, if_pos (.head _)]
    · rw [if_neg h]
      by_cases h2 : y ∈ T
      · rw [if_pos h2, if_pos (.tail _ h2)]
      · rw [if_neg h2, if_neg (fun m => by rcases List.mem_cons.mp m with e | e; exact h e; exact h2 e)]
abbrev Tl : List Str := ["guest", "turn", "comes", "line", "waiting", "asks", "other", "free", "house", "begun", "left", "until", "draw", "room", "due", "came", "count", "rooms", "kind", "pick", "script", "clock"]
theorem fn_1430 (wd : World) : FnC wd 1430 (fdOf (o_1430 wd.params)) (fnBody (fAt [47])) Tl := ⟨⟨o_1430 wd.params, by kernel_rfl, rfl⟩, rfl, by kernel_rfl⟩
theorem bd_1430 (wd : World) (v0 : Value) (s : Shared) : BindsTo s (fdOf (o_1430 wd.params)) ⟨[v0], []⟩ [("script", v0)] := BindsTo.of_eq (by kernel_rfl)
theorem cl_1430 (wd : World) (n : Nat) : cellsFrom n (fdOf (o_1430 wd.params)).scope.names [] = ([("hour", n + 2), ("stay", n + 1), ("numbers", n)] : List (Str × Addr)) := by kernel_rfl
theorem loc_1430 (wd : World) (v0 : Value) (L : Addr) : bindL (callEnvC (fdOf (o_1430 wd.params)) L 1430).kindOf [("script", v0)] (fun _ => none) = loc Tl [none, none, none, none, none, none, none, none, none, none, none, none, none, none, none, none, none, none, none, none, some v0, none] := by
  have e : bindL (callEnvC (fdOf (o_1430 wd.params)) L 1430).kindOf [("script", v0)] (fun _ => none) = fun y => if y = ("script" : Str) then some v0 else none := by kernel_rfl
  rw [e]
  have e2 : [none, none, none, none, none, none, none, none, none, none, none, none, none, none, none, none, none, none, none, none, some v0, none] = Tl.map fun y => if y = ("script" : Str) then some v0 else none := by
    simp only [List.map_cons, List.map_nil]
    repeat first
      | rfl
      | rw [if_neg (by decide)]
      | rw [if_pos rfl]
  rw [e2]
  funext y
  rw [loc_map]
  by_cases h : y = ("script" : Str)
  · subst h; rw [if_pos rfl, if_pos (by decide)]
  · rw [if_neg h]; split <;> first | rfl | rw [if_neg h]
theorem cells_1430 (wd : World) (v0 : Value) (L : Addr) : ([("hour", L + 1 + 2), ("stay", L + 1 + 1), ("numbers", L + 1)] : List (Str × Addr)).map (fun p => (p.2, IsCl (bindC (callEnvC (fdOf (o_1430 wd.params)) L 1430).kindOf [("script", v0)] (fun _ => none) p.1))) = [(L + 1 + 2, IsCl none), (L + 1 + 1, IsCl none), (L + 1, IsCl none)] := by
  have e1 : bindC (callEnvC (fdOf (o_1430 wd.params)) L 1430).kindOf [("script", v0)] (fun _ => none) "numbers" = none := by kernel_rfl
  have e2 : bindC (callEnvC (fdOf (o_1430 wd.params)) L 1430).kindOf [("script", v0)] (fun _ => none) "stay" = none := by kernel_rfl
  have e3 : bindC (callEnvC (fdOf (o_1430 wd.params)) L 1430).kindOf [("script", v0)] (fun _ => none) "hour" = none := by kernel_rfl
  rw [List.map_cons, List.map_cons, List.map_cons, List.map_nil, e3, e2, e1]
def loopBody : Stmt → List Stmt
  | .For _ _ b _ _ => b
  | .While _ b _ _ => b
  | _ => []
abbrev lawB : List Stmt := fnBody (fAt [47])
abbrev turnB : List Stmt := loopBody (nth lawB 18)
abbrev lawE (wd : World) (L : Addr) : Env := callEnvC (fdOf (o_1430 wd.params)) L 1430
theorem qq_1430 (wd : World) (L : Addr) : qualnameIn (lawE wd L) "clock" "clock" = "law.<locals>.clock" := by kernel_rfl

abbrev cAt (cs : List Int) (h : Nat) : Int := cs.getD h 0
structure WsOk (cs : List Int) (bgs : List Int) (ws : List Wt) (N : Int) (a : Nat) : Prop where
  ok : Ok ws
  lt : ∀ w ∈ ws, 0 ≤ w.g ∧ w.g < a ∧ w.came = cAt cs w.g.toNat
  last : ∀ w ∈ ws, w.last < N
  nd : (ws.map (·.last)).Nodup
  cnt : ws.length + bgs.length = a
  bg : ∀ g ∈ bgs, g < a
  dj : ∀ w ∈ ws, w.g ∉ bgs
theorem WsOk.push {cs bgs : List Int} {ws : List Wt} {N : Int} {a : Nat} (h : WsOk cs bgs ws N a) (ha : a < 60) : WsOk cs bgs (ws ++ [⟨a, cAt cs a, 0, N⟩]) (N + 1) (a + 1) := by
  have hc := h.cnt
  refine ⟨⟨?_, ?_⟩, fun w hw => ?_, fun w hw => ?_, ?_, ?_, fun g hg => ?_, fun w hw => ?_⟩
  · unfold Gs
    rw [List.map_append, List.pairwise_append]
    refine ⟨h.ok.inc, List.pairwise_singleton _ _, fun x hx y hy => ?_⟩
    obtain ⟨w, hw, rfl⟩ := List.mem_map.mp hx
    rw [List.map_cons, List.map_nil, List.mem_singleton] at hy
    rw [hy]
    exact (h.lt w hw).2.1
  · rw [List.length_append, List.length_singleton]; omega
  · rcases List.mem_append.mp hw with hw | hw
    · have := h.lt w hw
      exact ⟨this.1, by have := this.2.1; omega, this.2.2⟩
    · rw [List.mem_singleton.mp hw]
      exact ⟨Int.natCast_nonneg _, by show (a : Int) < _; omega, by show cAt cs a = cAt cs (a : Int).toNat; rw [Int.toNat_natCast]⟩
  · rcases List.mem_append.mp hw with hw | hw
    · have := h.last w hw; omega
    · rw [List.mem_singleton.mp hw]; show N < N + 1; omega
  · rw [List.map_append, List.nodup_append]
    refine ⟨h.nd, List.nodup_cons.mpr ⟨List.not_mem_nil, List.nodup_nil⟩, fun x hx y hy => ?_⟩
    obtain ⟨w, hw, rfl⟩ := List.mem_map.mp hx
    rw [List.map_cons, List.map_nil, List.mem_singleton] at hy
    rw [hy]
    have := h.last w hw
    exact Int.ne_of_lt this
  · rw [List.length_append, List.length_singleton]; omega
  · have := h.bg g hg; omega
  · rcases List.mem_append.mp hw with hw | hw
    · exact h.dj w hw
    · rw [List.mem_singleton.mp hw]
      intro hm
      have := h.bg _ hm
      exact Int.lt_irrefl _ this
theorem mem_tch {ws : List Wt} {g N : Int} {u : Wt} (hu : u ∈ tch ws g N) : ∃ w ∈ ws, u.g = w.g ∧ u.came = w.came ∧ ((w.g = g ∧ u.last = N) ∨ (w.g ≠ g ∧ u.last = w.last)) := by
  obtain ⟨w, hw, rfl⟩ := List.mem_map.mp hu
  refine ⟨w, hw, tch1_g.1, tch1_g.2, ?_⟩
  unfold tch1
  by_cases e : w.g = g
  · rw [if_pos e]; exact .inl ⟨e, rfl⟩
  · rw [if_neg e]; exact .inr ⟨e, rfl⟩
theorem lasts_tch {ws : List Wt} {g N : Int} (nd : (Gs ws).Nodup) (hN : ∀ w ∈ ws, w.last < N) (h : (ws.map (·.last)).Nodup) : ((tch ws g N).map (·.last)).Nodup := by
  induction ws with
  | nil => exact List.nodup_nil
  | cons w ws ih =>
    have nd' := gs_nd nd
    have h' := List.nodup_cons.mp h
    rw [tch_cons, List.map_cons, List.nodup_cons]
    refine ⟨fun hm => ?_, ih nd'.2 (fun u hu => hN u (.tail _ hu)) h'.2⟩
    obtain ⟨u, hu, e⟩ := List.mem_map.mp hm
    by_cases q : w.g = g
    · rw [tch_notin fun u hu => by rw [← q]; exact nd'.1 u hu] at hu
      have : u.last = N := by rw [e]; unfold tch1; rw [if_pos q]
      have := hN u (.tail _ hu)
      omega
    · have e2 : (tch1 g N w).last = w.last := by unfold tch1; rw [if_neg q]
      rw [e2] at e
      obtain ⟨v, hv, _, _, h3⟩ := mem_tch hu
      rcases h3 with ⟨_, h3⟩ | ⟨_, h3⟩
      · have := hN w (.head _); omega
      · exact h'.1 (List.mem_map.mpr ⟨v, hv, by rw [← h3, e]⟩)
theorem WsOk.touch {cs bgs : List Int} {ws : List Wt} {N g : Int} {a : Nat} (h : WsOk cs bgs ws N a) : WsOk cs bgs (tch ws g N) (N + 1) a := by
  refine ⟨⟨by rw [Gs_tch]; exact h.ok.inc, by unfold tch; rw [List.length_map]; exact h.ok.len⟩, fun u hu => ?_, fun u hu => ?_, lasts_tch h.ok.nd h.last h.nd, by unfold tch; rw [List.length_map]; exact h.cnt, h.bg, fun u hu => ?_⟩
  · obtain ⟨w, hw, e1, e2, _⟩ := mem_tch hu
    rw [e1, e2]; exact h.lt w hw
  · obtain ⟨w, hw, _, _, e⟩ := mem_tch hu
    have := h.last w hw
    rcases e with ⟨_, e⟩ | ⟨_, e⟩ <;> omega
  · obtain ⟨w, hw, e1, _⟩ := mem_tch hu
    rw [e1]; exact h.dj w hw
theorem WsOk.take {cs bgs : List Int} {ws : List Wt} {N : Int} {a : Nat} {w : Wt} (h : WsOk cs bgs ws N a) (hw : w ∈ ws) : WsOk cs (bgs ++ [w.g]) (rem ws w.g) N a := by
  have sub : ∀ u ∈ rem ws w.g, u ∈ ws ∧ u.g ≠ w.g := fun u hu => by
    have := List.mem_filter.mp hu
    exact ⟨this.1, of_decide_eq_true this.2⟩
  have hl := rem_len h.ok.nd hw
  have hc := h.cnt
  refine ⟨⟨h.ok.inc.sublist ((List.filter_sublist).map _), by have := h.ok.len; omega⟩, fun u hu => h.lt u (sub u hu).1, fun u hu => h.last u (sub u hu).1, h.nd.sublist ((List.filter_sublist).map _), by rw [List.length_append, List.length_singleton]; omega, fun g hg => ?_, fun u hu hm => ?_⟩
  · rcases List.mem_append.mp hg with hg | hg
    · exact h.bg g hg
    · rw [List.mem_singleton.mp hg]; exact (h.lt w hw).2.1
  · rcases List.mem_append.mp hm with hm | hm
    · exact h.dj u (sub u hu).1 hm
    · exact (sub u hu).2 (List.mem_singleton.mp hm)
structure Arr (cs : List Int) (t : Int) (g a : Nat) : Prop where
  le : a ≤ cs.length
  lo : ∀ h < a, cAt cs h ≤ t ∧ (g ≤ h → cAt cs h < t)
  hi : ∀ h, a ≤ h → h < cs.length → t ≤ cAt cs h ∧ (h < g → t < cAt cs h)
def MonoC (cs : List Int) : Prop := ∀ i j, i ≤ j → j < cs.length → cAt cs i ≤ cAt cs j
theorem Arr.same {cs : List Int} {t : Int} {g a : Nat} (h : Arr cs t g a) (hg : g < cs.length) (m : MonoC cs) (e : cAt cs g = t) : a = g := by
  rcases Nat.lt_trichotomy a g with q | q | q
  · have := (h.hi a (Nat.le_refl _) (by omega)).2 q
    have := m a g (by omega) hg
    omega
  · exact q
  · have := (h.lo g q).2 (Nat.le_refl _)
    omega
theorem Arr.come {cs : List Int} {t : Int} {g : Nat} (h : Arr cs t g g) (hg : g < cs.length) (m : MonoC cs) (e : cAt cs g = t) : Arr cs t (g + 1) (g + 1) := by
  refine ⟨by omega, fun k hk => ⟨?_, fun q => by omega⟩, fun k h1 h2 => ⟨?_, fun q => by omega⟩⟩
  · have := m k g (by omega) hg; omega
  · have := m g k (by omega) h2; omega
theorem Arr.skip {cs : List Int} {t : Int} {g a : Nat} (h : Arr cs t g a) (e : cAt cs g ≠ t) : Arr cs t (g + 1) a := by
  refine ⟨h.le, fun k hk => ⟨(h.lo k hk).1, fun q => (h.lo k hk).2 (by omega)⟩, fun k h1 h2 => ⟨(h.hi k h1 h2).1, fun q => ?_⟩⟩
  by_cases z : k = g
  · subst z
    have := (h.hi k h1 h2).1
    omega
  · exact (h.hi k h1 h2).2 (by omega)
theorem Arr.next {cs : List Int} {t : Int} {a : Nat} (h : Arr cs t cs.length a) : Arr cs (t + 1) 0 a := by
  refine ⟨h.le, fun k hk => ⟨?_, fun _ => ?_⟩, fun k h1 h2 => ⟨?_, fun q => by omega⟩⟩
  · have := (h.lo k hk).1; omega
  · have := (h.lo k hk).1; omega
  · have := (h.hi k h1 h2).2 h2; omega
theorem KW.none {ws wvs lt} {g : Int} (h : KW ws wvs lt) (hg : g ∉ Gs ws) : valueAt wvs g = none := valueAt_none_of_not_mem (by rw [h.keys]; exact hg)
theorem KW.snoc {ws wvs lt} {w : Wt} {tp : Addr} {ta tl : Tok} (h : KW ws wvs lt) : KW (ws ++ [w]) (wvs ++ [(w.g, .ref tp)]) (lt ++ [(tp, IsTu [.int w.asks ta, .int w.last tl])]) := by
  induction h with
  | nil => exact .cons .nil
  | cons h ih => exact .cons ih
theorem stored_cons_ne {k g : Int} {v0 v : Value} {r : List (Int × Value)} (h : k ≠ g) : stored ((k, v0) :: r) g v = (k, v0) :: stored r g v := by
  rw [stored_eq, stored_eq, List.map_cons]
  by_cases q : g ∈ r.map (·.1)
  · rw [if_pos (.tail _ q), if_pos q, List.map_cons, if_neg h]
  · rw [if_neg q, if_neg (fun m => by rcases List.mem_cons.mp m with e | e; exact h e.symm; exact q e)]
    rfl
theorem stored_cons_eq {k : Int} {v0 v : Value} {r : List (Int × Value)} (h : k ∉ r.map (·.1)) : stored ((k, v0) :: r) k v = (k, v) :: r := by
  rw [stored_eq, List.map_cons, if_pos (.head _), List.map_cons, if_pos rfl]
  congr 1
  refine (List.map_congr_left fun p hp => ?_).trans (List.map_id _)
  rw [if_neg fun e => h (List.mem_map.mpr ⟨p, hp, e⟩)]; rfl
theorem KW.touch {ws wvs lt} (h : KW ws wvs lt) (nd : (Gs ws).Nodup) : ∀ {w : Wt}, w ∈ ws → ∃ (tp : Addr) (ta tl : Tok) (l1 : Led), valueAt wvs w.g = some (.ref tp) ∧ lt.Perm ((tp, IsTu [.int w.asks ta, .int w.last tl]) :: l1) ∧
    ∀ (N : Int) (tp' : Addr) (t1 t2 : Tok), ∃ l2 : Led, l2.Perm ((tp', IsTu [.int (w.asks + 1) t1, .int N t2]) :: l1) ∧ KW (tch ws w.g N) (stored wvs w.g (.ref tp')) l2 := by
  induction h with
  | nil => intro w hw; cases hw
  | cons h ih =>
    rename_i w0 tp ta tl ws wvs lt
    have nd' := gs_nd nd
    intro w hw
    rcases List.mem_cons.mp hw with rfl | hw
    · refine ⟨tp, ta, tl, lt, valueAt_head, .refl _, fun N tp' t1 t2 => ⟨_, .refl _, ?_⟩⟩
      rw [stored_cons_eq (by rw [h.keys]; exact (List.nodup_cons.mp nd).1), tch_cons, tch_notin nd'.1]
      have : tch1 w.g N w = { w with asks := w.asks + 1, last := N } := by unfold tch1; rw [if_pos rfl]
      rw [this]
      exact KW.cons (w := { w with asks := w.asks + 1, last := N }) h
    · obtain ⟨tp1, ta1, tl1, l1, e1, e2, e3⟩ := ih nd'.2 hw
      have hne : w0.g ≠ w.g := (nd'.1 w hw).symm
      refine ⟨tp1, ta1, tl1, (tp, _) :: l1, by rw [va_cons, if_neg hne]; exact e1, (e2.cons _).trans (.swap _ _ _), fun N tp' t1 t2 => ?_⟩
      obtain ⟨l2, p2, k2⟩ := e3 N tp' t1 t2
      refine ⟨_, (p2.cons _).trans (.swap _ _ _), ?_⟩
      rw [stored_cons_ne hne, tch_cons]
      have : tch1 w.g N w0 = w0 := by unfold tch1; rw [if_neg hne]
      rw [this]
      exact .cons k2
theorem KW.take {ws wvs lt} (h : KW ws wvs lt) (nd : (Gs ws).Nodup) : ∀ {w : Wt}, w ∈ ws → ∃ (tp : Addr) (P : Obj → Prop) (l1 : Led), valueAt wvs w.g = some (.ref tp) ∧ lt.Perm ((tp, P) :: l1) ∧ KW (rem ws w.g) (without wvs w.g) l1 := by
  induction h with
  | nil => intro w hw; cases hw
  | cons h ih =>
    rename_i w0 tp ta tl ws wvs lt
    have nd' := gs_nd nd
    intro w hw
    rcases List.mem_cons.mp hw with rfl | hw
    · refine ⟨tp, _, lt, valueAt_head, .refl _, ?_⟩
      rw [without_head (by rw [h.keys]; exact (List.nodup_cons.mp nd).1), rem_head nd]
      exact h
    · obtain ⟨tp1, P, l1, e1, e2, e3⟩ := ih nd'.2 hw
      have hne : w0.g ≠ w.g := (nd'.1 w hw).symm
      refine ⟨tp1, P, (tp, _) :: l1, by rw [va_cons, if_neg hne]; exact e1, (e2.cons _).trans (.swap _ _ _), ?_⟩
      rw [rem_cons_ne hne]
      have : without ((w0.g, .ref tp) :: wvs) w.g = (w0.g, .ref tp) :: without wvs w.g := by unfold without; rw [List.filter_cons_of_pos (by simpa using hne)]
      rw [this]
      exact .cons e3

local macro_rules | `(tactic| wtm_at "pmyfi") => `(tactic| (refine perm_cnt fun f => ?_; simp only [List.map_append, List.map_cons, List.map_nil, List.sum_append, List.sum_cons, List.sum_nil, List.cons_append, List.nil_append]; omega))
local macro_rules | `(tactic| wtm_at "myfi") => `(tactic| first
  | wtm_at "sxf6"
  | ((with_reducible show wpAny _ _ (call (Value.builtin "len") _) _ _ _); (first | refine r_llen ‹W _ _ _ _ _ _› (by wtm_at "hxf6") (by omega) ?_ | refine r_dlen ‹W _ _ _ _ _ _› ‹BaseOk _ _› (by wtm_at "hxf6") (by omega) ?_); intro _ _ _)
  | ((with_reducible show wpAny _ _ (callWith _ (Value.type _) [] (backTo _ (starEach (_ :: _) _)) []) _ _ _); refine PyProof.Rows.callWith_type1 ?_)
  | ((with_reducible show wpAny _ _ (call (Value.type "range") _) _ _ _); refine r_range ‹W _ _ _ _ _ _› ?_; intro _ _ _)
  | ((with_reducible show wpAny _ _ (exec (Stmt.AugAssign (PySem.Expr.Name _ _) _ _ _) _) _ _ _); refine r_augN ‹W _ _ _ _ _ _› (by wtm_at "gxf6") ?_))
section
variable {wd : World} {x : Addr} {m : Int} {dl : Addr} {Due : List Wt → Int → Wt → Prop} (K : LineI wd x m dl Due)
abbrev LineI.xI : List Wt → Led → Prop := @LineI.I wd x m dl Due K
abbrev LineI.xC : Addr := @LineI.C wd x m dl Due K
abbrev LineI.xT : List Str := @LineI.T wd x m dl Due K
abbrev LineI.xfset : Addr := @LineI.fset wd x m dl Due K
abbrev LineI.xfpop : Addr := @LineI.fpop wd x m dl Due K
theorem LineI.xcc : Cc wd K.xC K.xT := @LineI.cc wd x m dl Due K
theorem LineI.xmset : Mt wd K.xC "__setitem__" K.xfset := @LineI.mset wd x m dl Due K
theorem LineI.xmlen : Mt wd K.xC "__len__" 784 := @LineI.mlen wd x m dl Due K
theorem LineI.xmget : Mt wd K.xC "get" 792 := @LineI.mget wd x m dl Due K
theorem LineI.xmpop : Mt wd K.xC "popitem" K.xfpop := @LineI.mpop wd x m dl Due K
theorem LineI.xnget : ("get" : Str) ∉ K.xT := @LineI.nget wd x m dl Due K
theorem LineI.xnpop : ("popitem" : Str) ∉ K.xT := @LineI.npop wd x m dl Due K
theorem LineI.xinst : ∀ ws l, K.xI ws l → ∃ dx us, Has x (IsInst K.xC dx) l ∧ Has dx (IsNs K.xT us) l := @LineI.inst wd x m dl Due K
theorem LineI.xset : ∀ ws l g tg came tc N, K.xI ws l → Ok ws → g ∉ Gs ws → (∀ w ∈ ws, w.last < N) → (ws.length : Int) + 1 ≤ m → 1 ≤ m → Spec wd 9 (call (.ref K.xfset) [.ref x, .int g tg, .int came tc]) l (fun r l' => K.xI (ws ++ [⟨g, came, 0, N⟩]) l') := @LineI.set wd x m dl Due K
theorem LineI.xlen : ∀ ws l, K.xI ws l → Ok ws → Spec wd 9 (call (.ref 784) [.ref x]) l (fun r l' => (∃ t, r = .int ws.length t) ∧ K.xI ws l') := @LineI.len wd x m dl Due K
theorem LineI.xmiss : ∀ ws l g tg d, K.xI ws l → Ok ws → g ∉ Gs ws → Spec wd 11 (call (.ref 792) [.ref x, .int g tg, d]) l (fun r l' => r = d ∧ K.xI ws l') := @LineI.miss wd x m dl Due K
theorem LineI.xhit : ∀ ws l w N tg d, K.xI ws l → Ok ws → w ∈ ws → (∀ u ∈ ws, u.last < N) → Spec wd 11 (call (.ref 792) [.ref x, .int w.g tg, d]) l (fun r l' => (∃ t, r = .int w.came t) ∧ K.xI (tch ws w.g N) l') := @LineI.hit wd x m dl Due K
theorem LineI.xpop : ∀ ws l d0 td, K.xI ws l → Ok ws → ws ≠ [] → ∀ {A : Around} {c : Cx} {env : Env} {T : List Str} {vs : List (Option Value)} {rest : Led} {s : Shared} {Q E : Value → Shared → Prop},
    W c env T vs (l ++ ((dl, IsLs [.int d0 td]) :: rest)) s → BaseOk wd c.B → Rm 11 A → Stk A c env →
    (∀ tp tk tc w l'' s', w ∈ ws → Due ws d0 w → K.xI (rem ws w.g) l'' → W c env T vs ((tp, IsTu [.int w.g tk, .int w.came tc]) :: (l'' ++ ((dl, IsLs [.int d0 td]) :: rest))) s' → Q (.ref tp) s') → wpAny (model pw wd) A (call (.ref K.xfpop) [.ref x]) Q E s := @LineI.pop wd x m dl Due K
end
local macro_rules | `(tactic| wtm_at "miyfi") => `(tactic| ((fail_if_success (with_reducible show wpAny _ _ (execs (Stmt.If _ _ _ _ :: _) _) _ _ _)); wtm_at "myfi"))
def ifB : Stmt → List Stmt
  | .If _ b _ _ => b
  | _ => []
abbrev askB : List Stmt := (ifB (nth (loopBody (nth turnB 2)) 0)).drop 4
section
variable {wd : World} {A : Around} {E : Value → Shared → Prop} {c : Cx} {L nl cl wl self dl : Addr} {nvs cvs : List Value} {ns cs bgs : List Int} {m t : Int} {tt : Tok} {vr : List (Option Value)} {rest : Led} {Due : List Wt → Int → Wt → Prop}
theorem to_ask {env : Env} {T : List Str} {vs : List (Option Value)} {d I : Addr} {P : Obj → Prop} {a came N : Int} {t0 tn : Tok} {x1 x2 x3 : Addr × (Obj → Prop)} {ws : List Wt} {wvs : List (Int × Value)} {wt li : Led} {s : Shared}
    (w : W c env T vs ((d, IsTu [.int 0 t0, .int N tn]) :: (I, P) :: x1 :: x2 :: x3 :: (wl, IsD wd (stored wvs a (.ref d))) :: (wt ++ (li ++ rest))) s) (kw : KW ws wvs wt) (h : a ∉ Gs ws) :
    ∃ wvs1 wt1, KW (ws ++ [⟨a, came, 0, N⟩]) wvs1 wt1 ∧ W c env T vs (x1 :: x2 :: x3 :: (wl, IsD wd wvs1) :: (wt1 ++ (li ++ ((I, P) :: rest)))) s := by
  refine ⟨_, _, kw.snoc (w := ⟨a, came, 0, N⟩) (tp := d) (ta := t0) (tl := tn), ?_⟩
  rw [stored_absent (kw.none h)] at w
  exact w.perm (by wtm_at "pmyfi")
theorem ask_end {env : Env} {T : List Str} {vs : List (Option Value)} {d tp : Addr} {P : Obj → Prop} {N : Int} {t0 tn : Tok} {x1 x2 x3 : Addr × (Obj → Prop)} {ws : List Wt} {u : Wt} {wvs : List (Int × Value)} {l1 li : Led} {s : Shared}
    (w : W c env T vs ((d, IsTu [.int (u.asks + 1) t0, .int N tn]) :: x1 :: x2 :: x3 :: (wl, IsD wd (stored wvs u.g (.ref d))) :: (tp, P) :: (l1 ++ (li ++ rest))) s)
    (hk : ∀ (N : Int) (tp' : Addr) (t1 t2 : Tok), ∃ l2 : Led, l2.Perm ((tp', IsTu [.int (u.asks + 1) t1, .int N t2]) :: l1) ∧ KW (tch ws u.g N) (stored wvs u.g (.ref tp')) l2) :
    ∃ wvs1 wt1, KW (tch ws u.g N) wvs1 wt1 ∧ W c env T vs (x1 :: x2 :: x3 :: (wl, IsD wd wvs1) :: (wt1 ++ (li ++ rest))) s := by
  obtain ⟨l2, p, k⟩ := hk N d t0 tn
  refine ⟨_, l2, k, ?_⟩
  have w2 : W c env T vs ((d, IsTu [.int (u.asks + 1) t0, .int N tn]) :: x1 :: x2 :: x3 :: (wl, IsD wd (stored wvs u.g (.ref d))) :: (l1 ++ (li ++ rest))) s := w.sub (.cons_cons _ (.cons_cons _ (.cons_cons _ (.cons_cons _ (.cons_cons _ (.cons _ (.refl _)))))))
  refine w2.perm (.trans ?_ ((p.symm.append_right (li ++ rest)).cons _ |>.cons _ |>.cons _ |>.cons _))
  wtm_at "pmyfi"
set_option maxHeartbeats 8000000 in
theorem arrAsk {vg : Option Value} {o : Int} {to : Tok} {ws : List Wt} {N : Int} {tn : Tok} {a : Nat} {wvs : List (Int × Value)} {wt li : Led} {s : Shared} {Q : Flow → Shared → Prop} (LI : LineI wd self m dl Due) (hI : IntsAre nvs ns) (hC : IntsAre cvs cs) (hlen : cs.length = ns.length) (h6 : ns.length ≤ 6)
    (bo : BaseOk wd c.B) (rm : Rm 12 A) (sk : Stk A c (lawE wd L)) (o0 : 0 ≤ o) (o1 : o < cs.length) (ok : WsOk cs bgs ws N a) (kw : KW ws wvs wt) (il : LI.xI ws li)
    (w : W c (lawE wd L) Tl (vg :: some (.int t tt) :: some (.ref cl) :: some (.ref self) :: some (.ref wl) :: some (.int N tn) :: some (.int o to) :: vr) ((L + 1, IsCl (some (.ref nl))) :: (nl, IsLs nvs) :: (cl, IsLs cvs) :: (wl, IsD wd wvs) :: (wt ++ (li ++ rest))) s)
    (hQ : ∀ ws N tn wvs wt li s', WsOk cs bgs ws N a → KW ws wvs wt → LI.xI ws li → W c (lawE wd L) Tl (vg :: some (.int t tt) :: some (.ref cl) :: some (.ref self) :: some (.ref wl) :: some (.int N tn) :: some (.int o to) :: vr) ((L + 1, IsCl (some (.ref nl))) :: (nl, IsLs nvs) :: (cl, IsLs cvs) :: (wl, IsD wd wvs) :: (wt ++ (li ++ rest))) s' → Q .next s') :
    wpAny (model pw wd) A (execs askB (lawE wd L)) Q E s := by
  have hcl : cvs.length = cs.length := hC.length
  have hwl := kw.length
  have hok := ok.ok.len
  obtain ⟨dx, us, hx1, hx2⟩ := LI.xinst ws li il
  obtain ⟨n1, t1, e1, e2⟩ := hC.at _ _ (List.getElem?_eq_getElem (l := cvs) (i := o.toNat) (by omega))
  have en1 : n1 = cAt cs o.toNat := by unfold cAt; rw [List.getD_eq_getElem?_getD, e2]; rfl
  refine wpAny_execs_cons ?_
  repeat wtm_at "myfi"
  refine r_method w bo LI.xcc LI.xmget (.tail (.tail (.tail (.tail (.pre (.app hx1)))))) (.tail (.tail (.tail (.tail (.pre (.app hx2)))))) LI.xnget ?_
  repeat wtm_at "myfi"
  by_cases hin : o ∈ Gs ws
  · obtain ⟨u, hu, e⟩ := List.mem_map.mp hin
    subst e
    refine W.useP (rest := (L + 1, IsCl (some (.ref nl))) :: (nl, IsLs nvs) :: (cl, IsLs cvs) :: (wl, IsD wd wvs) :: (wt ++ rest)) ‹W _ _ _ _ _ _› bo (rm.le (by decide)) sk (by wtm_at "pmyfi") (LI.xhit ws li u N to _ il ok.ok hu ok.last) ?_
    rintro r li2 s2 ⟨⟨t5, rfl⟩, il2⟩ w2
    obtain ⟨tp, ta, tl, l1, hv, hp, hk⟩ := kw.touch ok.ok.nd hu
    have hv' : (valueAt wvs u.g).isSome = true := by rw [hv]; rfl
    have w3 := w2.perm (l' := (L + 1, IsCl (some (.ref nl))) :: (nl, IsLs nvs) :: (cl, IsLs cvs) :: (wl, IsD wd wvs) :: ((tp, IsTu [.int u.asks ta, .int u.last tl]) :: (l1 ++ (li2 ++ rest)))) (by
      refine .trans ?_ ((hp.append_right (li2 ++ rest)).cons _ |>.cons _ |>.cons _ |>.cons _)
      wtm_at "pmyfi")
    clear w w2
    repeat wtm_at "myfi"
    refine r_lsub ‹W _ _ _ _ _ _› (by wtm_at "hxf6") o0 (by omega) (v := .int n1 t1) (by rw [List.getElem?_eq_getElem (by omega), e1]) ?_ (by with_unfolding_all rfl)
    intro s5 w5
    have hcame : u.came = n1 := by rw [en1]; exact (ok.lt u hu).2.2
    repeat wtm_at "myfi"
    refine if_f (by rw [hcame]; simp) ?_
    repeat wtm_at "myfi"
    refine r_tsub ‹W _ _ _ _ _ _› (by wtm_at "hxf6") (by decide) (by decide) rfl ?_ (by with_unfolding_all rfl)
    intro s6 w6
    repeat wtm_at "myfi"
    obtain ⟨wvs2, wt2, kw2, w7⟩ := ask_end ‹W _ _ _ _ _ _› hk
    exact hQ _ _ _ _ _ _ _ ok.touch kw2 il2 w7
  · refine W.useP (rest := (L + 1, IsCl (some (.ref nl))) :: (nl, IsLs nvs) :: (cl, IsLs cvs) :: (wl, IsD wd wvs) :: (wt ++ rest)) ‹W _ _ _ _ _ _› bo (rm.le (by decide)) sk (by wtm_at "pmyfi") (LI.xmiss ws li o to _ il ok.ok hin) ?_
    rintro r li2 s2 ⟨rfl, il2⟩ w2
    have hv' : (valueAt wvs o).isSome = false := by rw [kw.none hin]; rfl
    have w3 := w2.perm (l' := (L + 1, IsCl (some (.ref nl))) :: (nl, IsLs nvs) :: (cl, IsLs cvs) :: (wl, IsD wd wvs) :: (wt ++ (li2 ++ rest))) (by wtm_at "pmyfi")
    clear w w2
    repeat wtm_at "myfi"
    exact hQ _ _ _ _ _ _ _ ok kw il2 ‹W _ _ _ _ _ _›
set_option maxHeartbeats 8000000 in
theorem arr {gu ot : Option Value} {ws : List Wt} {N : Int} {tn : Tok} {a : Nat} {wvs : List (Int × Value)} {wt li : Led} {s : Shared} {Q : Flow → Shared → Prop} (LI : LineI wd self m dl Due) (hI : IntsAre nvs ns) (hC : IntsAre cvs cs) (hlen : cs.length = ns.length) (h6 : ns.length ≤ 6) (hm : (ns.length : Int) = m) (mono : MonoC cs)
    (bo : BaseOk wd c.B) (rm : Rm 12 A) (sk : Stk A c (lawE wd L)) (ar : Arr cs t 0 a) (ok : WsOk cs bgs ws N a) (kw : KW ws wvs wt) (il : LI.xI ws li)
    (w : W c (lawE wd L) Tl (gu :: some (.int t tt) :: some (.ref cl) :: some (.ref self) :: some (.ref wl) :: some (.int N tn) :: ot :: vr) ((L + 1, IsCl (some (.ref nl))) :: (nl, IsLs nvs) :: (cl, IsLs cvs) :: (wl, IsD wd wvs) :: (wt ++ (li ++ rest))) s)
    (hQ : ∀ gu ot ws N tn a wvs wt li s', Arr cs t cs.length a → WsOk cs bgs ws N a → KW ws wvs wt → LI.xI ws li → W c (lawE wd L) Tl (gu :: some (.int t tt) :: some (.ref cl) :: some (.ref self) :: some (.ref wl) :: some (.int N tn) :: ot :: vr) ((L + 1, IsCl (some (.ref nl))) :: (nl, IsLs nvs) :: (cl, IsLs cvs) :: (wl, IsD wd wvs) :: (wt ++ (li ++ rest))) s' → Q .next s') :
    wpAny (model pw wd) A (exec (nth turnB 2) (lawE wd L)) Q E s := by
  have hnl : nvs.length = ns.length := hI.length
  have hcl : cvs.length = cs.length := hC.length
  refine r_for ?_
  repeat wtm_at "myfi"
  refine r_iterR ‹W _ _ _ _ _ _› .head (by omega) (by omega) ?_
  intro I s1 w1
  refine ⟨fun k s' => ∃ (g : Nat) (gu ot : Option Value) (ws : List Wt) (N : Int) (tn : Tok) (a : Nat) (wvs : List (Int × Value)) (wt li : Led), k + g = ns.length ∧ Arr cs t g a ∧ WsOk cs bgs ws N a ∧ KW ws wvs wt ∧ LI.xI ws li ∧
    W c (lawE wd L) Tl (gu :: some (.int t tt) :: some (.ref cl) :: some (.ref self) :: some (.ref wl) :: some (.int N tn) :: ot :: vr) ((I, IsRi g k) :: (L + 1, IsCl (some (.ref nl))) :: (nl, IsLs nvs) :: (cl, IsLs cvs) :: (wl, IsD wd wvs) :: (wt ++ (li ++ rest))) s', ns.length, ⟨0, gu, ot, ws, N, tn, a, wvs, wt, li, by omega, ar, ok, kw, il, ?_⟩, ?_⟩
  · rw [hnl] at w1
    exact w1.sub (.cons_cons _ (.cons _ (.refl _)))
  clear w w1 ar ok kw il
  rintro k s3 E' ⟨g, gu, ot, ws, N, tn, a, wvs, wt, li, hk, ar, ok, kw, il, w⟩
  cases k with
  | zero =>
    refine r_nextR_end w rm.handled .head (by omega) ?_
    intro s4 w4
    rw [Nat.zero_add] at hk
    rw [hk, ← hlen] at ar
    exact hQ _ _ _ _ _ _ _ _ _ _ ar ok kw il w4
  | succ k =>
    have hg : g < cs.length := by omega
    have hcnt := ok.cnt
    have hale := ar.le
    have hwl := kw.length
    refine r_nextR w .head (by omega) ?_
    intro tg s4 w4
    refine r_goN ?_
    clear w
    repeat wtm_at "myfi"
    obtain ⟨n1, t1, e1, e2⟩ := hC.at _ _ (List.getElem?_eq_getElem (l := cvs) (i := g) (by omega))
    have en1 : n1 = cAt cs g := by unfold cAt; rw [List.getD_eq_getElem?_getD, e2]; rfl
    refine r_lsub ‹W _ _ _ _ _ _› (by wtm_at "hxf6") (by omega) (by omega) (v := .int n1 t1) (by rw [Int.toNat_natCast, List.getElem?_eq_getElem (by omega), e1]) ?_ (by with_unfolding_all rfl)
    intro s5 w5
    repeat wtm_at "myfi"
    by_cases hq : n1 = t
    · refine if_t (by rw [hq]; exact beq_self_eq_true _) ?_
      have := ar.same hg mono (by rw [← en1]; exact hq)
      subst this
      repeat wtm_at "myfi"
      obtain ⟨dx, us, hx1, hx2⟩ := LI.xinst ws li il
      have hw0 := ‹W _ _ _ _ _ _›
      refine r_isetitem hw0 bo LI.xcc LI.xmset (.tail (.tail (.tail (.tail (.tail (.pre (.app hx1))))))) (.tail (.tail (.tail (.tail (.tail (.pre (.app hx2))))))) ?_
      have hfresh : (a : Int) ∉ Gs ws := fun hm => by
        obtain ⟨w, hw, e⟩ := List.mem_map.mp hm
        have := (ok.lt w hw).2.1
        omega
      refine hw0.useP (rest := (I, IsRi (a + 1) (↑(k + 1) - 1)) :: (L + 1, IsCl (some (.ref nl))) :: (nl, IsLs nvs) :: (cl, IsLs cvs) :: (wl, IsD wd wvs) :: (wt ++ rest)) bo (rm.le (by decide)) sk (by wtm_at "pmyfi") (LI.xset ws li a tg t tt N il ok.ok hfresh ok.last (by omega) (by omega)) ?_
      intro r0 li1 s6 il1 w6
      have w7 := w6.perm (l' := (I, IsRi (a + 1) (↑(k + 1) - 1)) :: (L + 1, IsCl (some (.ref nl))) :: (nl, IsLs nvs) :: (cl, IsLs cvs) :: (wl, IsD wd wvs) :: (wt ++ (li1 ++ rest))) (by wtm_at "pmyfi")
      clear hw0 w6 w5
      have ok1 := ok.push (a := a) (by omega)
      rw [← en1, hq] at ok1
      repeat wtm_at "miyfi"
      obtain ⟨n3, t3, f1, f2⟩ := hI.at _ _ (List.getElem?_eq_getElem (l := nvs) (i := a) (by omega))
      refine r_lsub ‹W _ _ _ _ _ _› (by wtm_at "hxf6") (by omega) (by omega) (v := .int n3 t3) (by rw [Int.toNat_natCast, List.getElem?_eq_getElem (by omega), f1]) ?_ (by with_unfolding_all rfl)
      intro s8 w8
      repeat wtm_at "miyfi"
      generalize ho : (n3.fdiv 3).fmod ((a : Int) + 1) = o at *
      have o0 : 0 ≤ o := by rw [← ho]; exact Int.fmod_nonneg_of_pos _ (by omega)
      have o1 : o < a + 1 := by rw [← ho]; exact Int.fmod_lt_of_pos _ (by omega)
      obtain ⟨wvs1, wt1, kw1, w10⟩ := to_ask (came := t) ‹W _ _ _ _ _ _› kw hfresh
      refine arrAsk LI hI hC hlen h6 bo rm sk (o := o) o0 (by omega) ok1 kw1 il1 w10 ?_
      intro ws2 N2 tn2 wvs2 wt2 li2 s9 ok2 kw2 il2 w11
      refine wpAny_execs_nil ?_
      have e : ((k + 1 : Nat) : Int) - 1 = (k : Int) := by omega
      rw [e] at w11
      have w12 := w11.perm (l' := (I, IsRi (a + 1) k) :: (L + 1, IsCl (some (.ref nl))) :: (nl, IsLs nvs) :: (cl, IsLs cvs) :: (wl, IsD wd wvs2) :: (wt2 ++ (li2 ++ rest))) (by wtm_at "pmyfi")
      exact ⟨k, Nat.lt_succ_self k, a + 1, _, _, ws2, N2, tn2, a + 1, wvs2, wt2, li2, by omega, ar.come hg mono (by rw [← en1]; exact hq), ok2, kw2, il2, w12⟩
    · refine if_f (by simpa using hq) ?_
      repeat wtm_at "myfi"
      have e : ((k + 1 : Nat) : Int) - 1 = (k : Int) := by omega
      rw [e] at w5
      exact ⟨k, Nat.lt_succ_self k, g + 1, _, _, ws, N, tn, a, wvs, wt, li, by omega, ar.skip (by rw [← en1]; exact hq), ok, kw, il, w5⟩
end

abbrev B3 := Int × Int × Int
def roomsL (R : Nat) : List Int := (List.range R).map Int.ofNat
theorem roomsL_nd {R : Nat} : (roomsL R).Nodup := by
  unfold roomsL
  rw [List.nodup_iff_pairwise_ne, List.pairwise_map]
  exact (List.nodup_iff_pairwise_ne.mp List.nodup_range).imp fun h e => h (Int.ofNat.inj e)
theorem mem_roomsL {R : Nat} {r : Int} (h : r ∈ roomsL R) : 0 ≤ r ∧ r < R := by
  obtain ⟨i, hi, rfl⟩ := List.mem_map.mp h
  have := List.mem_range.mp hi
  show 0 ≤ (i : Int) ∧ (i : Int) < R
  omega
theorem len_roomsL {R : Nat} : (roomsL R).length = R := by unfold roomsL; rw [List.length_map, List.length_range]
abbrev lastC (cs : List Int) : Int := cAt cs (cs.length - 1)
structure HsOk (cs : List Int) (R : Nat) (S t : Int) (bg : List B3) (e : Nat) (fr un : List Int) : Prop where
  srt : bg.Pairwise fun x y => x.2.2 ≤ y.2.2
  tle : ∀ b ∈ bg, b.2.2 ≤ t
  ele : e ≤ bg.length
  ind : ∀ b ∈ bg.drop e, t < b.2.2 + S
  outd : ∀ b ∈ bg.take e, b.2.2 + S ≤ t
  rms : (fr ++ (bg.drop e).map (·.2.1)).Perm (roomsL R)
  unl : un.length = R
  unf : ∀ r ∈ fr, un.getD r.toNat 0 ≤ max t 0
  unh : ∀ b ∈ bg.drop e, un.getD b.2.1.toNat 0 = b.2.2 + S
  bnd : ∀ (k : Nat) (b : B3), bg[k]? = some b → b.2.2 ≤ lastC cs + S * k
def Fl (cs : List Int) (R : Nat) (S t : Int) (bg : List B3) : Prop := ∃ c0 ≤ bg.length, c0 < cs.length → cAt cs c0 < t → R ≤ c0 ∧ ∃ b, bg[c0 - R]? = some b ∧ t ≤ b.2.2 + S
structure CsOk (cs : List Int) : Prop where
  mono : MonoC cs
  pos : ∀ i, 0 ≤ cAt cs i
theorem CsOk.last {cs : List Int} (h : CsOk cs) {i : Nat} (hi : i < cs.length) : cAt cs i ≤ lastC cs := h.mono i _ (by omega) (by omega)
theorem HsOk.nd {cs R S t bg e fr un} (h : HsOk cs R S t bg e fr un) : (fr ++ (bg.drop e).map (·.2.1)).Nodup := h.rms.nodup_iff.mpr roomsL_nd
theorem HsOk.cnt {cs R S t bg e fr un} (h : HsOk cs R S t bg e fr un) : fr.length + bg.length = R + e := by
  have := h.rms.length_eq
  rw [List.length_append, List.length_map, List.length_drop, len_roomsL] at this
  have := h.ele
  omega
theorem srt_le {bg : List B3} (h : bg.Pairwise fun x y => x.2.2 ≤ y.2.2) {i j : Nat} {x y : B3} (hi : bg[i]? = some x) (hj : bg[j]? = some y) (ij : i ≤ j) : x.2.2 ≤ y.2.2 := by
  rcases Nat.lt_or_eq_of_le ij with q | rfl
  · obtain ⟨h1, rfl⟩ := List.getElem?_eq_some_iff.mp hi
    obtain ⟨h2, rfl⟩ := List.getElem?_eq_some_iff.mp hj
    exact List.pairwise_iff_getElem.mp h i j h1 h2 q
  · rw [hi] at hj; cases hj; exact Int.le_refl _
theorem HsOk.hour {cs R S t bg e r fr un} (h : HsOk cs R S t bg e (r :: fr) un) (co : CsOk cs) (fl : Fl cs R S t bg) (hc : bg.length < cs.length) (hC : cAt cs bg.length ≤ t) (t0 : 0 ≤ t) :
    (R ≤ bg.length → ∃ b, bg[bg.length - R]? = some b ∧ t = max (cAt cs bg.length) (b.2.2 + S)) ∧ (bg.length < R → t = max (cAt cs bg.length) 0) := by
  have hcnt := h.cnt
  have hele := h.ele
  rw [List.length_cons] at hcnt
  obtain ⟨c0, h0, hf⟩ := fl
  constructor
  · intro hR
    by_cases hz : bg.length - R < bg.length
    · refine ⟨bg[bg.length - R], List.getElem?_eq_getElem hz, ?_⟩
      have ho : bg[bg.length - R] ∈ bg.take e := List.mem_iff_getElem.mpr ⟨bg.length - R, by rw [List.length_take]; omega, by rw [List.getElem_take]⟩
      have h1 := h.outd _ ho
      by_cases q : cAt cs bg.length < t
      · obtain ⟨hR0, b0, hb0, hb1⟩ := hf (by omega) (Int.lt_of_le_of_lt (co.mono c0 bg.length h0 hc) q)
        have := srt_le h.srt hb0 (List.getElem?_eq_getElem hz) (by omega)
        omega
      · omega
    · omega
  · intro hR
    by_cases q : cAt cs bg.length < t
    · obtain ⟨hR0, _⟩ := hf (by omega) (Int.lt_of_le_of_lt (co.mono c0 bg.length h0 hc) q)
      omega
    · omega
theorem HsOk.room {cs R S t bg e r fr un} (h : HsOk cs R S t bg e (r :: fr) un) (t0 : 0 ≤ t) : 0 ≤ r ∧ r < R ∧ un.getD r.toNat 0 ≤ t := by
  have := mem_roomsL (h.rms.subset (.head _))
  have := h.unf r (.head _)
  omega
theorem getD_set {un : List Int} {i j : Nat} {v : Int} (h : i ≠ j) : (un.set i v).getD j 0 = un.getD j 0 := by
  rw [List.getD_eq_getElem?_getD, List.getD_eq_getElem?_getD, List.getElem?_set_ne h]
theorem getD_set_eq {un : List Int} {i : Nat} {v : Int} (h : i < un.length) : (un.set i v).getD i 0 = v := by
  rw [List.getD_eq_getElem?_getD, List.getElem?_set_self h]; rfl
theorem HsOk.step {cs R S t bg e r fr un} (h : HsOk cs R S t bg e (r :: fr) un) (co : CsOk cs) (fl : Fl cs R S t bg) (hc : bg.length < cs.length) (hC : cAt cs bg.length ≤ t) (t0 : 0 ≤ t) (S1 : 1 ≤ S) (R1 : 1 ≤ R) (g : Int) :
    HsOk cs R S t (bg ++ [(g, r, t)]) e fr (un.set r.toNat (t + S)) := by
  have hcnt := h.cnt
  have hele := h.ele
  have hnd := h.nd
  have hrm := h.room t0
  have hunl := h.unl
  have hd : (bg ++ [(g, r, t)]).drop e = bg.drop e ++ [(g, r, t)] := List.drop_append_of_le_length hele
  have ht : (bg ++ [(g, r, t)]).take e = bg.take e := List.take_append_of_le_length hele
  rw [List.cons_append, List.nodup_cons] at hnd
  refine ⟨?_, fun b hb => ?_, by rw [List.length_append]; omega, fun b hb => ?_, fun b hb => ?_, ?_, by rw [List.length_set]; exact hunl, fun r' hr' => ?_, fun b hb => ?_, fun k b hk => ?_⟩
  · rw [List.pairwise_append]
    refine ⟨h.srt, List.pairwise_singleton _ _, fun x hx y hy => ?_⟩
    rw [List.mem_singleton.mp hy]
    exact h.tle x hx
  · rcases List.mem_append.mp hb with hb | hb
    · exact h.tle b hb
    · rw [List.mem_singleton.mp hb]; exact Int.le_refl _
  · rw [hd] at hb
    rcases List.mem_append.mp hb with hb | hb
    · exact h.ind b hb
    · rw [List.mem_singleton.mp hb]; show t < t + S; omega
  · rw [ht] at hb; exact h.outd b hb
  · rw [hd, List.map_append, List.map_cons, List.map_nil]
    refine .trans ?_ h.rms
    rw [← List.append_assoc]
    exact List.perm_append_singleton _ _
  · have hne : r' ≠ r := fun q => hnd.1 (List.mem_append_left _ (q ▸ hr'))
    have h2 := mem_roomsL (h.rms.subset (List.mem_append_left _ (.tail _ hr')))
    rw [getD_set (by omega)]
    exact h.unf r' (.tail _ hr')
  · rw [hd] at hb
    rcases List.mem_append.mp hb with hb | hb
    · have hm : b.2.1 ∈ (bg.drop e).map (·.2.1) := List.mem_map.mpr ⟨b, hb, rfl⟩
      have hne : b.2.1 ≠ r := fun q => hnd.1 (List.mem_append_right _ (q ▸ hm))
      have h2 := mem_roomsL (h.rms.subset (List.mem_append_right _ hm))
      rw [getD_set (by omega)]
      exact h.unh b hb
    · rw [List.mem_singleton.mp hb]
      exact getD_set_eq (by omega)
  · rcases Nat.lt_trichotomy k bg.length with q | q | q
    · rw [List.getElem?_append_left q] at hk
      exact h.bnd k b hk
    · subst q
      rw [List.getElem?_append_right (Nat.le_refl _), Nat.sub_self] at hk
      cases hk
      show t ≤ _
      have hh := h.hour co fl hc hC t0
      have hl := co.last hc
      have hS : 0 ≤ S * (bg.length : Int) := Int.mul_nonneg (by omega) (by omega)
      by_cases hR : R ≤ bg.length
      · obtain ⟨b, hb, e1⟩ := hh.1 hR
        have h3 := h.bnd _ _ hb
        have h4 : S * ((bg.length - R : Nat) : Int) + S ≤ S * (bg.length : Int) := by
          have : S * ((bg.length - R : Nat) : Int) + S = S * (((bg.length - R : Nat) : Int) + 1) := by rw [Int.mul_add, Int.mul_one]
          rw [this]
          exact Int.mul_le_mul_of_nonneg_left (by omega) (by omega)
        rcases Int.le_total (cAt cs bg.length) (b.2.2 + S) with z | z
        · rw [Int.max_eq_right z] at e1; omega
        · rw [Int.max_eq_left z] at e1; omega
      · have e1 := hh.2 (by omega)
        have hp := co.pos bg.length
        rw [Int.max_eq_left hp] at e1
        omega
    · rw [List.getElem?_eq_none (by rw [List.length_append, List.length_singleton]; omega)] at hk
      cases hk
theorem Fl.step {cs R S t} {bg : List B3} (fl : Fl cs R S t bg) (b : B3) : Fl cs R S t (bg ++ [b]) := by
  obtain ⟨c0, h0, hf⟩ := fl
  refine ⟨c0, by rw [List.length_append]; omega, fun h1 h2 => ?_⟩
  obtain ⟨h3, b0, h4, h5⟩ := hf h1 h2
  exact ⟨h3, b0, by rw [List.getElem?_append_left (List.getElem?_eq_some_iff.mp h4).1]; exact h4, h5⟩
theorem HsOk.full {cs R S t bg e un} (h : HsOk cs R S t bg e [] un) (R1 : 1 ≤ R) : R ≤ bg.length ∧ ∃ b, bg[bg.length - R]? = some b ∧ t + 1 ≤ b.2.2 + S := by
  have hcnt := h.cnt
  have hele := h.ele
  rw [List.length_nil] at hcnt
  have he : bg.length - R = e := by omega
  have hl : e < bg.length := by omega
  refine ⟨by omega, bg[e], by rw [he]; exact List.getElem?_eq_getElem hl, ?_⟩
  have := h.ind bg[e] (List.mem_iff_getElem.mpr ⟨0, by rw [List.length_drop]; omega, by rw [List.getElem_drop]; simp⟩)
  omega
theorem fl_next {cs R S t bg e fr un} {ws : List Wt} {N : Int} {a : Nat} (h : HsOk cs R S t bg e fr un) (ok : WsOk cs (bg.map (·.1)) ws N a) (ar : Arr cs t cs.length a) (R1 : 1 ≤ R) (hx : fr = [] ∨ ws = []) : Fl cs R S (t + 1) bg := by
  refine ⟨bg.length, Nat.le_refl _, fun h1 h2 => ?_⟩
  have hcnt := ok.cnt
  rw [List.length_map] at hcnt
  rcases hx with rfl | rfl
  · exact h.full R1
  · rw [List.length_nil] at hcnt
    have := (ar.hi bg.length (by omega) h1).2 h1
    omega
theorem tw_mem {α : Type _} {p : α → Bool} {b : α} : ∀ {l : List α}, b ∈ l.takeWhile p → p b = true
  | [], h => by cases h
  | a :: l, h => by
    rw [List.takeWhile_cons] at h
    split at h
    · rename_i q
      rcases List.mem_cons.mp h with rfl | h
      · exact q
      · exact tw_mem h
    · cases h
theorem HsOk.leave {cs R S t bg e fr un} (h : HsOk cs R S t bg e fr un) (t0 : 0 ≤ t + 1) : ∃ xs ys, bg.drop e = xs ++ ys ∧ (∀ b ∈ xs, b.2.2 + S = t + 1) ∧ (∀ b ∈ ys, t + 1 < b.2.2 + S) ∧ HsOk cs R S (t + 1) bg (e + xs.length) (fr ++ xs.map (·.2.1)) un ∧ bg.take (e + xs.length) = bg.take e ++ xs ∧ bg.drop (e + xs.length) = ys := by
  let p : B3 → Bool := fun b => decide (b.2.2 + S ≤ t + 1)
  have e0 : bg.drop e = (bg.drop e).takeWhile p ++ (bg.drop e).dropWhile p := (List.takeWhile_append_dropWhile).symm
  generalize hxs : (bg.drop e).takeWhile p = xs at e0
  generalize hys : (bg.drop e).dropWhile p = ys at e0
  have hx1 : ∀ b ∈ xs, b.2.2 + S ≤ t + 1 := fun b hb => by
    rw [← hxs] at hb
    have hp : p b = true := tw_mem hb
    exact of_decide_eq_true hp
  have hx2 : ∀ b ∈ xs, b.2.2 + S = t + 1 := fun b hb => by
    have := h.ind b (by rw [e0]; exact List.mem_append_left _ hb)
    have := hx1 b hb
    omega
  have hsd : (bg.drop e).Pairwise fun x y => x.2.2 ≤ y.2.2 := h.srt.sublist (List.drop_sublist _ _)
  have hy : ∀ b ∈ ys, t + 1 < b.2.2 + S := by
    cases ys with
    | nil => intro b hb; cases hb
    | cons y ys =>
      have hy0 : ¬ (y.2.2 + S ≤ t + 1) := by
        have := List.head?_dropWhile_not p (bg.drop e)
        rw [hys] at this
        simpa [p] using this
      rw [e0, List.pairwise_append] at hsd
      intro b hb
      rcases List.mem_cons.mp hb with rfl | hb
      · omega
      · have := (List.pairwise_cons.mp hsd.2.1).1 b hb
        omega
  have hl : bg.length = e + (xs.length + ys.length) := by
    have := congrArg List.length e0
    rw [List.length_drop, List.length_append] at this
    have := h.ele
    omega
  have hdr : bg.drop (e + xs.length) = ys := by rw [← List.drop_drop, e0, List.drop_left]
  have htk : bg.take (e + xs.length) = bg.take e ++ xs := by rw [List.take_add, e0, List.take_left]
  refine ⟨xs, ys, e0, hx2, hy, ⟨h.srt, fun b hb => ?_, by omega, by rw [hdr]; exact hy, ?_, ?_, h.unl, fun r hr => ?_, fun b hb => ?_, h.bnd⟩, htk, hdr⟩
  · have := h.tle b hb; omega
  · rw [htk]
    intro b hb
    rcases List.mem_append.mp hb with hb | hb
    · have := h.outd b hb; omega
    · exact hx1 b hb
  · rw [hdr, List.append_assoc, ← List.map_append, ← e0]
    exact h.rms
  · rcases List.mem_append.mp hr with hr | hr
    · have := h.unf r hr; omega
    · obtain ⟨b, hb, rfl⟩ := List.mem_map.mp hr
      have := h.unh b (by rw [e0]; exact List.mem_append_left _ hb)
      have := hx1 b hb
      omega
  · rw [hdr] at hb
    exact h.unh b (by rw [e0]; exact List.mem_append_right _ hb)
theorem all_over {cs R S t bg e fr un} {ws : List Wt} {N : Int} {a : Nat} (h : HsOk cs R S t bg e fr un) (co : CsOk cs) (ok : WsOk cs (bg.map (·.1)) ws N a) (ar : Arr cs t cs.length a) (R1 : 1 ≤ R) (S1 : 1 ≤ S) (hx : fr = [] ∨ ws = []) (ht : t = lastC cs + S * cs.length) : bg.length = cs.length ∧ e = cs.length := by
  have hcnt := ok.cnt
  rw [List.length_map] at hcnt
  have hale := ar.le
  have hele := h.ele
  have key : ∀ k b, bg[k]? = some b → k < cs.length → b.2.2 + S ≤ t := fun k b hb hk => by
    have h1 := h.bnd k b hb
    have h2 : S * (k : Int) + S ≤ S * (cs.length : Int) := by
      have : S * (k : Int) + S = S * ((k : Int) + 1) := by rw [Int.mul_add, Int.mul_one]
      rw [this]
      exact Int.mul_le_mul_of_nonneg_left (by omega) (by omega)
    omega
  have hbl : bg.length = cs.length := by
    rcases Nat.lt_or_ge bg.length cs.length with q | q
    · have hS : 0 ≤ S * (cs.length : Int) := Int.mul_nonneg (by omega) (by omega)
      have hlast := co.last q
      rcases hx with rfl | rfl
      · obtain ⟨h1, b, h2, h3⟩ := h.full R1
        have := key _ _ h2 (by omega)
        omega
      · rw [List.length_nil] at hcnt
        have := (ar.hi bg.length (by omega) q).2 q
        omega
    · omega
  refine ⟨hbl, ?_⟩
  rcases Nat.lt_or_ge e bg.length with q | q
  · have h1 := h.ind bg[e] (List.mem_iff_getElem.mpr ⟨0, by rw [List.length_drop]; omega, by rw [List.getElem_drop]; simp⟩)
    have := key e _ (List.getElem?_eq_getElem q) (by omega)
    omega
  · omega
theorem HsOk.start {cs : List Int} {R : Nat} {S : Int} : HsOk cs R S (-1) [] 0 (roomsL R) (List.replicate R 0) where
  srt := .nil
  tle := nofun
  ele := Nat.le_refl _
  ind := nofun
  outd := nofun
  rms := by rw [List.drop_nil, List.map_nil, List.append_nil]
  unl := List.length_replicate
  unf := fun r hr => by
    have : (List.replicate R (0 : Int)).getD r.toNat 0 = 0 := by
      rw [List.getD_eq_getElem?_getD, List.getElem?_replicate]
      split <;> rfl
    rw [this]; decide
  unh := nofun
  bnd := nofun
theorem Fl.start {cs : List Int} (co : CsOk cs) {R : Nat} {S : Int} : Fl cs R S 0 [] := ⟨0, Nat.le_refl _, fun _ h => by have := co.pos 0; omega⟩
theorem WsOk.start {cs : List Int} : WsOk cs [] [] 0 0 where
  ok := ⟨.nil, by decide⟩
  lt := nofun
  last := nofun
  nd := .nil
  cnt := rfl
  bg := nofun
  dj := nofun
theorem Arr.start {cs : List Int} (co : CsOk cs) : Arr cs 0 0 0 := ⟨Nat.zero_le _, fun h hh => by omega, fun h _ _ => ⟨co.pos h, fun q => by omega⟩⟩

local macro_rules | `(tactic| wtm_at "pmyfk") => `(tactic| (refine perm_cnt fun f => ?_; simp only [List.map_append, List.map_cons, List.map_nil, List.sum_append, List.sum_cons, List.sum_nil, List.cons_append, List.nil_append]; omega))
local macro_rules | `(tactic| wtm_at "myfk") => `(tactic| first
  | wtm_at "sxf6"
  | ((with_reducible show wpAny _ _ (call (Value.builtin "len") _) _ _ _); (first | refine r_llen ‹W _ _ _ _ _ _› (by wtm_at "hxf6") (by omega) ?_ | refine r_dlen ‹W _ _ _ _ _ _› ‹BaseOk _ _› (by wtm_at "hxf6") (by omega) ?_); intro _ _ _)
  | ((with_reducible show wpAny _ _ (callWith _ (Value.type _) [] (backTo _ (starEach (_ :: _) _)) []) _ _ _); refine PyProof.Rows.callWith_type1 ?_)
  | ((with_reducible show wpAny _ _ (call (Value.type "range") _) _ _ _); refine r_range ‹W _ _ _ _ _ _› ?_; intro _ _ _)
  | ((with_reducible show wpAny _ _ (exec (Stmt.AugAssign (PySem.Expr.Name _ _) _ _ _) _) _ _ _); refine r_augN ‹W _ _ _ _ _ _› (by wtm_at "gxf6") ?_))
inductive Tp3 : List B3 → List Value → Led → Prop
  | nil : Tp3 [] [] []
  | snoc {b : B3} {tp : Addr} {t1 t2 t3 : Tok} {bs ys lp} : Tp3 bs ys lp → Tp3 (bs ++ [b]) (ys ++ [.ref tp]) ((tp, IsTu [.int b.1 t1, .int b.2.1 t2, .int b.2.2 t3]) :: lp)
theorem Tp3.len {bs ys lp} (h : Tp3 bs ys lp) : ys.length = bs.length := by
  induction h with
  | nil => rfl
  | snoc h ih => rw [List.length_append, List.length_append, ih]; rfl
theorem Tp3.at {bs ys lp} (h : Tp3 bs ys lp) : ∀ {i : Nat} {b : B3}, bs[i]? = some b → ∃ (tp : Addr) (t1 t2 t3 : Tok), ys[i]? = some (.ref tp) ∧ Has tp (IsTu [.int b.1 t1, .int b.2.1 t2, .int b.2.2 t3]) lp := by
  induction h with
  | nil => intro i b hi; cases hi
  | snoc h ih =>
    rename_i b0 tp t1 t2 t3 bs ys lp
    have hl := h.len
    intro i b hi
    rcases Nat.lt_trichotomy i bs.length with q | q | q
    · rw [List.getElem?_append_left q] at hi
      obtain ⟨tp', a1, a2, a3, e1, e2⟩ := ih hi
      exact ⟨tp', a1, a2, a3, by rw [List.getElem?_append_left (by omega)]; exact e1, .tail e2⟩
    · rw [q, List.getElem?_append_right (Nat.le_refl _), Nat.sub_self] at hi
      cases hi
      exact ⟨tp, t1, t2, t3, by rw [q, ← hl, List.getElem?_append_right (Nat.le_refl _), Nat.sub_self]; rfl, .head⟩
    · rw [List.getElem?_eq_none (by rw [List.length_append, List.length_singleton]; omega)] at hi
      cases hi
theorem Tp2.len {bs ys lp} (h : Tp2 bs ys lp) : ys.length = bs.length := by
  induction h with
  | nil => rfl
  | cons h ih => rw [List.length_cons, List.length_cons, ih]
theorem Tp2.at {bs ys lp} (h : Tp2 bs ys lp) : ∀ {i : Nat} {b : B3}, bs[i]? = some b → ∃ (tp : Addr) (t1 t2 : Tok), ys[i]? = some (.ref tp) ∧ Has tp (IsTu [.int b.1 t1, .int b.2.1 t2]) lp := by
  induction h with
  | nil => intro i b hi; cases hi
  | cons h ih =>
    intro i b hi
    cases i with
    | zero => cases hi; exact ⟨_, _, _, rfl, .head⟩
    | succ i =>
      obtain ⟨tp', a1, a2, e1, e2⟩ := ih hi
      exact ⟨tp', a1, a2, e1, .tail e2⟩
section
variable {wd : World} {A : Around} {E : Value → Shared → Prop} {c : Cx} {L ll fs : Addr} {m t : Int} {tt : Tok} {vr : List (Option Value)} {rest cx : Led} {H : HA} {v2 v3 v4 v5 v6 v9 v11 v12 : Option Value} {fd : FuncData} {th : Tok}
theorem left_end {env : Env} {T : List Str} {vs : List (Option Value)} {d : Addr} {g r t : Int} {t1 t2 t3 : Tok} {x1 x2 : Addr × (Obj → Prop)} {lvs : List Value} {bs : List B3} {lp lt r1 : Led} {s : Shared}
    (w : W c env T vs ((d, IsTu [.int g t1, .int r t2, .int t t3]) :: x1 :: x2 :: (ll, IsLs (lvs ++ [.ref d])) :: (lp ++ (lt ++ r1))) s) (h : Tp3 bs lvs lt) :
    ∃ lvs' lt', Tp3 (bs ++ [(g, r, t)]) lvs' lt' ∧ W c env T vs (x1 :: x2 :: (ll, IsLs lvs') :: (lp ++ (lt' ++ r1))) s :=
  have h' : Tp3 (bs ++ [(g, r, t)]) (lvs ++ [.ref d]) ((d, IsTu [.int g t1, .int r t2, .int t t3]) :: lt) := h.snoc (b := (g, r, t)) (t1 := t1) (t2 := t2) (t3 := t3)
  ⟨_, _, h', w.perm (by wtm_at "pmyfk")⟩
set_option maxHeartbeats 8000000 in
theorem expLoop {gu ro : Option Value} {lvs : List Value} {lf xs ys : List B3} {fr0 : List Int} {lt fr ho : Led} {s : Shared} {Q : Flow → Shared → Prop}
    (bo : BaseOk wd c.B) (rm : Rm 12 A) (sk : Stk A c (lawE wd L)) (hho : HoI wd H (xs ++ ys) ho) (hfr : FrI wd fs m fr0 fr) (hlt : Tp3 lf lvs lt)
    (hx : ∀ b ∈ xs, b.2.2 + H.S ≤ t) (hy : ∀ b ∈ ys, t < b.2.2 + H.S) (hz : (xs ++ ys).length ≤ 100) (hz2 : lf.length + xs.length ≤ 100) (hnd : (fr0 ++ xs.map (·.2.1)).Nodup) (hm : ((fr0 ++ xs.map (·.2.1)).length : Int) ≤ m) (hz3 : fr0.length ≤ 100)
    (hf : Has H.f (IsFnObj fd) cx) (hsp : Spec wd 5 (call (.ref H.f) []) cx (fun r l => r = .int t th ∧ l = cx))
    (w : W c (lawE wd L) Tl (gu :: some (.int t tt) :: v2 :: v3 :: v4 :: v5 :: v6 :: some (.ref fs) :: some (.ref H.self) :: v9 :: some (.ref ll) :: v11 :: v12 :: ro :: vr) ((ll, IsLs lvs) :: (lt ++ (fr ++ (ho ++ (cx ++ rest))))) s)
    (hQ : ∀ gu ro lvs lt fr ho s', Tp3 (lf ++ xs.map fun b => (b.1, b.2.1, t)) lvs lt → FrI wd fs m (fr0 ++ xs.map (·.2.1)) fr → HoI wd H ys ho →
      W c (lawE wd L) Tl (gu :: some (.int t tt) :: v2 :: v3 :: v4 :: v5 :: v6 :: some (.ref fs) :: some (.ref H.self) :: v9 :: some (.ref ll) :: v11 :: v12 :: ro :: vr) ((ll, IsLs lvs) :: (lt ++ (fr ++ (ho ++ (cx ++ rest))))) s' → Q .next s') :
    wpAny (model pw wd) A (exec (nth turnB 1) (lawE wd L)) Q E s := by
  refine r_for ?_
  repeat wtm_at "myfk"
  obtain ⟨dx, us, hx1, hx2⟩ := hho.inst
  refine r_method w bo (cc_1404 wd) (mt_1404_expire wd) (.tail (.pre (.pre (.app hx1)))) (.tail (.pre (.pre (.app hx2)))) (by decide) ?_
  repeat wtm_at "myfk"
  refine w.useP (rest := (ll, IsLs lvs) :: (lt ++ (fr ++ rest))) bo (rm.le (by decide)) sk (by wtm_at "pmyfk") (con_ho_expire (th := th) hho hx hy (by omega) hf hsp) ?_
  rintro r l' s2 ⟨ls, tvs, lp, ho', rfl, htp, hho', rfl⟩ w2
  have w3 := w2.perm (l' := (ls, IsLs tvs) :: (ll, IsLs lvs) :: (lp ++ (lt ++ (fr ++ (ho' ++ (cx ++ rest)))))) (by wtm_at "pmyfk")
  refine r_iterL w3 .head ?_
  intro I s4 w4
  have htl := htp.len
  refine ⟨fun k s' => ∃ (done todo : List B3) (gu ro : Option Value) (lvs : List Value) (lt fr : Led), xs = done ++ todo ∧ todo.length = k ∧ Tp3 (lf ++ done.map fun b => (b.1, b.2.1, t)) lvs lt ∧ FrI wd fs m (fr0 ++ done.map (·.2.1)) fr ∧
    W c (lawE wd L) Tl (gu :: some (.int t tt) :: v2 :: v3 :: v4 :: v5 :: v6 :: some (.ref fs) :: some (.ref H.self) :: v9 :: some (.ref ll) :: v11 :: v12 :: ro :: vr) ((I, IsLi ls done.length) :: (ls, IsLs tvs) :: (ll, IsLs lvs) :: (lp ++ (lt ++ (fr ++ (ho' ++ (cx ++ rest)))))) s', xs.length, ⟨[], xs, gu, ro, lvs, lt, fr, rfl, rfl, by rw [List.map_nil, List.append_nil]; exact hlt, by rw [List.map_nil, List.append_nil]; exact hfr, w4⟩, ?_⟩
  clear w w2 w3 w4 hlt hfr hho
  rintro k s5 E' ⟨done, todo, gu, ro, lvs, lt, fr, ex, hk, hlt, hfr, w⟩
  have hdl : done.length + todo.length = xs.length := by rw [ex, List.length_append]
  cases todo with
  | nil =>
    rw [List.append_nil] at ex
    refine r_nextL_end w rm.handled .head (.tail .head) (List.getElem?_eq_none (by rw [htl, ex]; exact Nat.le_refl _)) ?_
    intro s6 w6
    rw [← ex] at hlt hfr
    refine hQ _ _ _ _ _ _ _ hlt hfr hho' (w6.sub (.cons _ (.cons_cons _ (List.sublist_append_right _ _))))
  | cons b todo =>
    rw [List.length_cons] at hdl hk
    have hbi : xs[done.length]? = some b := by rw [ex, List.getElem?_append_right (Nat.le_refl _), Nat.sub_self]; rfl
    obtain ⟨tp, t1, t2, hv, hhas⟩ := htp.at hbi
    refine r_nextL w .head (.tail .head) hv ?_
    intro s6 w6
    refine r_goT w6 .head ?_
    refine r_unp2 w6 (.tail (.tail (.tail (.app hhas)))) rm.handled ?_
    intro s7 w7
    have hll := hlt.len
    rw [List.length_append, List.length_map] at hll
    clear w w6
    repeat wtm_at "myfk"
    obtain ⟨dx, us, hx1, hx2⟩ := hfr.inst
    have hw := ‹W _ _ _ _ _ _›
    refine r_isetitem hw bo (cc_896 wd) (mt_896_setitem wd) (.tail (.tail (.tail (.tail (.pre (.pre (.app hx1))))))) (.tail (.tail (.tail (.tail (.pre (.pre (.app hx2))))))) ?_
    have hnd2 : (fr0 ++ done.map (·.2.1) ++ b.2.1 :: todo.map (·.2.1)).Nodup := by
      have := hnd
      rw [ex, List.map_append, ← List.append_assoc, List.map_cons] at this
      exact this
    have hfresh : b.2.1 ∉ fr0 ++ done.map (·.2.1) := fun hm => (List.nodup_append.mp hnd2).2.2 _ hm _ (.head _) rfl
    have hlen : ((fr0 ++ done.map (·.2.1)).length : Int) + 1 ≤ m := by
      have := hm
      rw [ex, List.map_append, ← List.append_assoc, List.map_cons, List.length_append, List.length_cons] at this
      omega
    obtain ⟨lvs', lt', ht', w8⟩ := left_end hw hlt
    clear hw w7
    refine w8.useP (rest := (I, IsLi ls (done.length + 1)) :: (ls, IsLs tvs) :: (ll, IsLs lvs') :: (lp ++ (lt' ++ (ho' ++ (cx ++ rest))))) bo (rm.le (by decide)) sk (by wtm_at "pmyfk") (con_free_set hfr hfresh hlen (by rw [List.length_append, List.length_map]; omega)) ?_
    intro r fr' s9 hfr' w9
    refine wpAny_execs_nil ?_
    have w10 := w9.perm (l' := (I, IsLi ls (done.length + 1)) :: (ls, IsLs tvs) :: (ll, IsLs lvs') :: (lp ++ (lt' ++ (fr' ++ (ho' ++ (cx ++ rest)))))) (by wtm_at "pmyfk")
    refine ⟨todo.length, by omega, done ++ [b], todo, _, _, _, lt', fr', by rw [ex, List.append_assoc]; rfl, rfl, ?_, ?_, by rw [List.length_append]; exact w10⟩
    · rw [List.map_append, ← List.append_assoc]; exact ht'
    · rw [List.map_append, ← List.append_assoc]; exact hfr'
end

local macro_rules | `(tactic| wtm_at "pmyfl") => `(tactic| (refine perm_cnt fun f => ?_; simp only [List.map_append, List.map_cons, List.map_nil, List.sum_append, List.sum_cons, List.sum_nil, List.cons_append, List.nil_append]; omega))
local macro_rules | `(tactic| wtm_at "myfl") => `(tactic| first
  | wtm_at "sxf6"
  | ((with_reducible show wpAny _ _ (call (Value.builtin "len") _) _ _ _); (first | refine r_llen ‹W _ _ _ _ _ _› (by wtm_at "hxf6") (by omega) ?_ | refine r_dlen ‹W _ _ _ _ _ _› ‹BaseOk _ _› (by wtm_at "hxf6") (by omega) ?_); intro _ _ _)
  | ((with_reducible show wpAny _ _ (callWith _ (Value.type _) [] (backTo _ (starEach (_ :: _) _)) []) _ _ _); refine PyProof.Rows.callWith_type1 ?_)
  | ((with_reducible show wpAny _ _ (call (Value.type "range") _) _ _ _); refine r_range ‹W _ _ _ _ _ _› ?_; intro _ _ _)
  | ((with_reducible show wpAny _ _ (exec (Stmt.AugAssign (PySem.Expr.Name _ _) _ _ _) _) _ _ _); refine r_augN ‹W _ _ _ _ _ _› (by wtm_at "gxf6") ?_))

local macro_rules | `(tactic| wtm_at "miyfl") => `(tactic| ((fail_if_success (with_reducible show wpAny _ _ (execs (Stmt.If _ _ _ _ :: _) _) _ _ _)); wtm_at "myfl"))
local macro_rules | `(tactic| wtm_at "mxyfl") => `(tactic| ((fail_if_success (with_reducible show wpAny _ _ (execs (Stmt.Expr _ _ :: _) _) _ _ _)); wtm_at "myfl"))
theorem ints_setL {v : Int} {t : Tok} : ∀ {vs : List Value} {ns : List Int} {i : Nat}, IntsAre vs ns → IntsAre (vs.set i (.int v t)) (ns.set i v)
  | _, _, _, .nil => .nil
  | _, _, 0, .cons n t' h => .cons v t h
  | _, _, i + 1, .cons n t' h => .cons n t' (ints_setL h)
theorem ints_getD {vs : List Value} {ns : List Int} (h : IntsAre vs ns) {i : Nat} (hi : i < ns.length) : ∃ t, vs[i]? = some (.int (ns.getD i 0) t) := by
  obtain ⟨n, t, e1, e2⟩ := h.at _ _ (List.getElem?_eq_getElem (l := vs) (i := i) (by rw [h.length]; exact hi))
  refine ⟨t, ?_⟩
  rw [List.getElem?_eq_getElem (by rw [h.length]; exact hi), e1, List.getD_eq_getElem?_getD, e2]; rfl
abbrev whileB : List Stmt := loopBody (nth turnB 3)
section
variable {wd : World} {A : Around} {E : Value → Shared → Prop} {c : Cx} {L nl cl wl bl ul self dl fs : Addr} {nvs cvs : List Value} {ns cs : List Int} {m t S kind : Int} {R : Nat} {tt tS tR tk : Tok} {vr : List (Option Value)} {rest cx : Led} {H : HA} {v5 v6 v10 : Option Value} {fd : FuncData} {th : Tok}
theorem begun_end {env : Env} {T : List Str} {vs : List (Option Value)} {d : Addr} {g r t : Int} {t1 t2 t3 : Tok} {x1 x2 x3 x4 x5 x6 x7 : Addr × (Obj → Prop)} {bvs : List Value} {bs : List B3} {bt r1 : Led} {s : Shared}
    (w : W c env T vs ((d, IsTu [.int g t1, .int r t2, .int t t3]) :: x1 :: x2 :: x3 :: x4 :: x5 :: x6 :: x7 :: (bl, IsLs (bvs ++ [.ref d])) :: (bt ++ r1)) s) (h : Tp3 bs bvs bt) :
    ∃ bvs' bt', Tp3 (bs ++ [(g, r, t)]) bvs' bt' ∧ W c env T vs (x1 :: x2 :: x3 :: x4 :: x5 :: x6 :: x7 :: (bl, IsLs bvs') :: (bt' ++ r1)) s :=
  have h' : Tp3 (bs ++ [(g, r, t)]) (bvs ++ [.ref d]) ((d, IsTu [.int g t1, .int r t2, .int t t3]) :: bt) := h.snoc (b := (g, r, t)) (t1 := t1) (t2 := t2) (t3 := t3)
  ⟨_, _, h', w.perm (by wtm_at "pmyfl")⟩
set_option maxHeartbeats 8000000 in
theorem letC {v2 v12 : Option Value} {tg tr : Tok} {u : Wt} {r d0 : Int} {td : Tok} {e : Nat} {uvs bvs : List Value} {un fr0 : List Int} {bg : List B3} {ws : List Wt} {N : Int} {a : Nat} {wvs : List (Int × Value)} {wt bt li fr ho : Led} {s : Shared} {Q : Flow → Shared → Prop}
    (bo : BaseOk wd c.B) (rm : Rm 12 A) (sk : Stk A c (lawE wd L)) (h6 : cs.length ≤ 6) (ok : WsOk cs (bg.map (·.1)) ws N a) (hu : u ∈ ws) (hs : HsOk cs R S t bg e (r :: fr0) un) (hacs : a ≤ cs.length) (t0 : 0 ≤ t) (R2 : R ≤ 2)
    (hU : IntsAre uvs un) (hbt : Tp3 bg bvs bt) (kw : KW ws wvs wt) (hho : HoI wd H (bg.drop e) ho) (hHS : H.S = S) (hHm : H.m = R) (hf : Has H.f (IsFnObj fd) cx) (hsp : Spec wd 5 (call (.ref H.f) []) cx (fun r l => r = .int t th ∧ l = cx))
    (w : W c (lawE wd L) Tl (some (.int u.g tg) :: some (.int t tt) :: v2 :: some (.ref self) :: some (.ref wl) :: v5 :: v6 :: some (.ref fs) :: some (.ref H.self) :: some (.ref bl) :: v10 :: some (.ref ul) :: v12 :: some (.int r tr) :: vr)
      ((L + 1, IsCl (some (.ref nl))) :: (L + 1 + 1, IsCl (some (.int S tS))) :: (nl, IsLs nvs) :: (cl, IsLs cvs) :: (dl, IsLs [.int d0 td]) :: (ul, IsLs uvs) :: (wl, IsD wd wvs) :: (bl, IsLs bvs) :: (bt ++ (wt ++ (li ++ (fr ++ (ho ++ (cx ++ rest))))))) s)
    (hQ : ∀ wvs wt uvs bvs bt ho s', KW (rem ws u.g) wvs wt → IntsAre uvs (un.set r.toNat (t + S)) → Tp3 (bg ++ [(u.g, r, t)]) bvs bt → HoI wd H ((bg ++ [(u.g, r, t)]).drop e) ho → W c (lawE wd L) Tl (some (.int u.g tg) :: some (.int t tt) :: v2 :: some (.ref self) :: some (.ref wl) :: v5 :: v6 :: some (.ref fs) :: some (.ref H.self) :: some (.ref bl) :: v10 :: some (.ref ul) :: v12 :: some (.int r tr) :: vr)
      ((L + 1, IsCl (some (.ref nl))) :: (L + 1 + 1, IsCl (some (.int S tS))) :: (nl, IsLs nvs) :: (cl, IsLs cvs) :: (dl, IsLs [.int d0 td]) :: (ul, IsLs uvs) :: (wl, IsD wd wvs) :: (bl, IsLs bvs) :: (bt ++ (wt ++ (li ++ (fr ++ (ho ++ (cx ++ rest))))))) s' → Q .next s') :
    wpAny (model pw wd) A (execs (whileB.drop 7) (lawE wd L)) Q E s := by
  have hul := hU.length
  have hunl := hs.unl
  have hbl := hbt.len
  have hcnt := ok.cnt
  have hc2 := hs.cnt
  have hele := hs.ele
  have hrm := hs.room t0
  rw [List.length_map] at hcnt
  rw [List.length_cons] at hc2
  have hwl := kw.length
  have hok := ok.ok.len
  obtain ⟨tp, P, l1, hv, hp, kw2⟩ := kw.take ok.ok.nd hu
  have hdl : (bg.drop e).length = bg.length - e := List.length_drop ..
  have hnot : u.g ∉ (bg.drop e).map (·.1) := fun hm => ok.dj u hu ((List.drop_sublist e bg).map _ |>.subset hm)
  refine wpAny_execs_cons ?_
  repeat wtm_at "myfl"
  obtain ⟨dx, us, hx1, hx2⟩ := hho.inst
  refine r_isetitem ‹W _ _ _ _ _ _› bo (cc_1404 wd) (mt_1404_setitem wd) (.tail (.tail (.tail (.tail (.tail (.tail (.tail (.tail (.pre (.pre (.pre (.pre (.app hx1))))))))))))) (.tail (.tail (.tail (.tail (.tail (.tail (.tail (.tail (.pre (.pre (.pre (.pre (.app hx2))))))))))))) ?_
  refine W.useP (rest := (L + 1, IsCl (some (.ref nl))) :: (L + 1 + 1, IsCl (some (.int S tS))) :: (nl, IsLs nvs) :: (cl, IsLs cvs) :: (dl, IsLs [.int d0 td]) :: (ul, IsLs uvs) :: (wl, IsD wd (without wvs u.g)) :: (bl, IsLs bvs) :: (bt ++ (wt ++ (li ++ (fr ++ rest))))) ‹W _ _ _ _ _ _› bo (rm.le (by decide)) sk (by wtm_at "pmyfl") (con_ho_set (tg := tg) (tr := tr) hho (by rw [hHS]; exact hs.ind) hnot (by omega) (by omega) hf hsp) ?_
  rintro r1 l' s3 ⟨ho', hho', rfl⟩ w3
  have w4 := w3.perm (l' := (L + 1, IsCl (some (.ref nl))) :: (L + 1 + 1, IsCl (some (.int S tS))) :: (nl, IsLs nvs) :: (cl, IsLs cvs) :: (dl, IsLs [.int d0 td]) :: (ul, IsLs uvs) :: (wl, IsD wd (without wvs u.g)) :: (bl, IsLs bvs) :: (bt ++ (wt ++ (li ++ (fr ++ (ho' ++ (cx ++ rest))))))) (by wtm_at "pmyfl")
  clear w w3
  repeat wtm_at "myfl"
  obtain ⟨bvs', bt', hbt', w5⟩ := begun_end ‹W _ _ _ _ _ _› hbt
  refine r_lset w5 (.tail (.tail (.tail (.tail (.tail .head))))) hrm.1 (by omega) (by omega) ?_
  intro s6 w6
  refine wpAny_execs_nil ?_
  have w7 := w6.perm (l' := (L + 1, IsCl (some (.ref nl))) :: (L + 1 + 1, IsCl (some (.int S tS))) :: (nl, IsLs nvs) :: (cl, IsLs cvs) :: (dl, IsLs [.int d0 td]) :: (ul, IsLs _) :: (wl, IsD wd (without wvs u.g)) :: (bl, IsLs bvs') :: (bt' ++ (((tp, P) :: l1) ++ (li ++ (fr ++ (ho' ++ (cx ++ rest))))))) (.cons _ (.cons _ (.cons _ (.cons _ (.cons _ (.cons _ (.cons _ (.cons _ ((hp.append_right _).append_left _)))))))))
  refine hQ _ l1 _ _ _ ho' _ kw2 (ints_setL hU) hbt' ?_ (w7.sub (.cons_cons _ (.cons_cons _ (.cons_cons _ (.cons_cons _ (.cons_cons _ (.cons_cons _ (.cons_cons _ (.cons_cons _ (List.Sublist.append_left (.cons _ (.refl _)) _))))))))))
  rw [List.drop_append_of_le_length hele]
  exact hho'
set_option maxHeartbeats 8000000 in
theorem letB {tg tg2 tcm tr tc : Tok} {u : Wt} {r d0 : Int} {td : Tok} {e : Nat} {uvs bvs : List Value} {un fr0 : List Int} {bg : List B3} {ws : List Wt} {N : Int} {a : Nat} {wvs : List (Int × Value)} {wt bt li fr ho : Led} {s : Shared} {Q : Flow → Shared → Prop}
    (hC : IntsAre cvs cs) (h6 : cs.length ≤ 6) (co : CsOk cs) (bo : BaseOk wd c.B) (rm : Rm 12 A) (sk : Stk A c (lawE wd L)) (ok : WsOk cs (bg.map (·.1)) ws N a) (hu : u ∈ ws) (hs : HsOk cs R S t bg e (r :: fr0) un) (fl : Fl cs R S t bg) (hle : ∀ h < a, cAt cs h ≤ t) (hacs : a ≤ cs.length) (t0 : 0 ≤ t) (S1 : 1 ≤ S) (R1 : 1 ≤ R) (R2 : R ≤ 2)
    (hU : IntsAre uvs un) (hbt : Tp3 bg bvs bt) (kw : KW ws wvs wt) (hho : HoI wd H (bg.drop e) ho) (hHS : H.S = S) (hHm : H.m = R) (hf : Has H.f (IsFnObj fd) cx) (hsp : Spec wd 5 (call (.ref H.f) []) cx (fun r l => r = .int t th ∧ l = cx))
    (w : W c (lawE wd L) Tl (some (.int u.g tg) :: some (.int t tt) :: some (.ref cl) :: some (.ref self) :: some (.ref wl) :: v5 :: v6 :: some (.ref fs) :: some (.ref H.self) :: some (.ref bl) :: v10 :: some (.ref ul) :: some (.ref dl) :: some (.int r tr) :: some (.int u.g tg2) :: some (.int u.came tcm) :: some (.int bg.length tc) :: some (.int R tR) :: some (.int kind tk) :: vr)
      ((L + 1, IsCl (some (.ref nl))) :: (L + 1 + 1, IsCl (some (.int S tS))) :: (nl, IsLs nvs) :: (cl, IsLs cvs) :: (dl, IsLs [.int d0 td]) :: (ul, IsLs uvs) :: (wl, IsD wd wvs) :: (bl, IsLs bvs) :: (bt ++ (wt ++ (li ++ (fr ++ (ho ++ (cx ++ rest))))))) s)
    (hQ : ∀ wvs wt uvs bvs bt ho s', KW (rem ws u.g) wvs wt → IntsAre uvs (un.set r.toNat (t + S)) → Tp3 (bg ++ [(u.g, r, t)]) bvs bt → HoI wd H ((bg ++ [(u.g, r, t)]).drop e) ho →
      W c (lawE wd L) Tl (some (.int u.g tg) :: some (.int t tt) :: some (.ref cl) :: some (.ref self) :: some (.ref wl) :: v5 :: v6 :: some (.ref fs) :: some (.ref H.self) :: some (.ref bl) :: v10 :: some (.ref ul) :: some (.ref dl) :: some (.int r tr) :: some (.int u.g tg2) :: some (.int u.came tcm) :: some (.int bg.length tc) :: some (.int R tR) :: some (.int kind tk) :: vr)
      ((L + 1, IsCl (some (.ref nl))) :: (L + 1 + 1, IsCl (some (.int S tS))) :: (nl, IsLs nvs) :: (cl, IsLs cvs) :: (dl, IsLs [.int d0 td]) :: (ul, IsLs uvs) :: (wl, IsD wd wvs) :: (bl, IsLs bvs) :: (bt ++ (wt ++ (li ++ (fr ++ (ho ++ (cx ++ rest))))))) s' → Q .next s') :
    wpAny (model pw wd) A (execs (whileB.drop 5) (lawE wd L)) Q E s := by
  have hcl := hC.length
  have hul := hU.length
  have hunl := hs.unl
  have hbl := hbt.len
  have hcnt := ok.cnt
  have hc2 := hs.cnt
  have hele := hs.ele
  rw [List.length_map] at hcnt
  rw [List.length_cons] at hc2
  have hwpos := List.length_pos_of_mem hu
  have hug := ok.lt u hu
  have hrm := hs.room t0
  have hcl2 : bg.length < cs.length := by omega
  have hhour := hs.hour co fl hcl2 (hle _ (by omega)) t0
  have hwl := kw.length
  have hok := ok.ok.len
  obtain ⟨t1, hv1⟩ := ints_getD hC (i := u.g.toNat) (by omega)
  obtain ⟨t2, hv2⟩ := ints_getD hU (i := r.toNat) (by omega)
  obtain ⟨t3, hv3⟩ := ints_getD hC (i := bg.length) (by omega)
  refine wpAny_execs_cons ?_
  repeat wtm_at "myfl"
  refine if_f (by simp) ?_
  repeat wtm_at "myfl"
  refine r_lsub ‹W _ _ _ _ _ _› (by wtm_at "hxf6") hug.1 (by omega) hv1 ?_ (by with_unfolding_all rfl)
  intro s1 w1
  repeat wtm_at "myfl"
  refine if_f (by rw [hug.2.2]; simp) ?_
  repeat wtm_at "myfl"
  refine r_lsub ‹W _ _ _ _ _ _› (by wtm_at "hxf6") hrm.1 (by omega) hv2 ?_ (by with_unfolding_all rfl)
  intro s2 w2
  repeat wtm_at "myfl"
  refine r_lsub ‹W _ _ _ _ _ _› (by wtm_at "hxf6") (by omega) (by omega) (by rw [Int.toNat_natCast]; exact hv3) ?_ (by with_unfolding_all rfl)
  intro s3 w3
  clear w w1 w2
  repeat wtm_at "myfl"
  by_cases hR : R ≤ bg.length
  · obtain ⟨b, hb, hmax⟩ := hhour.1 hR
    obtain ⟨tpb, tb1, tb2, tb3, hvb, hhb⟩ := hbt.at hb
    refine if_t (decide_eq_true (by omega)) ?_
    repeat wtm_at "myfl"
    refine r_lsub ‹W _ _ _ _ _ _› (by wtm_at "hxf6") (by omega) (by omega) (by rw [show ((bg.length : Int) - R).toNat = bg.length - R by omega]; exact hvb) ?_ (by with_unfolding_all rfl)
    intro s4 w4
    repeat wtm_at "myfl"
    refine r_tsub ‹W _ _ _ _ _ _› (.tail (.tail (.tail (.tail (.tail (.tail (.tail (.tail (.app hhb))))))))) (by decide) (by decide) rfl ?_ (by with_unfolding_all rfl)
    intro s5 w5
    repeat wtm_at "myfl"
    refine r_max2 ‹W _ _ _ _ _ _› rm.handled ?_
    intro t9 s6 w6
    repeat wtm_at "myfl"
    refine if_f (by rw [← hmax]; simp) ?_
    repeat wtm_at "mxyfl"
    exact letC bo rm sk h6 ok hu hs hacs t0 R2 hU hbt kw hho hHS hHm hf hsp w6 hQ
  · refine if_f (decide_eq_false (by omega)) ?_
    repeat wtm_at "myfl"
    refine r_max2 ‹W _ _ _ _ _ _› rm.handled ?_
    intro t9 s6 w6
    repeat wtm_at "myfl"
    refine if_f (by rw [← hhour.2 (by omega)]; simp) ?_
    repeat wtm_at "mxyfl"
    exact letC bo rm sk h6 ok hu hs hacs t0 R2 hU hbt kw hho hHS hHm hf hsp w6 hQ
end

local macro_rules | `(tactic| wtm_at "pmyfm") => `(tactic| (refine perm_cnt fun f => ?_; simp only [List.map_append, List.map_cons, List.map_nil, List.sum_append, List.sum_cons, List.sum_nil, List.cons_append, List.nil_append]; omega))
local macro_rules | `(tactic| wtm_at "myfm") => `(tactic| first
  | wtm_at "sxf6"
  | ((with_reducible show wpAny _ _ (call (Value.builtin "len") _) _ _ _); (first | refine r_llen ‹W _ _ _ _ _ _› (by wtm_at "hxf6") (by omega) ?_ | refine r_dlen ‹W _ _ _ _ _ _› ‹BaseOk _ _› (by wtm_at "hxf6") (by omega) ?_); intro _ _ _)
  | ((with_reducible show wpAny _ _ (callWith _ (Value.type _) [] (backTo _ (starEach (_ :: _) _)) []) _ _ _); refine PyProof.Rows.callWith_type1 ?_)
  | ((with_reducible show wpAny _ _ (call (Value.type "range") _) _ _ _); refine r_range ‹W _ _ _ _ _ _› ?_; intro _ _ _)
  | ((with_reducible show wpAny _ _ (exec (Stmt.AugAssign (PySem.Expr.Name _ _) _ _ _) _) _ _ _); refine r_augN ‹W _ _ _ _ _ _› (by wtm_at "gxf6") ?_)
  | ((with_reducible show wpAny _ _ (exec (Stmt.Assign [PySem.Expr.Tuple _ _ _] _ _) _) _ _ _); refine r_asTup ?_))
local macro_rules | `(tactic| wtm_at "miyfm") => `(tactic| ((fail_if_success (with_reducible show wpAny _ _ (execs (Stmt.If _ _ _ _ :: _) _) _ _ _)); wtm_at "myfm"))
section
variable {wd : World} {A : Around} {E : Value → Shared → Prop} {c : Cx} {env : Env} {T T' : List Str} {vs us : List (Option Value)} {l l' fp rest : Led} {s : Shared} {d x dx C f : Addr} {v v1 : Value} {n : Nat} {k : Int} {t : Tok}
theorem r_lset0 {Q : Unit → Shared → Prop} (w : W c env T vs l s) (u : Up d (IsLs [v1]) (IsLs [v]) l l') (h : ∀ s', W c env T vs l' s' → Q () s') : wpAny (model pw wd) A (setItem (.ref d) (.int 0 t) v) Q E s :=
  r_lset (xs := [v1]) (k := 0) w u (Int.le_refl _) (by show (0 : Int) < 1; decide) (by show 1 ≤ 1000; decide) h
theorem r_lenU {P : Led → Prop} {Q : Value → Shared → Prop} (w : W c env T vs l s) (bo : BaseOk wd c.B) (rm : Rm (n + 1) A) (sk : Stk A c env) (m : Mt wd C "__len__" f) (hx : Has x (IsInst C dx) l) (hd : Has dx (IsNs T' us) l) (pk : l.Perm (fp ++ rest))
    (sp : Spec wd n (call (.ref f) [.ref x]) fp (fun v l' => (∃ t, v = .int k t) ∧ P l')) (hk : 0 ≤ k ∧ k < 2 ^ 63) (h : ∀ t l' s', P l' → W c env T vs (l' ++ rest) s' → Q (.int k t) s') : wpAny (model pw wd) A (call (.builtin "len") [.ref x]) Q E s :=
  r_ilen w bo m hx hd (w.useP bo rm.in1 (show Stk A.in1 c env from sk) pk sp fun v l' s' ⟨⟨t, e⟩, p⟩ w' => ⟨k, t, e, hk, fun t' => h t' l' _ p (w'.toks _)⟩)
end
section
variable {α : Type _} {x1 x2 x3 x4 x5 x6 x7 x8 : α} {bt wt li fr ho cx rest : List α}
theorem pl_next : (x1 :: x2 :: x3 :: x4 :: x5 :: x6 :: x7 :: x8 :: (bt ++ (wt ++ (li ++ (fr ++ (ho ++ (cx ++ rest))))))).Perm ((x7 :: wt) ++ (x1 :: x2 :: x3 :: x4 :: x5 :: x6 :: x8 :: (bt ++ (li ++ (fr ++ (ho ++ (cx ++ rest))))))) := by wtm_at "pmyfm"
theorem pl_back {y : α} : (y :: (li ++ (x5 :: (x1 :: x2 :: x3 :: x4 :: x6 :: x7 :: x8 :: (bt ++ (wt ++ (fr ++ (ho ++ (cx ++ rest))))))))).Perm (y :: x1 :: x2 :: x3 :: x4 :: x5 :: x6 :: x7 :: x8 :: (bt ++ (wt ++ (li ++ (fr ++ (ho ++ (cx ++ rest))))))) := by wtm_at "pmyfm"
theorem pl_free {y : α} : (y :: x1 :: x2 :: x3 :: x4 :: x5 :: x6 :: x7 :: x8 :: (bt ++ (wt ++ (li ++ (fr ++ (ho ++ (cx ++ rest))))))).Perm (fr ++ (y :: x1 :: x2 :: x3 :: x4 :: x5 :: x6 :: x7 :: x8 :: (bt ++ (wt ++ (li ++ (ho ++ (cx ++ rest))))))) := by wtm_at "pmyfm"
theorem pl_back2 {y z : α} : (z :: fr ++ (y :: x1 :: x2 :: x3 :: x4 :: x5 :: x6 :: x7 :: x8 :: (bt ++ (wt ++ (li ++ (ho ++ (cx ++ rest))))))).Perm (z :: y :: x1 :: x2 :: x3 :: x4 :: x5 :: x6 :: x7 :: x8 :: (bt ++ (wt ++ (li ++ (fr ++ (ho ++ (cx ++ rest))))))) := by wtm_at "pmyfm"
theorem pl_pop : ((x7 :: wt) ++ (x1 :: x2 :: x3 :: x4 :: x5 :: x6 :: x8 :: (bt ++ (li ++ (fr ++ (ho ++ (cx ++ rest))))))).Perm (li ++ (x5 :: (x1 :: x2 :: x3 :: x4 :: x6 :: x7 :: x8 :: (bt ++ (wt ++ (fr ++ (ho ++ (cx ++ rest)))))))) := by wtm_at "pmyfm"
end
section
variable {wd : World} {A : Around} {E : Value → Shared → Prop} {c : Cx} {L nl cl wl bl ul self dl fs : Addr} {nvs cvs : List Value} {ns cs : List Int} {m t S kind : Int} {R : Nat} {tt tS tR tk : Tok} {vr : List (Option Value)} {rest cx : Led} {H : HA} {v5 v6 v10 : Option Value} {fd : FuncData} {th : Tok}
set_option maxHeartbeats 8000000 in
theorem letA {gu ro du ca co' : Option Value} {r d0 : Int} {td : Tok} {e : Nat} {uvs bvs : List Value} {un fr0 : List Int} {bg : List B3} {ws : List Wt} {N : Int} {a : Nat} {wvs : List (Int × Value)} {wt bt li fr ho : Led} {s : Shared} {Q : Flow → Shared → Prop}
    (LI : LineI wd self m dl (DueOf kind)) (hkp : keepIn (KF wd.params) (.ref LI.xfpop) = true) (k0 : 0 ≤ kind) (k5 : kind < 5)
    (hI : IntsAre nvs ns) (hlen : cs.length = ns.length) (hC : IntsAre cvs cs) (h6 : cs.length ≤ 6) (co : CsOk cs) (bo : BaseOk wd c.B) (rm : Rm 13 A) (sk : Stk A c (lawE wd L)) (ok : WsOk cs (bg.map (·.1)) ws N a) (hne : ws ≠ []) (hs : HsOk cs R S t bg e (r :: fr0) un) (fl : Fl cs R S t bg) (hle : ∀ h < a, cAt cs h ≤ t) (hacs : a ≤ cs.length) (t0 : 0 ≤ t) (S1 : 1 ≤ S) (R1 : 1 ≤ R) (R2 : R ≤ 2)
    (hU : IntsAre uvs un) (hbt : Tp3 bg bvs bt) (kw : KW ws wvs wt) (il : LI.xI ws li) (hfr : FrI wd fs R (r :: fr0) fr) (hho : HoI wd H (bg.drop e) ho) (hHS : H.S = S) (hHm : H.m = R) (hf : Has H.f (IsFnObj fd) cx) (hsp : Spec wd 5 (call (.ref H.f) []) cx (fun r l => r = .int t th ∧ l = cx))
    (w : W c (lawE wd L) Tl (gu :: some (.int t tt) :: some (.ref cl) :: some (.ref self) :: some (.ref wl) :: v5 :: v6 :: some (.ref fs) :: some (.ref H.self) :: some (.ref bl) :: v10 :: some (.ref ul) :: some (.ref dl) :: ro :: du :: ca :: co' :: some (.int R tR) :: some (.int kind tk) :: vr)
      ((L + 1, IsCl (some (.ref nl))) :: (L + 1 + 1, IsCl (some (.int S tS))) :: (nl, IsLs nvs) :: (cl, IsLs cvs) :: (dl, IsLs [.int d0 td]) :: (ul, IsLs uvs) :: (wl, IsD wd wvs) :: (bl, IsLs bvs) :: (bt ++ (wt ++ (li ++ (fr ++ (ho ++ (cx ++ rest))))))) s)
    (hQ : ∀ u gu ro du ca co' d0 td wvs wt uvs bvs bt li fr ho s', u ∈ ws → KW (rem ws u.g) wvs wt → LI.xI (rem ws u.g) li → IntsAre uvs (un.set r.toNat (t + S)) → Tp3 (bg ++ [(u.g, r, t)]) bvs bt → FrI wd fs R fr0 fr → HoI wd H ((bg ++ [(u.g, r, t)]).drop e) ho →
      W c (lawE wd L) Tl (gu :: some (.int t tt) :: some (.ref cl) :: some (.ref self) :: some (.ref wl) :: v5 :: v6 :: some (.ref fs) :: some (.ref H.self) :: some (.ref bl) :: v10 :: some (.ref ul) :: some (.ref dl) :: ro :: du :: ca :: co' :: some (.int R tR) :: some (.int kind tk) :: vr)
      ((L + 1, IsCl (some (.ref nl))) :: (L + 1 + 1, IsCl (some (.int S tS))) :: (nl, IsLs nvs) :: (cl, IsLs cvs) :: (dl, IsLs [.int d0 td]) :: (ul, IsLs uvs) :: (wl, IsD wd wvs) :: (bl, IsLs bvs) :: (bt ++ (wt ++ (li ++ (fr ++ (ho ++ (cx ++ rest))))))) s' → Q .next s') :
    wpAny (model pw wd) A (execs whileB (lawE wd L)) Q E s := by
  have hnl := hI.length
  have hcl := hC.length
  have hul := hU.length
  have hunl := hs.unl
  have hbl := hbt.len
  have hcnt := ok.cnt
  have hc2 := hs.cnt
  have hele := hs.ele
  rw [List.length_map] at hcnt
  rw [List.length_cons] at hc2
  have hwpos := List.length_pos_iff.mpr hne
  have hwl := kw.length
  have hok := ok.ok.len
  obtain ⟨t1, hv1⟩ := ints_getD hI (i := bg.length) (by omega)
  refine wpAny_execs_cons ?_
  repeat wtm_at "myfm"
  rw [hbl] at *
  refine r_lsub ‹W _ _ _ _ _ _› (by wtm_at "hxf6") (by omega) (by omega) (by rw [Int.toNat_natCast]; exact hv1) ?_ (by with_unfolding_all rfl)
  intro s1 w1
  repeat wtm_at "myfm"
  generalize hd1 : ((ns.getD bg.length 0).fdiv 3).fmod 12 = d1 at *
  refine r_lset0 ‹W _ _ _ _ _ _› (.tail (.tail (.tail (.tail .head)))) ?_
  intro s2 w2
  clear w w1
  repeat wtm_at "myfm"
  refine r_lsub ‹W _ _ _ _ _ _› (by wtm_at "hxf6") (by omega) (by omega) rfl ?_ (by with_unfolding_all rfl)
  intro s3 w3
  repeat wtm_at "myfm"
  refine W.useP ‹W _ _ _ _ _ _› bo (rm.le (by decide)) sk pl_next (con_next k0 k5 kw ok.ok hne) ?_
  rintro r0 l0 s4 ⟨⟨u, tu, hu, hdue, rfl⟩, rfl⟩ w4
  have w5 := w4.perm pl_pop
  clear w3
  repeat wtm_at "myfm"
  obtain ⟨dx, us, hx1, hx2⟩ := LI.xinst ws li il
  refine r_method ‹W _ _ _ _ _ _› bo LI.xcc LI.xmpop (.app hx1) (.app hx2) LI.xnpop ?_
  refine r_call0 hkp ‹W _ _ _ _ _ _› bo ?_
  refine LI.xpop ws li d1 _ il ok.ok hne ‹W _ _ _ _ _ _› bo (rm.le (by decide)) sk ?_
  intro tp tk1 tc1 u' li' s5 hu' hdue' il' w6
  have eu := due_unique ok.nd ok.ok hu hu' hdue hdue'
  subst eu
  refine r_unp2 w6 .head rm.handled ?_
  intro s6 w7
  have w8 := w7.perm pl_back
  clear w4 w5 w6 w7
  repeat wtm_at "myfm"
  obtain ⟨dx2, us2, hy1, hy2⟩ := hfr.inst
  refine r_method ‹W _ _ _ _ _ _› bo (cc_896 wd) (mt_896_popitem wd) (.tail (.tail (.tail (.tail (.tail (.tail (.tail (.tail (.tail (.pre (.pre (.pre (.app hy1))))))))))))) (.tail (.tail (.tail (.tail (.tail (.tail (.tail (.tail (.tail (.pre (.pre (.pre (.app hy2))))))))))))) (by decide) ?_
  repeat wtm_at "myfm"
  refine W.useP ‹W _ _ _ _ _ _› bo (rm.le (by decide)) sk pl_free (con_free_pop hfr (List.nodup_append.mp hs.nd).1 (by omega)) ?_
  rintro r1 l1 s7 ⟨tp2, tk2, tu2, fr', rfl, rfl, hfr'⟩ w9
  repeat wtm_at "myfm"
  refine r_tsub ‹W _ _ _ _ _ _› .head (by decide) (by decide) rfl ?_ (by with_unfolding_all rfl)
  intro s8 w10
  repeat wtm_at "miyfm"
  have w11 := (‹W _ _ _ _ _ _›).perm pl_back2
  have w12 := w11.sub (.cons _ (.cons _ (.refl _)))
  refine letB hC h6 co bo (rm.le (by decide)) sk ok hu hs fl hle hacs t0 S1 R1 R2 hU hbt kw hho hHS hHm hf hsp w12 ?_
  intro wvs wt uvs bvs bt ho s9 h1 h2 h3 h4 h5
  exact hQ u _ _ _ _ _ _ _ _ _ _ _ _ _ _ _ _ hu h1 il' h2 h3 hfr' h4 h5
end

local macro_rules | `(tactic| wtm_at "pmyfo") => `(tactic| (refine perm_cnt fun f => ?_; simp only [List.map_append, List.map_cons, List.map_nil, List.sum_append, List.sum_cons, List.sum_nil, List.cons_append, List.nil_append]; omega))
local macro_rules | `(tactic| wtm_at "myfo") => `(tactic| first
  | wtm_at "sxf6"
  | ((with_reducible show wpAny _ _ (call (Value.builtin "len") _) _ _ _); (first | refine r_llen ‹W _ _ _ _ _ _› (by wtm_at "hxf6") (by omega) ?_ | refine r_dlen ‹W _ _ _ _ _ _› ‹BaseOk _ _› (by wtm_at "hxf6") (by omega) ?_); intro _ _ _)
  | ((with_reducible show wpAny _ _ (callWith _ (Value.type _) [] (backTo _ (starEach (_ :: _) _)) []) _ _ _); refine PyProof.Rows.callWith_type1 ?_)
  | ((with_reducible show wpAny _ _ (call (Value.type "range") _) _ _ _); refine r_range ‹W _ _ _ _ _ _› ?_; intro _ _ _)
  | ((with_reducible show wpAny _ _ (exec (Stmt.AugAssign (PySem.Expr.Name _ _) _ _ _) _) _ _ _); refine r_augN ‹W _ _ _ _ _ _› (by wtm_at "gxf6") ?_)
  | ((with_reducible show wpAny _ _ (exec (Stmt.Assign [PySem.Expr.Tuple _ _ _] _ _) _) _ _ _); refine r_asTup ?_))
local macro_rules | `(tactic| wtm_at "miyfo") => `(tactic| ((fail_if_success (with_reducible show wpAny _ _ (execs (Stmt.If _ _ _ _ :: _) _) _ _ _)); wtm_at "myfo"))
section
variable {wd : World} {A : Around} {E : Value → Shared → Prop} {c : Cx} {L nl cl wl bl ul self dl fs : Addr} {nvs cvs : List Value} {ns cs : List Int} {m t S kind : Int} {R : Nat} {tt tS tR tk : Tok} {vr : List (Option Value)} {rest cx : Led} {H : HA} {v5 v6 v10 : Option Value} {fd : FuncData} {th : Tok}
section
variable {α : Type _} {x1 x2 x3 x4 x5 x6 x7 x8 : α} {bt wt li fr ho cx rest : List α}
theorem pl_fr : (x1 :: x2 :: x3 :: x4 :: x5 :: x6 :: x7 :: x8 :: (bt ++ (wt ++ (li ++ (fr ++ (ho ++ (cx ++ rest))))))).Perm (fr ++ (x1 :: x2 :: x3 :: x4 :: x5 :: x6 :: x7 :: x8 :: (bt ++ (wt ++ (li ++ (ho ++ (cx ++ rest))))))) := by wtm_at "pmyfo"
theorem pl_li : (x1 :: x2 :: x3 :: x4 :: x5 :: x6 :: x7 :: x8 :: (bt ++ (wt ++ (li ++ (fr ++ (ho ++ (cx ++ rest))))))).Perm (li ++ (x1 :: x2 :: x3 :: x4 :: x5 :: x6 :: x7 :: x8 :: (bt ++ (wt ++ (fr ++ (ho ++ (cx ++ rest))))))) := by wtm_at "pmyfo"
end
set_option maxHeartbeats 8000000 in
theorem letLoop {gu ro du ca co' : Option Value} {d0 : Int} {td : Tok} {e : Nat} {uvs bvs : List Value} {un fr0 : List Int} {bg : List B3} {ws : List Wt} {N : Int} {a : Nat} {wvs : List (Int × Value)} {wt bt li fr ho : Led} {s : Shared} {Q : Flow → Shared → Prop}
    (LI : LineI wd self m dl (DueOf kind)) (hkp : keepIn (KF wd.params) (.ref LI.xfpop) = true) (k0 : 0 ≤ kind) (k5 : kind < 5)
    (hI : IntsAre nvs ns) (hlen : cs.length = ns.length) (hC : IntsAre cvs cs) (h6 : cs.length ≤ 6) (co : CsOk cs) (bo : BaseOk wd c.B) (rm : Rm 13 A) (sk : Stk A c (lawE wd L)) (ok : WsOk cs (bg.map (·.1)) ws N a) (hs : HsOk cs R S t bg e fr0 un) (fl : Fl cs R S t bg) (hle : ∀ h < a, cAt cs h ≤ t) (hacs : a ≤ cs.length) (t0 : 0 ≤ t) (S1 : 1 ≤ S) (R1 : 1 ≤ R) (R2 : R ≤ 2)
    (hU : IntsAre uvs un) (hbt : Tp3 bg bvs bt) (kw : KW ws wvs wt) (il : LI.xI ws li) (hfr : FrI wd fs R fr0 fr) (hho : HoI wd H (bg.drop e) ho) (hHS : H.S = S) (hHm : H.m = R) (hf : Has H.f (IsFnObj fd) cx) (hsp : Spec wd 5 (call (.ref H.f) []) cx (fun r l => r = .int t th ∧ l = cx))
    (w : W c (lawE wd L) Tl (gu :: some (.int t tt) :: some (.ref cl) :: some (.ref self) :: some (.ref wl) :: v5 :: v6 :: some (.ref fs) :: some (.ref H.self) :: some (.ref bl) :: v10 :: some (.ref ul) :: some (.ref dl) :: ro :: du :: ca :: co' :: some (.int R tR) :: some (.int kind tk) :: vr)
      ((L + 1, IsCl (some (.ref nl))) :: (L + 1 + 1, IsCl (some (.int S tS))) :: (nl, IsLs nvs) :: (cl, IsLs cvs) :: (dl, IsLs [.int d0 td]) :: (ul, IsLs uvs) :: (wl, IsD wd wvs) :: (bl, IsLs bvs) :: (bt ++ (wt ++ (li ++ (fr ++ (ho ++ (cx ++ rest))))))) s)
    (hQ : ∀ gu ro du ca co' d0 td ws bg1 fr0 un wvs wt uvs bvs bt li fr ho s', (fr0 = [] ∨ ws = []) → WsOk cs (bg1.map (·.1)) ws N a → HsOk cs R S t bg1 e fr0 un → KW ws wvs wt → LI.xI ws li → IntsAre uvs un → Tp3 bg1 bvs bt → FrI wd fs R fr0 fr → HoI wd H (bg1.drop e) ho → bg1.take e = bg.take e →
      W c (lawE wd L) Tl (gu :: some (.int t tt) :: some (.ref cl) :: some (.ref self) :: some (.ref wl) :: v5 :: v6 :: some (.ref fs) :: some (.ref H.self) :: some (.ref bl) :: v10 :: some (.ref ul) :: some (.ref dl) :: ro :: du :: ca :: co' :: some (.int R tR) :: some (.int kind tk) :: vr)
      ((L + 1, IsCl (some (.ref nl))) :: (L + 1 + 1, IsCl (some (.int S tS))) :: (nl, IsLs nvs) :: (cl, IsLs cvs) :: (dl, IsLs [.int d0 td]) :: (ul, IsLs uvs) :: (wl, IsD wd wvs) :: (bl, IsLs bvs) :: (bt ++ (wt ++ (li ++ (fr ++ (ho ++ (cx ++ rest))))))) s' → Q .next s') :
    wpAny (model pw wd) A (exec (nth turnB 3) (lawE wd L)) Q E s := by
  refine r_while (fun k s' => ∃ (gu ro du ca co' : Option Value) (d0 : Int) (td : Tok) (ws : List Wt) (bg1 : List B3) (fr0 un : List Int) (wvs : List (Int × Value)) (wt : Led) (uvs bvs : List Value) (bt li fr ho : Led), ws.length = k ∧ WsOk cs (bg1.map (·.1)) ws N a ∧ HsOk cs R S t bg1 e fr0 un ∧ Fl cs R S t bg1 ∧ KW ws wvs wt ∧ LI.xI ws li ∧ IntsAre uvs un ∧ Tp3 bg1 bvs bt ∧ FrI wd fs R fr0 fr ∧ HoI wd H (bg1.drop e) ho ∧ bg1.take e = bg.take e ∧
      W c (lawE wd L) Tl (gu :: some (.int t tt) :: some (.ref cl) :: some (.ref self) :: some (.ref wl) :: v5 :: v6 :: some (.ref fs) :: some (.ref H.self) :: some (.ref bl) :: v10 :: some (.ref ul) :: some (.ref dl) :: ro :: du :: ca :: co' :: some (.int R tR) :: some (.int kind tk) :: vr)
      ((L + 1, IsCl (some (.ref nl))) :: (L + 1 + 1, IsCl (some (.int S tS))) :: (nl, IsLs nvs) :: (cl, IsLs cvs) :: (dl, IsLs [.int d0 td]) :: (ul, IsLs uvs) :: (wl, IsD wd wvs) :: (bl, IsLs bvs) :: (bt ++ (wt ++ (li ++ (fr ++ (ho ++ (cx ++ rest))))))) s') ws.length ⟨gu, ro, du, ca, co', d0, td, ws, bg, fr0, un, wvs, wt, uvs, bvs, bt, li, fr, ho, rfl, ok, hs, fl, kw, il, hU, hbt, hfr, hho, rfl, w⟩ ?_
  clear w ok hs fl kw il hU hbt hfr hho
  rintro k s1 E' ⟨gu, ro, du, ca, co', d0, td, ws, bg1, fr0, un, wvs, wt, uvs, bvs, bt, li, fr, ho, rfl, ok, hs, fl, kw, il, hU, hbt, hfr, hho, htk, w⟩
  have hc2 := hs.cnt
  have hele := hs.ele
  have hcnt := ok.cnt
  rw [List.length_map] at hcnt
  have hfl : fr0.length ≤ R := by omega
  obtain ⟨dx2, us2, hy1, hy2⟩ := hfr.inst
  repeat wtm_at "myfo"
  refine r_lenU w bo (rm.le (by decide) : Rm (9 + 1) A) sk (mt_896_len wd) (.tail (.tail (.tail (.tail (.tail (.tail (.tail (.tail (.pre (.pre (.pre (.app hy1)))))))))))) (.tail (.tail (.tail (.tail (.tail (.tail (.tail (.tail (.pre (.pre (.pre (.app hy2)))))))))))) pl_fr (con_free_len hfr (by omega)) (by omega) ?_
  intro t1 fr' s2 hfr' w2
  have w3 := w2.perm pl_fr.symm
  clear w w2 hfr
  cases fr0 with
  | nil =>
    repeat wtm_at "myfo"
    exact hQ _ _ _ _ _ _ _ _ _ _ _ _ _ _ _ _ _ _ _ _ (.inl rfl) ok hs kw il hU hbt hfr' hho htk ‹W _ _ _ _ _ _›
  | cons r fr0 =>
    rw [List.length_cons] at hc2
    have hpos : (0 : Int) < ((r :: fr0).length : Int) := by rw [List.length_cons]; omega
    repeat wtm_at "myfo"
    obtain ⟨dx, us, hx1, hx2⟩ := LI.xinst ws li il
    have hok := ok.ok.len
    refine r_lenU ‹W _ _ _ _ _ _› bo (rm.le (by decide) : Rm (9 + 1) A) sk LI.xmlen (.tail (.tail (.tail (.tail (.tail (.tail (.tail (.tail (.pre (.pre (.app hx1))))))))))) (.tail (.tail (.tail (.tail (.tail (.tail (.tail (.tail (.pre (.pre (.app hx2))))))))))) pl_li (LI.xlen ws li il ok.ok) (by omega) ?_
    intro t2 li' s4 il' w4
    have w5 := w4.perm pl_li.symm
    clear w3 w4 il
    by_cases hne : ws = []
    · subst hne
      repeat wtm_at "myfo"
      exact hQ _ _ _ _ _ _ _ _ _ _ _ _ _ _ _ _ _ _ _ _ (.inr rfl) ok hs kw il' hU hbt hfr' hho htk ‹W _ _ _ _ _ _›
    · have hpos2 : (0 : Int) < (ws.length : Int) := by have := List.length_pos_iff.mpr hne; omega
      wtm_at "myfo"
      wtm_at "myfo"
      wtm_at "myfo"
      refine if_t (decide_eq_true hpos2) ?_
      refine isTrue_and_nil ?_
      refine if_t rfl ?_
      have hcl2 : bg1.length < cs.length := by have := List.length_pos_iff.mpr hne; omega
      have hC2 : cAt cs bg1.length ≤ t := hle _ (by have := List.length_pos_iff.mpr hne; omega)
      refine letA LI hkp k0 k5 hI hlen hC h6 co bo rm sk ok hne hs fl hle hacs t0 S1 R1 R2 hU hbt kw il' hfr' hho hHS hHm hf hsp ‹W _ _ _ _ _ _› ?_
      intro u gu ro du ca co' d0 td wvs wt uvs bvs bt li fr ho s5 hu kw2 il2 hU2 hbt2 hfr2 hho2 w6
      have hrl := rem_len ok.ok.nd hu
      exact ⟨(rem ws u.g).length, by omega, gu, ro, du, ca, co', d0, td, rem ws u.g, bg1 ++ [(u.g, r, t)], fr0, un.set r.toNat (t + S), wvs, wt, uvs, bvs, bt, li, fr, ho, rfl, by rw [List.map_append]; exact ok.take hu, hs.step co fl hcl2 hC2 t0 S1 R1 u.g, fl.step _, kw2, il2, hU2, hbt2, hfr2, hho2, by rw [List.take_append_of_le_length hele]; exact htk, w6⟩
end

local macro_rules | `(tactic| wtm_at "pmyfp") => `(tactic| (refine perm_cnt fun f => ?_; simp only [List.map_append, List.map_cons, List.map_nil, List.sum_append, List.sum_cons, List.sum_nil, List.cons_append, List.nil_append]; omega))
local macro_rules | `(tactic| wtm_at "myfp") => `(tactic| first
  | wtm_at "sxf6"
  | ((with_reducible show wpAny _ _ (call (Value.builtin "len") _) _ _ _); (first | refine r_llen ‹W _ _ _ _ _ _› (by wtm_at "hxf6") (by omega) ?_ | refine r_dlen ‹W _ _ _ _ _ _› ‹BaseOk _ _› (by wtm_at "hxf6") (by omega) ?_); intro _ _ _)
  | ((with_reducible show wpAny _ _ (callWith _ (Value.type _) [] (backTo _ (starEach (_ :: _) _)) []) _ _ _); refine PyProof.Rows.callWith_type1 ?_)
  | ((with_reducible show wpAny _ _ (call (Value.type "range") _) _ _ _); refine r_range ‹W _ _ _ _ _ _› ?_; intro _ _ _)
  | ((with_reducible show wpAny _ _ (exec (Stmt.AugAssign (PySem.Expr.Name _ _) _ _ _) _) _ _ _); refine r_augN ‹W _ _ _ _ _ _› (by wtm_at "gxf6") ?_)
  | ((with_reducible show wpAny _ _ (exec (Stmt.Assign [PySem.Expr.Tuple _ _ _] _ _) _) _ _ _); refine r_asTup ?_))
local macro_rules | `(tactic| wtm_at "miyfp") => `(tactic| ((fail_if_success (with_reducible show wpAny _ _ (execs (Stmt.If _ _ _ _ :: _) _) _ _ _)); wtm_at "myfp"))
def outL (S : Int) (bs : List B3) : List B3 := bs.map fun b => (b.1, b.2.1, b.2.2 + S)
section
variable {α : Type _} {f c h x1 x2 nl cl dl ul wl bl ll : α} {k : α} {bt lt wt li fr ho rest : List α}
theorem pt_exp {I : α} : (I :: f :: c :: k :: h :: x1 :: x2 :: nl :: cl :: dl :: ul :: wl :: bl :: ll :: (bt ++ (lt ++ (wt ++ (li ++ (fr ++ (ho ++ rest))))))).Perm
    (ll :: (lt ++ (fr ++ (ho ++ ([f, c, k, h] ++ (I :: x1 :: x2 :: nl :: cl :: dl :: ul :: wl :: bl :: (bt ++ (wt ++ (li ++ rest))))))))) := by wtm_at "pmyfp"
theorem pt_arr {I : α} : (ll :: (lt ++ (fr ++ (ho ++ ([f, c, k, h] ++ (I :: x1 :: x2 :: nl :: cl :: dl :: ul :: wl :: bl :: (bt ++ (wt ++ (li ++ rest))))))))).Perm
    (x1 :: nl :: cl :: wl :: (wt ++ (li ++ (I :: x2 :: dl :: ul :: bl :: ll :: f :: c :: k :: h :: (bt ++ (lt ++ (fr ++ (ho ++ rest)))))))) := by wtm_at "pmyfp"
theorem pt_let {I : α} : (x1 :: nl :: cl :: wl :: (wt ++ (li ++ (I :: x2 :: dl :: ul :: bl :: ll :: f :: c :: k :: h :: (bt ++ (lt ++ (fr ++ (ho ++ rest)))))))).Perm
    (x1 :: x2 :: nl :: cl :: dl :: ul :: wl :: bl :: (bt ++ (wt ++ (li ++ (fr ++ (ho ++ ([f, c, k, h] ++ (I :: ll :: (lt ++ rest))))))))) := by wtm_at "pmyfp"
theorem pt_end {I : α} : (x1 :: x2 :: nl :: cl :: dl :: ul :: wl :: bl :: (bt ++ (wt ++ (li ++ (fr ++ (ho ++ ([f, c, k, h] ++ (I :: ll :: (lt ++ rest))))))))).Perm
    (I :: f :: c :: k :: h :: x1 :: x2 :: nl :: cl :: dl :: ul :: wl :: bl :: ll :: (bt ++ (lt ++ (wt ++ (li ++ (fr ++ (ho ++ rest))))))) := by wtm_at "pmyfp"
end
section
variable {wd : World} {A : Around} {E : Value → Shared → Prop} {c : Cx} {L nl cl wl bl ll ul self dl fs f c' hl : Addr} {doc pm ctv : Value} {nvs cvs : List Value} {ns cs : List Int} {m S kind : Int} {R : Nat} {tS tR tk : Tok} {vr : List (Option Value)} {rest : Led} {H : HA}
def TurnI (LI : LineI wd self m dl (DueOf kind)) (cs : List Int) (R : Nat) (S : Int) (fs : Addr) (H : HA) (j : Int) (N : Int) (ws : List Wt) (bg : List B3) (e a : Nat) (fr0 un : List Int) (wvs : List (Int × Value)) (uvs bvs lvs : List Value) (bt lt wt li fr ho : Led) : Prop :=
  Arr cs j 0 a ∧ WsOk cs (bg.map (·.1)) ws N a ∧ HsOk cs R S (j - 1) bg e fr0 un ∧ Fl cs R S j bg ∧ KW ws wvs wt ∧ LI.xI ws li ∧ IntsAre uvs un ∧ Tp3 bg bvs bt ∧ Tp3 (outL S (bg.take e)) lvs lt ∧ FrI wd fs R fr0 fr ∧ HoI wd H (bg.drop e) ho ∧ (j = 0 ∨ (Arr cs (j - 1) cs.length a ∧ (fr0 = [] ∨ ws = [])))
set_option maxHeartbeats 8000000 in
theorem turnLoop {gu tu ot ro du ca co' : Option Value} {N : Int} {tn : Tok} {h : Int} {th : Tok} {d0 : Int} {td : Tok} {ws : List Wt} {bg : List B3} {e a : Nat} {fr0 un : List Int} {wvs : List (Int × Value)} {uvs bvs lvs : List Value} {bt lt wt li fr ho : Led} {s : Shared} {Q : Flow → Shared → Prop}
    (LI : LineI wd self m dl (DueOf kind)) (hkp : keepIn (KF wd.params) (.ref LI.xfpop) = true) (k0 : 0 ≤ kind) (k5 : kind < 5) (hm : (ns.length : Int) = m)
    (hI : IntsAre nvs ns) (hlen : cs.length = ns.length) (hC : IntsAre cvs cs) (h6 : cs.length ≤ 6) (h1 : 1 ≤ cs.length) (co : CsOk cs) (hl9 : lastC cs ≤ 100) (bo : BaseOk wd c.B) (rm : Rm 13 A) (sk : Stk A c (lawE wd L)) (S1 : 1 ≤ S) (S3 : S ≤ 3) (R1 : 1 ≤ R) (R2 : R ≤ 2) (hHS : H.S = S) (hHm : H.m = R) (hf : H.f = f)
    (ti : TurnI LI cs R S fs H 0 N ws bg e a fr0 un wvs uvs bvs lvs bt lt wt li fr ho)
    (w : W c (lawE wd L) Tl (gu :: tu :: some (.ref cl) :: some (.ref self) :: some (.ref wl) :: some (.int N tn) :: ot :: some (.ref fs) :: some (.ref H.self) :: some (.ref bl) :: some (.ref ll) :: some (.ref ul) :: some (.ref dl) :: ro :: du :: ca :: co' :: some (.int R tR) :: some (.int kind tk) :: vr) ((f, IsFnObj (clockFd (L + 1 + 2) c' doc pm ctv)) :: (c', IsCode "law.<locals>.clock") :: (L + 1 + 2, IsCl (some (.ref hl))) :: (hl, IsLs [.int h th]) :: (L + 1, IsCl (some (.ref nl))) :: (L + 1 + 1, IsCl (some (.int S tS))) :: (nl, IsLs nvs) :: (cl, IsLs cvs) :: (dl, IsLs [.int d0 td]) :: (ul, IsLs uvs) :: (wl, IsD wd wvs) :: (bl, IsLs bvs) :: (ll, IsLs lvs) :: (bt ++ (lt ++ (wt ++ (li ++ (fr ++ (ho ++ rest))))))) s)
    (hQ : ∀ gu tu ot ro du ca co' N tn h th d0 td bg wvs uvs bvs lvs bt lt wt li fr ho s', bg.length = cs.length → Tp3 bg bvs bt → Tp3 (outL S bg) lvs lt →
      W c (lawE wd L) Tl (gu :: tu :: some (.ref cl) :: some (.ref self) :: some (.ref wl) :: some (.int N tn) :: ot :: some (.ref fs) :: some (.ref H.self) :: some (.ref bl) :: some (.ref ll) :: some (.ref ul) :: some (.ref dl) :: ro :: du :: ca :: co' :: some (.int R tR) :: some (.int kind tk) :: vr) ((f, IsFnObj (clockFd (L + 1 + 2) c' doc pm ctv)) :: (c', IsCode "law.<locals>.clock") :: (L + 1 + 2, IsCl (some (.ref hl))) :: (hl, IsLs [.int h th]) :: (L + 1, IsCl (some (.ref nl))) :: (L + 1 + 1, IsCl (some (.int S tS))) :: (nl, IsLs nvs) :: (cl, IsLs cvs) :: (dl, IsLs [.int d0 td]) :: (ul, IsLs uvs) :: (wl, IsD wd wvs) :: (bl, IsLs bvs) :: (ll, IsLs lvs) :: (bt ++ (lt ++ (wt ++ (li ++ (fr ++ (ho ++ rest))))))) s' → Q .next s') :
    wpAny (model pw wd) A (exec (nth lawB 18) (lawE wd L)) Q E s := by
  subst hf
  have hnl := hI.length
  have hcl := hC.length
  obtain ⟨t1, hv1⟩ := ints_getD hC (i := cs.length - 1) (by omega)
  refine r_for ?_
  repeat wtm_at "myfp"
  refine r_lsub_last ‹W _ _ _ _ _ _› (by wtm_at "hxf6") (by rw [hcl]; exact hv1) ?_ (by with_unfolding_all rfl)
  intro s1 w1
  repeat wtm_at "myfp"
  refine r_mul ‹W _ _ _ _ _ _› (IntMulOk.of_left (by
    have : S = 1 ∨ S = 2 ∨ S = 3 := by omega
    rcases this with rfl | rfl | rfl <;> decide)) ?_
  intro t2 s2 w2
  repeat wtm_at "myfp"
  have e1 : cs.getD (cs.length - 1) 0 + S * (nvs.length : Int) + 1 = lastC cs + S * (cs.length : Int) + 1 := by rw [hnl, ← hlen]
  have w5 := ‹W _ _ _ _ _ _›
  rw [e1] at w5
  have hS0 : 0 ≤ S * (cs.length : Int) := Int.mul_nonneg (by omega) (by omega)
  have hS1 : S * (cs.length : Int) ≤ 3 * 6 := Int.mul_le_mul S3 (by omega) (by omega) (by omega)
  have hp0 : 0 ≤ lastC cs := co.pos _
  refine r_iterR w5 .head (by omega) (by omega) ?_
  intro I s3 w3
  have w4 := w3.sub (.cons_cons _ (.cons _ (.refl _)))
  clear w w1 w2 w3 w5
  generalize hT : lastC cs + S * (cs.length : Int) + 1 = Tt at *
  refine ⟨fun k s' => ∃ (j : Nat) (gu tu ot ro du ca co' : Option Value) (N : Int) (tn : Tok) (h : Int) (th : Tok) (d0 : Int) (td : Tok) (ws : List Wt) (bg : List B3) (e a : Nat) (fr0 un : List Int) (wvs : List (Int × Value)) (uvs bvs lvs : List Value) (bt lt wt li fr ho : Led), (j : Int) + k = Tt ∧ TurnI LI cs R S fs H j N ws bg e a fr0 un wvs uvs bvs lvs bt lt wt li fr ho ∧
    W c (lawE wd L) Tl (gu :: tu :: some (.ref cl) :: some (.ref self) :: some (.ref wl) :: some (.int N tn) :: ot :: some (.ref fs) :: some (.ref H.self) :: some (.ref bl) :: some (.ref ll) :: some (.ref ul) :: some (.ref dl) :: ro :: du :: ca :: co' :: some (.int R tR) :: some (.int kind tk) :: vr) ((I, IsRi j k) :: (H.f, IsFnObj (clockFd (L + 1 + 2) c' doc pm ctv)) :: (c', IsCode "law.<locals>.clock") :: (L + 1 + 2, IsCl (some (.ref hl))) :: (hl, IsLs [.int h th]) :: (L + 1, IsCl (some (.ref nl))) :: (L + 1 + 1, IsCl (some (.int S tS))) :: (nl, IsLs nvs) :: (cl, IsLs cvs) :: (dl, IsLs [.int d0 td]) :: (ul, IsLs uvs) :: (wl, IsD wd wvs) :: (bl, IsLs bvs) :: (ll, IsLs lvs) :: (bt ++ (lt ++ (wt ++ (li ++ (fr ++ (ho ++ rest))))))) s', Tt.toNat, ⟨0, gu, tu, ot, ro, du, ca, co', N, tn, h, th, d0, td, ws, bg, e, a, fr0, un, wvs, uvs, bvs, lvs, bt, lt, wt, li, fr, ho, by omega, ti, by rw [Int.toNat_of_nonneg (by omega)]; exact w4⟩, ?_⟩
  clear w4 ti
  rintro k s5 E' ⟨j, gu, tu, ot, ro, du, ca, co', N, tn, h, th, d0, td, ws, bg, e, a, fr0, un, wvs, uvs, bvs, lvs, bt, lt, wt, li, fr, ho, hjk, ⟨iar, iok, ihs, ifl, ikw, ili, iun, ibt, ilt, ifr, iho, iend⟩, w⟩
  have hcnt := iok.cnt
  rw [List.length_map] at hcnt
  have hale := iar.le
  have hele := ihs.ele
  cases k with
  | zero =>
    refine r_nextR_end w rm.handled .head (by omega) ?_
    intro s6 w6
    obtain ⟨z1, z2⟩ := iend.resolve_left (by omega)
    obtain ⟨z3, z4⟩ := all_over ihs co iok z1 R1 S1 z2 (by omega)
    rw [z4, ← z3, List.take_length] at ilt
    exact hQ _ _ _ _ _ _ _ _ _ _ _ _ _ _ _ _ _ _ _ _ _ _ _ _ _ z3 ibt ilt w6
  | succ k =>
    obtain ⟨xs, ys, ex, hx1, hy1, ihs2, htk2, hdr2⟩ := ihs.leave (by omega)
    rw [show (j : Int) - 1 + 1 = j by omega] at hx1 hy1 ihs2
    have hc2 := ihs2.cnt
    have hele2 := ihs2.ele
    have hxl : xs.length + ys.length + e = bg.length := by
      have := congrArg List.length ex
      rw [List.length_drop, List.length_append] at this
      omega
    refine r_nextR w .head (by omega) ?_
    intro tg s6 w6
    refine r_goN ?_
    clear w
    repeat wtm_at "myfp"
    refine r_lset0 ‹W _ _ _ _ _ _› (.tail (.tail (.tail (.tail .head)))) ?_
    intro s7 w7
    clear w6
    repeat wtm_at "myfp"
    refine expLoop (xs := xs) (ys := ys) bo (rm.le (by decide)) sk (by rw [← ex]; exact iho) ifr ilt (fun b hb => by rw [hHS]; exact Int.le_of_eq (hx1 b hb)) (fun b hb => by rw [hHS]; exact hy1 b hb) (by rw [List.length_append]; omega) (by unfold outL; rw [List.length_map, List.length_take]; omega) (List.nodup_append.mp ihs2.nd).1 (by omega) (by rw [List.length_append, List.length_map] at hc2; omega) .head con_clock (w7.perm pt_exp) ?_
    intro gu ro lvs lt fr ho s8 ilt2 ifr2 iho2 w8
    repeat wtm_at "myfp"
    refine arr LI hI hC hlen (by omega) hm co.mono bo (rm.le (by decide)) sk iar iok ikw ili (w8.perm pt_arr) ?_
    intro gu ot ws N tn a wvs wt li s9 iar2 iok2 ikw2 ili2 w9
    refine wpAny_execs_cons ?_
    refine letLoop LI hkp k0 k5 hI hlen hC h6 co bo rm sk iok2 ihs2 ifl (fun h hh => (iar2.lo h hh).1) iar2.le (by omega) S1 R1 R2 iun ibt ikw2 ili2 ifr2 (by rw [hdr2]; exact iho2) hHS hHm .head con_clock (w9.perm pt_let) ?_
    intro gu ro du ca co' d0 td ws bg1 fr1 un wvs wt uvs bvs bt li fr ho s10 hx iok3 ihs3 ikw3 ili3 iun3 ibt3 ifr3 iho3 htk3 w10
    refine wpAny_execs_nil ?_
    have hout : outL S (bg1.take (e + xs.length)) = outL S (bg.take e) ++ xs.map fun b => (b.1, b.2.1, (j : Int)) := by
      rw [htk3, htk2]
      unfold outL
      rw [List.map_append]
      congr 1
      exact List.map_congr_left fun b hb => by rw [hx1 b hb]
    have e2 : ((k + 1 : Nat) : Int) - 1 = (k : Int) := by omega
    have w11 := w10.perm pt_end
    rw [e2] at w11
    refine ⟨k, Nat.lt_succ_self k, j + 1, gu, _, _, ro, du, ca, co', N, tn, _, _, d0, td, ws, bg1, e + xs.length, a, fr1, un, wvs, uvs, bvs, lvs, bt, lt, wt, li, fr, ho, by omega, ⟨iar2.next, iok3, ?_, fl_next ihs3 iok3 iar2 R1 hx, ikw3, ili3, iun3, ibt3, by rw [hout]; exact ilt2, ifr3, iho3, .inr ⟨?_, hx⟩⟩, w11⟩
    · rw [show ((j + 1 : Nat) : Int) - 1 = j by omega]; exact ihs3
    · rw [show ((j + 1 : Nat) : Int) - 1 = j by omega]; exact iar2
end

def CompGoT (wd : World) (A : Around) (c1 : Cx) (cenv : Env) (Tc : List Str) (elt : PySem.Expr) (elts : List PySem.Expr) (kk : Nat) (tp : Pos) (it : Value) (D : Addr) (Fin : List Value → Led → Prop) (l : Led) : Prop :=
  ∃ (Inv : Nat → List Value → Led → List (Option Value) → Prop) (k0 : Nat), Inv k0 [] l (Tc.map fun _ => none) ∧
    ∀ k ys l' vc s E', Inv k ys l' vc → W c1 cenv Tc vc ((D, IsLs ys) :: l') s → wpAny (model pw wd) A (pyNext it) (fun r s1 => match r with
      | none => ∃ l'', W c1 cenv Tc vc ((D, IsLs ys) :: l'') s1 ∧ Fin ys l''
      | some v => wpAny (model pw wd) A (letOwnedTupleGo (.Tuple elts kk tp) it v) (fun _ s0 => wpAny (model pw wd) A (assign (.Tuple elts kk tp) cenv v) (fun _ s2 => wpAny (model pw wd) A (eval elt cenv) (fun x s3 => ∃ l'' vc'' m, W c1 cenv Tc vc'' ((D, IsLs ys) :: l'') s3 ∧ ys.length ≤ 1000 ∧ m < k ∧ Inv m (ys ++ [x]) l'' vc'') E' s2) E' s0) E' s1) E' s
section
variable {wd : World} {A : Around} {E : Value → Shared → Prop} {c : Cx} {env : Env} {T Tc : List Str} {vs : List (Option Value)} {l : Led} {s : Shared}
theorem comp_loopT {elt iter : PySem.Expr} {elts : List PySem.Expr} {kk : Nat} {tp : Pos} {scope : Scope} {pos : Pos} {it : Value} {D : Addr} {cenv : Env} {c1 : Cx} {Fin : List Value → Led → Prop} {R : Result → Shared → Prop}
    (g : CompGoT wd A c1 cenv Tc elt elts kk tp it D Fin l) (w : W c1 cenv Tc (Tc.map fun _ => none) ((D, IsLs []) :: l) s)
    (hR : ∀ ys l'' vc s', Fin ys l'' → W c1 cenv Tc vc ((D, IsLs ys) :: l'') s' → R (.ok .next) s') :
    codeAny (model pw wd) A (.compLoop (.ListComp elt [⟨.Tuple elts kk tp, iter, [], 0⟩] scope pos) 0 it (.ref D) cenv) R s := by
  obtain ⟨Inv, k0, h0, turn⟩ := g
  refine LCp.codeAny_compLoop_pair (fun k s' => ∃ ys l' vc, Inv k ys l' vc ∧ W c1 cenv Tc vc ((D, IsLs ys) :: l') s') (fun k s' ⟨ys, l', vc, hi, w'⟩ => ?_) k0 ⟨[], l, _, h0, w⟩
  refine wpAny_mono (turn k ys l' vc s' _ hi w') (fun r s1 h1 => ?_) fun _ _ e => e
  cases r with
  | none =>
    obtain ⟨l'', w2, hf⟩ := h1
    exact hR ys l'' vc s1 hf w2
  | some v =>
    refine wpAny_mono h1 (fun _ s0 h0' => ?_) fun _ _ e => e
    refine wpAny_mono h0' (fun _ s2 h2 => ?_) fun _ _ e => e
    refine wpAny_mono h2 (fun x s3 h3 => ?_) fun _ _ e => e
    obtain ⟨l'', vc'', m, w3, hz, hm, hi'⟩ := h3
    exact r_lappend w3 .head hz fun s4 w4 => ⟨m, hm, _, l'', vc'', hi', w4⟩
theorem comp_blockT {elt iter : PySem.Expr} {elts : List PySem.Expr} {kk : Nat} {tp : Pos} {scope : Scope} {cl : List (Str × Addr)} {pos : Pos} {it : Value} {Fin : List Value → Led → Prop} {RR : Value → Addr → Result → Shared → Prop}
    (w : W c env T vs l s) (hcell : ∀ y ∈ scope.names, y.2 ≠ .cell) (hkind : scope.kind = .function) (hfx : ∀ C, Fx (compEnvC scope cl C env) Tc)
    (hit : ∀ (c' : Cx) (env' : Env) (T' : List Str) (vs' : List (Option Value)) (s' : Shared) (E' : Value → Shared → Prop) (Q : Value → Shared → Prop), (∃ f, W c' env' T' vs' (f :: l) s') → Q it s' → wpAny (model pw wd) A (pyIter it) Q E' s')
    (g : ∀ D C, CompGoT wd A (c.inn env.locals (loc T vs)) (compEnvC scope cl C env) Tc elt elts kk tp it D Fin l)
    (hRR : ∀ D C ys l'' vc s', Fin ys l'' → W (c.inn env.locals (loc T vs)) (compEnvC scope cl C env) Tc vc ((D, IsLs ys) :: l'') s' → RR (.ref D) C (.ok .next) s') :
    wpAny (model pw wd) A (newList []) (fun acc s₃ => wpAny (model pw wd) A (newFunctionEnv scope env.globals cl [] env.qual none .none (some env)) (fun cenv s₄ =>
      codeAny (model pw wd) A (.compStart (.ListComp elt [⟨.Tuple elts kk tp, iter, [], 0⟩] scope pos) 0 it acc { cenv with scope := relabel scope env }) (RR acc cenv.locals) s₄) E s₃) E s := by
  refine wpAny_newObj_type ?_
  have w1 : W c env T vs ((s.heap.objs.size, IsLs []) :: l) { s with heap := s.heap.push { cls := .type "list", data := .seq ([] : List Value).toArray } } := w.alloc (tk := s.toks) rfl ⟨0, rfl⟩
  refine wpAny_newFunctionEnv hcell (by intro y hy; simp at hy) (fun h₁ hns₁ hsb₁ => ?_) hkind
  generalize hD : s.heap.objs.size = D at w1 ⊢
  generalize hs1 : ({ s with heap := s.heap.push { cls := .type "list", data := .seq ([] : List Value).toArray } } : Shared) = s1 at w1 hns₁ hsb₁ ⊢
  have w2 : W c env T vs ((s1.heap.objs.size, NsObj (loc Tc (Tc.map fun _ => none))) :: (D, IsLs []) :: l) { s1 with heap := h₁, toks := s1.toks + ([] : List (Str × Value)).length } := by
    have wa := w1.alloc (tk := s1.toks) (o := { cls := .type "dict", data := .dict #[] }) (P := NsObj (loc Tc (Tc.map fun _ => none))) rfl ⟨#[], 0, rfl, by intro e he; simp at he, fun n => by rw [loc_none]; rfl⟩
    obtain ⟨oC, es, ep, hC, hCd, hCk, hCf⟩ := hns₁
    exact wa.upd (tk := s1.toks + 0) (.head) hsb₁ hC ⟨es, ep, hCd, hCk, fun n => by rw [loc_none]; exact hCf n⟩
  have hCb : c.B.objs.size ≤ s1.heap.objs.size := w1.own.size
  have w3 := W.swap (cenv := compEnvC scope cl s1.heap.objs.size env) (Tc := Tc) (vc := Tc.map fun _ => none) w2 (hfx _) hCb
  have loop : codeAny (model pw wd) A (.compLoop (.ListComp elt [⟨.Tuple elts kk tp, iter, [], 0⟩] scope pos) 0 it (.ref D) (compEnvC scope cl s1.heap.objs.size env)) (RR (.ref D) s1.heap.objs.size) { s1 with heap := h₁, toks := s1.toks + ([] : List (Str × Value)).length } :=
    comp_loopT (g D s1.heap.objs.size) w3 fun ys l'' vc s' hf w' => hRR _ _ ys l'' vc s' hf w'
  exact codeAny_compStart_list loop (hit _ _ _ _ _ _ _ ⟨_, w3⟩ loop)
theorem r_lcompT {elt iter : PySem.Expr} {elts : List PySem.Expr} {kk : Nat} {tp : Pos} {scope : Scope} {cl : List (Str × Addr)} {pos : Pos} {Q : Value → Shared → Prop}
    (hclos : closureFor scope env = pure cl) (hcell : ∀ y ∈ scope.names, y.2 ≠ .cell) (hkind : scope.kind = .function) (hnames : ∀ y ∈ scope.names, y.2 = .local → scope.names.lookup y.1 = some .local) (hfx : ∀ C, Fx (compEnvC scope cl C env) Tc)
    (h : wpAny (model pw wd) A (eval iter env) (fun xv s₁ => wpAny (model pw wd) A (pyIter xv) (fun it s₂ => ∃ (l2 : Led) (Fin : List Value → Led → Prop), W c env T vs l2 s₂ ∧
      (∀ (c' : Cx) (env' : Env) (T' : List Str) (vs' : List (Option Value)) (s' : Shared) (E' : Value → Shared → Prop) (Q : Value → Shared → Prop), (∃ f, W c' env' T' vs' (f :: l2) s') → Q it s' → wpAny (model pw wd) A (pyIter it) Q E' s') ∧
      (∀ D C, CompGoT wd A (c.inn env.locals (loc T vs)) (compEnvC scope cl C env) Tc elt elts kk tp it D Fin l2) ∧ ∀ D ys l'' s', Fin ys l'' → W c env T vs ((D, IsLs ys) :: l'') s' → Q (.ref D) s') E s₁) E s)
    (hs : ∀ x, foldedSetIterable iter env x = pure x := by intro _; rfl) : wpAny (model pw wd) A (eval (.ListComp elt [⟨.Tuple elts kk tp, iter, [], 0⟩] scope pos) env) Q E s := by
  rw [eval_ListComp]
  refine wpAny_comprehension_free (use := none) rfl hs hclos hkind hnames (wpAny_mono h (fun xv s₁ h₁ => wpAny_mono h₁ (fun it s₂ h₂ => ?_) fun _ _ e => e) fun _ _ e => e)
  obtain ⟨l2, Fin, w, hit, g, hQ⟩ := h₂
  refine comp_blockT (RR := fun acc C => compPost (model pw wd) A E none Q acc C) w hcell hkind hfx hit g fun D C ys l'' vc s' hf w' => ?_
  have w2 := W.unswap w' w.fx w.fr.above
  obtain ⟨oC, hoC, es, ep, h1, h2, h3⟩ := w2.own.led _ (.head _)
  refine ⟨_, ⟨oC, es, ep, hoC, h1, h2, h3⟩, fun h' hs' => hQ D ys l'' _ hf (w2.forget (tk := s'.toks) .head fun b o hb e => hs'.extBut b o hb e)⟩
end

local macro_rules | `(tactic| wtm_at "pmyfr") => `(tactic| (refine perm_cnt fun f => ?_; simp only [List.map_append, List.map_cons, List.map_nil, List.sum_append, List.sum_cons, List.sum_nil, List.cons_append, List.nil_append]; omega))
local macro_rules | `(tactic| wtm_at "myfr") => `(tactic| first
  | wtm_at "sxf6"
  | ((with_reducible show wpAny _ _ (call (Value.builtin "len") _) _ _ _); (first | refine r_llen ‹W _ _ _ _ _ _› (by wtm_at "hxf6") (by omega) ?_ | refine r_dlen ‹W _ _ _ _ _ _› ‹BaseOk _ _› (by wtm_at "hxf6") (by omega) ?_); intro _ _ _)
  | ((with_reducible show wpAny _ _ (callWith _ (Value.type _) [] (backTo _ (starEach (_ :: _) _)) []) _ _ _); refine PyProof.Rows.callWith_type1 ?_)
  | ((with_reducible show wpAny _ _ (call (Value.type "range") _) _ _ _); refine r_range ‹W _ _ _ _ _ _› ?_; intro _ _ _)
  | ((with_reducible show wpAny _ _ (exec (Stmt.AugAssign (PySem.Expr.Name _ _) _ _ _) _) _ _ _); refine r_augN ‹W _ _ _ _ _ _› (by wtm_at "gxf6") ?_)
  | ((with_reducible show wpAny _ _ (exec (Stmt.Assign [PySem.Expr.Tuple _ _ _] _ _) _) _ _ _); refine r_asTup ?_))
local macro_rules | `(tactic| wtm_at "miyfr") => `(tactic| ((fail_if_success (with_reducible show wpAny _ _ (execs (Stmt.If _ _ _ _ :: _) _) _ _ _)); wtm_at "myfr"))
def d3 (b : B3) : PyData := .tuple [.int b.1, .int b.2.1, .int b.2.2]
theorem readsAll_snoc {h : Heap} {v : Value} {d : PyData} {bs : List Addr} (r : Reads h v d bs) : ∀ {vs : List Value} {ds : List PyData} {as : List Addr}, ReadsAll h vs ds as → ∃ cs, ReadsAll h (vs ++ [v]) (ds ++ [d]) cs
  | _, _, _, .nil => ⟨_, .cons r .nil⟩
  | _, _, _, .cons r1 r2 => let ⟨cs, h⟩ := readsAll_snoc r r2; ⟨_, .cons r1 h⟩
theorem reads_tu {c : Cx} {l : Led} {s : Shared} {tp : Addr} {a b d : Int} {t1 t2 t3 : Tok} (o : Own c l s) (h : Has tp (IsTu [.int a t1, .int b t2, .int d t3]) l) : ∃ as, Reads s.heap (.ref tp) (d3 (a, b, d)) as := by
  obtain ⟨ob, hob, e⟩ := o.get h
  rw [e] at hob
  exact ⟨_, .tuple hob rfl rfl (.cons (.int a t1) (.cons (.int b t2) (.cons (.int d t3) .nil)))⟩
theorem reads_all {c : Cx} {l : Led} {s : Shared} (o : Own c l s) {bs ys lp} (h : Tp3 bs ys lp) : (∀ a P, Has a P lp → Has a P l) → ∃ as, ReadsAll s.heap ys (bs.map d3) as := by
  induction h with
  | nil => intro _; exact ⟨_, .nil⟩
  | snoc h ih =>
    intro sub
    obtain ⟨as, ra⟩ := ih fun a P q => sub a P (.tail q)
    obtain ⟨cs, r⟩ := reads_tu o (sub _ _ .head)
    rw [List.map_append]
    exact readsAll_snoc r ra
theorem reads_ls {c : Cx} {l : Led} {s : Shared} {a : Addr} (o : Own c l s) {bs ys lp} (h : Tp3 bs ys lp) (ha : Has a (IsLs ys) l) (sub : ∀ a P, Has a P lp → Has a P l) : ∃ as, Reads s.heap (.ref a) (.list (bs.map d3)) as := by
  obtain ⟨as, r⟩ := reads_all o h sub
  obtain ⟨n, ho⟩ := ls_at o ha
  exact ⟨_, .list ho rfl rfl (by rw [List.toList_toArray]; exact r)⟩
theorem can_d3 : ∀ {bs : List B3}, PyData.canLayAll0 (bs.map d3) = true
  | [] => by rw [List.map_nil, PyData.canLayAll0]
  | b :: bs => by
    rw [List.map_cons, PyData.canLayAll0, can_d3, Bool.and_true]
    unfold d3
    simp only [PyData.canLay0, PyData.canLayAll0, Bool.and_true]
theorem dep_d3 : ∀ {bs : List B3}, PyData.depthAll (bs.map d3) ≤ 1
  | [] => by rw [List.map_nil, PyData.depthAll]; decide
  | b :: bs => by
    rw [List.map_cons, PyData.depthAll]
    refine Nat.max_le.mpr ⟨?_, dep_d3⟩
    unfold d3
    simp [PyData.depth, PyData.depthAll]
theorem shaped_d3 {bs : List B3} : PySem.SeqAt.shaped (.list (bs.map d3)) = true := by
  unfold PySem.SeqAt.shaped
  rw [Bool.and_eq_true]
  refine ⟨by rw [PyData.canLay0]; exact can_d3, decide_eq_true ?_⟩
  rw [PyData.depth]
  have := dep_d3 (bs := bs)
  omega
section
variable {wd : World} {A : Around} {E : Value → Shared → Prop} {c : Cx} {L nl bl ll : Addr} {nvs bvs lvs : List Value} {S : Int} {tS : Tok} {vr : List (Option Value)} {rest bt lt : Led} {v0 v1 v2 v3 v4 v5 v6 v7 v8 : Option Value} {bg : List B3}
section
variable {α : Type _} {x i x1 x2 x3 x4 x5 : α} {lp bt lt rest : List α}
theorem pc_in : (x :: (lp ++ (i :: x1 :: x2 :: x3 :: x4 :: x5 :: (bt ++ (lt ++ rest))))).Perm (x :: i :: x1 :: x2 :: x3 :: x4 :: x5 :: (lp ++ (bt ++ (lt ++ rest)))) := by wtm_at "pmyfr"
theorem pc_out : (x :: x1 :: x2 :: x3 :: x4 :: x5 :: (lp ++ (bt ++ (lt ++ rest)))).Perm (x :: (lp ++ (x1 :: x2 :: x3 :: x4 :: x5 :: (bt ++ (lt ++ rest))))) := by wtm_at "pmyfr"
theorem pc_new {z : α} : (z :: x :: i :: x1 :: x2 :: x3 :: x4 :: x5 :: (lp ++ (bt ++ (lt ++ rest)))).Perm (x :: ((z :: lp) ++ (i :: x1 :: x2 :: x3 :: x4 :: x5 :: (bt ++ (lt ++ rest))))) := by wtm_at "pmyfr"
end
theorem out_end {c : Cx} {env : Env} {T : List Str} {vs : List (Option Value)} {d : Addr} {b : B3} {t1 t2 t3 : Tok} {x i x1 x2 x3 x4 x5 : Addr × (Obj → Prop)} {ys : List Value} {bs : List B3} {lp r1 r2 r3 : Led} {s : Shared}
    (w : W c env T vs ((d, IsTu [.int b.1 t1, .int b.2.1 t2, .int (b.2.2 + S) t3]) :: x :: i :: x1 :: x2 :: x3 :: x4 :: x5 :: (lp ++ (r1 ++ (r2 ++ r3)))) s) (h : Tp3 (outL S bs) ys lp) :
    ∃ ys' lp', ys' = ys ++ [.ref d] ∧ Tp3 (outL S (bs ++ [b])) ys' lp' ∧ W c env T vs (x :: (lp' ++ (i :: x1 :: x2 :: x3 :: x4 :: x5 :: (r1 ++ (r2 ++ r3))))) s := by
  have h' : Tp3 (outL S bs ++ [(b.1, b.2.1, b.2.2 + S)]) (ys ++ [.ref d]) ((d, IsTu [.int b.1 t1, .int b.2.1 t2, .int (b.2.2 + S) t3]) :: lp) := h.snoc (b := (b.1, b.2.1, b.2.2 + S)) (t1 := t1) (t2 := t2) (t3 := t3)
  refine ⟨_, _, rfl, ?_, w.perm pc_new⟩
  unfold outL
  rw [List.map_append]
  exact h'
theorem r_lcT {env : Env} {T Tc : List Str} {vs : List (Option Value)} {l : Led} {s : Shared} {elt iter : PySem.Expr} {elts : List PySem.Expr} {kk : Nat} {tp : Pos} {scope : Scope} {cl : List (Str × Addr)} {pos : Pos} {Q : Value → Shared → Prop} (_w : W c env T vs l s) (ok : lcOk scope Tc = true) (hclos : closureFor scope env = pure cl)
    (h : wpAny (model pw wd) A (eval iter env) (fun xv s₁ => wpAny (model pw wd) A (pyIter xv) (fun it s₂ => ∃ (l2 : Led) (Fin : List Value → Led → Prop), W c env T vs l2 s₂ ∧
      (∀ (c' : Cx) (env' : Env) (T' : List Str) (vs' : List (Option Value)) (s' : Shared) (E' : Value → Shared → Prop) (Q : Value → Shared → Prop), (∃ f, W c' env' T' vs' (f :: l2) s') → Q it s' → wpAny (model pw wd) A (pyIter it) Q E' s') ∧
      (∀ D C, CompGoT wd A (c.inn env.locals (loc T vs)) (compEnvC scope cl C env) Tc elt elts kk tp it D Fin l2) ∧ ∀ D ys l'' s', Fin ys l'' → W c env T vs ((D, IsLs ys) :: l'') s' → Q (.ref D) s') E s₁) E s)
    (hs : ∀ x, foldedSetIterable iter env x = pure x := by intro _; rfl) : wpAny (model pw wd) A (eval (.ListComp elt [⟨.Tuple elts kk tp, iter, [], 0⟩] scope pos) env) Q E s := by
  obtain ⟨h1, h2, h3, h4⟩ := lcOk.parts ok
  exact r_lcompT hclos h1 h2 h3 (h4 env cl) h hs
set_option maxHeartbeats 8000000 in
theorem lawEnd {s : Shared} {Q : Flow → Shared → Prop} (bo : BaseOk wd c.B) (rm : Rm 13 A) (hlen : bg.length = nvs.length) (h6 : nvs.length ≤ 6) (hbt : Tp3 bg bvs bt) (hlt : Tp3 (outL S bg) lvs lt)
    (w : W c (lawE wd L) Tl (v0 :: v1 :: v2 :: v3 :: v4 :: v5 :: v6 :: v7 :: v8 :: some (.ref bl) :: some (.ref ll) :: vr) ((L + 1, IsCl (some (.ref nl))) :: (L + 1 + 1, IsCl (some (.int S tS))) :: (nl, IsLs nvs) :: (bl, IsLs bvs) :: (ll, IsLs lvs) :: (bt ++ (lt ++ rest))) s)
    (hQ : ∀ l' s', W c (lawE wd L) Tl (v0 :: v1 :: v2 :: v3 :: v4 :: v5 :: v6 :: v7 :: v8 :: some (.ref bl) :: some (.ref ll) :: vr) (l' ++ rest) s' → Q (.ret (.bool true)) s') :
    wpAny (model pw wd) A (exec (nth lawB 19) (lawE wd L)) Q E s := by
  have hbl := hbt.len
  refine wpAny_Return_some ?_
  refine PyProof.Rows.BoolOp_and ?_
  repeat wtm_at "myfr"
  refine PyProof.Rows.BoolOp_one ?_
  repeat wtm_at "myfr"
  refine r_lcT ‹W _ _ _ _ _ _› (Tc := ["guest", "room", "then"]) (cl := [("stay", L + 1 + 1)]) (by kernel_rfl) (by kernel_rfl) ?_
  repeat wtm_at "myfr"
  have w0 := ‹W _ _ _ _ _ _›
  refine r_iterL w0 (.tail (.tail (.tail .head))) ?_
  intro I s1 w1
  refine ⟨_, fun ys l'' => ∃ lp, Tp3 (outL S bg) ys lp ∧ l'' = lp ++ ((L + 1, IsCl (some (.ref nl))) :: (L + 1 + 1, IsCl (some (.int S tS))) :: (nl, IsLs nvs) :: (bl, IsLs bvs) :: (ll, IsLs lvs) :: (bt ++ (lt ++ rest))), w1, hit_list .head, fun D C => ?_, fun D ys l'' s2 ⟨lp, hp, el⟩ w2 => ?_⟩
  · refine ⟨fun k ys l' vc => ∃ (done todo : List B3) (lp : Led) (g1 g2 g3 : Option Value), bg = done ++ todo ∧ todo.length = k ∧ Tp3 (outL S done) ys lp ∧ vc = [g1, g2, g3] ∧ l' = lp ++ ((I, IsLi bl done.length) :: (L + 1, IsCl (some (.ref nl))) :: (L + 1 + 1, IsCl (some (.int S tS))) :: (nl, IsLs nvs) :: (bl, IsLs bvs) :: (ll, IsLs lvs) :: (bt ++ (lt ++ rest))), bg.length, ⟨[], bg, [], none, none, none, rfl, rfl, .nil, rfl, rfl⟩, ?_⟩
    rintro k ys l' vc s3 E' ⟨done, todo, lp, g1, g2, g3, e1, e2, hp, rfl, rfl⟩ w3
    have w4 := w3.perm (pc_in (x := (D, IsLs ys)))
    have hyl := hp.len
    unfold outL at hyl
    rw [List.length_map] at hyl
    have hdl : done.length + todo.length = bg.length := by rw [e1, List.length_append]
    cases todo with
    | nil =>
      rw [List.append_nil] at e1
      refine r_nextL_end w4 rm.handled (.tail .head) (.tail (.tail (.tail (.tail (.tail .head))))) (List.getElem?_eq_none (by rw [hbl, e1]; exact Nat.le_refl _)) ?_
      intro s5 w5
      exact ⟨_, w5.perm pc_out, lp, by rw [e1]; exact hp, rfl⟩
    | cons b todo =>
      rw [List.length_cons] at hdl
      have hbi : bg[done.length]? = some b := by rw [e1, List.getElem?_append_right (Nat.le_refl _), Nat.sub_self]; rfl
      obtain ⟨tp, t1, t2, t3, hv, hhas⟩ := hbt.at hbi
      refine r_nextL w4 (.tail .head) (.tail (.tail (.tail (.tail (.tail .head))))) hv ?_
      intro s5 w5
      refine r_goT w5 (.tail .head) ?_
      refine r_unp3 w5 (.tail (.tail (.tail (.tail (.tail (.tail (.tail (.pre (.app hhas))))))))) rm.handled ?_
      intro s6 w6
      clear w3 w4 w5
      repeat wtm_at "myfr"
      obtain ⟨ys', lp', he, hp', w7⟩ := out_end (S := S) (b := b) ‹W _ _ _ _ _ _› hp
      subst he
      refine ⟨_, _, todo.length, w7, by omega, by rw [← e2]; exact Nat.lt_succ_self _, done ++ [b], todo, lp', _, _, _, by rw [e1, List.append_assoc]; rfl, rfl, hp', rfl, ?_⟩
      rw [List.length_append]
      rfl
  · subst el
    repeat wtm_at "myfr"
    obtain ⟨as1, ra⟩ := reads_ls w2.own hlt (.tail (.pre (.tail (.tail (.tail (.tail .head)))))) fun a P q => .tail (.pre (.tail (.tail (.tail (.tail (.tail (.pre (.app q))))))))
    obtain ⟨as2, rb⟩ := reads_ls w2.own hp .head fun a P q => .tail (.app q)
    have hu := rm.units
    refine eq_dataH ra rb shaped_d3 shaped_d3 (by omega) ?_
    rw [PySem.SeqAt.eqv_refl _ (PySem.SeqAt.canLay_of_shaped shaped_d3)]
    exact hQ ((D, IsLs ys) :: (lp ++ ((L + 1, IsCl (some (.ref nl))) :: (L + 1 + 1, IsCl (some (.int S tS))) :: (nl, IsLs nvs) :: (bl, IsLs bvs) :: (ll, IsLs lvs) :: (bt ++ lt)))) _ (w2.perm (by wtm_at "pmyfr"))
end

theorem kms_take (l : List Value) (k : Nat) (h : k ≤ l.length) : kms_pick l none (some (k : Int)) = l.take k := by
  unfold kms_pick
  have h1 : kms_lo none l.length = 0 := rfl
  have h2 : kms_hi (some (k : Int)) l.length = k := by
    unfold kms_hi
    simp only
    rw [if_neg (by omega)]
    omega
  rw [h1, h2, List.drop_zero, Nat.sub_zero]
theorem kms_17 (l : List Value) (h : 2 ≤ l.length) : kms_pick l (some 1) (some 7) = (l.drop 1).take 6 ∧ 1 ≤ ((l.drop 1).take 6).length ∧ ((l.drop 1).take 6).length ≤ 6 := by
  refine ⟨?_, by rw [List.length_take, List.length_drop]; omega, by rw [List.length_take]; omega⟩
  unfold kms_pick
  have h1 : kms_lo (some 1) l.length = 1 := by
    unfold kms_lo
    simp only
    rw [if_neg (by omega)]
    omega
  have h2 : kms_hi (some 7) l.length = min 7 l.length := by
    unfold kms_hi
    simp only
    rw [if_neg (by omega)]
    omega
  rw [h1, h2]
  rcases Nat.le_total 7 l.length with q | q
  · rw [Nat.min_eq_left q]
  · rw [Nat.min_eq_right q, List.take_of_length_le (by rw [List.length_drop]; omega), List.take_of_length_le (by rw [List.length_drop]; omega)]
theorem ints_drop : ∀ {vs : List Value} {ns : List Int} (k : Nat), IntsAre vs ns → IntsAre (vs.drop k) (ns.drop k)
  | _, _, 0, h => h
  | _, _, _ + 1, .nil => .nil
  | _, _, k + 1, .cons _ _ h => ints_drop k h
theorem ints_take : ∀ {vs : List Value} {ns : List Int} (k : Nat), IntsAre vs ns → IntsAre (vs.take k) (ns.take k)
  | _, _, 0, _ => .nil
  | _, _, _ + 1, .nil => .nil
  | _, _, k + 1, .cons n t h => .cons n t (ints_take k h)
def val3 (ns : List Int) (i : Nat) : Int := (ns.getD i 0).fmod 3
theorem val3_b {ns : List Int} {i : Nat} : 0 ≤ val3 ns i ∧ val3 ns i ≤ 2 := by
  unfold val3
  have h1 := Int.fmod_nonneg_of_pos (ns.getD i 0) (b := 3) (by decide)
  have h2 := Int.fmod_lt_of_pos (ns.getD i 0) (b := 3) (by decide)
  omega
def comesL (ns : List Int) (k : Nat) : List Int := (List.range k).map fun g => preSum (val3 ns) (g + 1)
theorem pre_b {ns : List Int} : ∀ {k : Nat}, 0 ≤ preSum (val3 ns) k ∧ preSum (val3 ns) k ≤ 2 * (k : Int)
  | 0 => ⟨Int.le_refl _, by show (0 : Int) ≤ 2 * 0; decide⟩
  | k + 1 => by
    have h := pre_b (ns := ns) (k := k)
    have h2 := val3_b (ns := ns) (i := k)
    show 0 ≤ preSum (val3 ns) k + val3 ns k ∧ preSum (val3 ns) k + val3 ns k ≤ _
    omega
theorem pre_mono {ns : List Int} {i j : Nat} (h : i ≤ j) : preSum (val3 ns) i ≤ preSum (val3 ns) j := by
  induction h with
  | refl => exact Int.le_refl _
  | step h ih =>
    rename_i m
    have h2 := val3_b (ns := ns) (i := m)
    show _ ≤ preSum (val3 ns) m + val3 ns m
    omega
theorem comesL_len {ns : List Int} {k : Nat} : (comesL ns k).length = k := by unfold comesL; rw [List.length_map, List.length_range]
theorem comesL_at {ns : List Int} {k i : Nat} (h : i < k) : cAt (comesL ns k) i = preSum (val3 ns) (i + 1) := by
  unfold cAt comesL
  rw [List.getD_eq_getElem?_getD, List.getElem?_map, List.getElem?_range h]
  rfl
theorem comesL_out {ns : List Int} {k i : Nat} (h : k ≤ i) : cAt (comesL ns k) i = 0 := by
  unfold cAt
  rw [List.getD_eq_getElem?_getD, List.getElem?_eq_none (by rw [comesL_len]; exact h)]
  rfl
theorem comesL_ok {ns : List Int} {k : Nat} : CsOk (comesL ns k) where
  mono := fun i j hij hj => by
    rw [comesL_len] at hj
    rw [comesL_at hj, comesL_at (Nat.lt_of_le_of_lt hij hj)]
    exact pre_mono (Nat.succ_le_succ hij)
  pos := fun i => by
    rcases Nat.lt_or_ge i k with h | h
    · rw [comesL_at h]; exact pre_b.1
    · rw [comesL_out h]; exact Int.le_refl _
theorem comesL_last {ns : List Int} {k : Nat} (h : k ≤ 6) : lastC (comesL ns k) ≤ 100 := by
  unfold lastC
  rw [comesL_len]
  rcases Nat.lt_or_ge (k - 1) k with q | q
  · rw [comesL_at q]
    have := (pre_b (ns := ns) (k := k - 1 + 1)).2
    omega
  · rw [comesL_out q]; decide
theorem comesL_snoc {ns : List Int} {k : Nat} : comesL ns (k + 1) = comesL ns k ++ [preSum (val3 ns) (k + 1)] := by
  unfold comesL
  rw [List.range_succ, List.map_append]; rfl
theorem ints_snoc2 {n : Int} {t : Tok} : ∀ {vs : List Value} {ns : List Int}, IntsAre vs ns → IntsAre (vs ++ [.int n t]) (ns ++ [n])
  | _, _, .nil => .cons n t .nil
  | _, _, .cons n' t' h => .cons n' t' (ints_snoc2 h)
theorem repl_snoc {k : Nat} : List.replicate (k + 1) (0 : Int) = List.replicate k 0 ++ [0] := List.replicate_succ'
theorem rooms_snoc {k : Nat} : roomsL (k + 1) = roomsL k ++ [(k : Int)] := by
  unfold roomsL
  rw [List.range_succ, List.map_append]; rfl
theorem line_of {wd : World} {kind : Int} {self : Addr} {m : Int} {dl : Addr} {l : Led} (h : LineNew wd kind self m dl l) : ∃ LI : LineI wd self m dl (DueOf kind), LI.xI [] l ∧ keepIn (KF wd.params) (.ref LI.xfpop) = true := by
  rcases h with ⟨rfl, h⟩ | ⟨rfl, h⟩ | ⟨rfl, h⟩ | ⟨rfl, h⟩ | ⟨rfl, h⟩
  · have e : DueOf 0 = DueFirst := by unfold DueOf; rw [if_neg (by decide), if_neg (by decide), if_neg (by decide)]
    rw [e]; exact ⟨line0 wd self m dl, h, by kernel_rfl⟩
  · have e : DueOf 1 = DueFirst := by unfold DueOf; rw [if_neg (by decide), if_neg (by decide), if_neg (by decide)]
    rw [e]; exact ⟨line1 wd self m dl, h, by kernel_rfl⟩
  · have e : DueOf 2 = DueLast := by unfold DueOf; rw [if_pos rfl]
    rw [e]; exact ⟨line2 wd self m dl, h, by kernel_rfl⟩
  · have e : DueOf 3 = DueAsks := by unfold DueOf; rw [if_neg (by decide), if_pos rfl]
    rw [e]; exact ⟨line3 wd self m dl, h, by kernel_rfl⟩
  · have e : DueOf 4 = DueDraw := by unfold DueOf; rw [if_neg (by decide), if_neg (by decide), if_pos rfl]
    rw [e]; exact ⟨line4 wd self m dl, h, by kernel_rfl⟩

local macro_rules | `(tactic| wtm_at "pmyft") => `(tactic| (refine perm_cnt fun f => ?_; simp only [List.map_append, List.map_cons, List.map_nil, List.sum_append, List.sum_cons, List.sum_nil, List.cons_append, List.nil_append]; omega))
local macro_rules | `(tactic| wtm_at "myft") => `(tactic| first
  | wtm_at "sxf6"
  | ((with_reducible show wpAny _ _ (call (Value.builtin "len") _) _ _ _); (first | refine r_llen ‹W _ _ _ _ _ _› (by wtm_at "hxf6") (by omega) ?_ | refine r_dlen ‹W _ _ _ _ _ _› ‹BaseOk _ _› (by wtm_at "hxf6") (by omega) ?_); intro _ _ _)
  | ((with_reducible show wpAny _ _ (callWith _ (Value.type _) [] (backTo _ (starEach (_ :: _) _)) []) _ _ _); refine PyProof.Rows.callWith_type1 ?_)
  | ((with_reducible show wpAny _ _ (call (Value.type "range") _) _ _ _); refine r_range ‹W _ _ _ _ _ _› ?_; intro _ _ _)
  | ((with_reducible show wpAny _ _ (exec (Stmt.AugAssign (PySem.Expr.Name _ _) _ _ _) _) _ _ _); refine r_augN ‹W _ _ _ _ _ _› (by wtm_at "gxf6") ?_)
  | ((with_reducible show wpAny _ _ (exec (Stmt.Assign [PySem.Expr.Tuple _ _ _] _ _) _) _ _ _); refine r_asTup ?_))
local macro_rules | `(tactic| wtm_at "miyft") => `(tactic| ((fail_if_success (with_reducible show wpAny _ _ (execs (Stmt.If _ _ _ _ :: _) _) _ _ _)); wtm_at "myft"))
theorem r_sliceW {wd : World} {A : Around} {E : Value → Shared → Prop} {c : Cx} {env : Env} {T : List Str} {vs : List (Option Value)} {l0 : Led} {s : Shared} {lower upper : Option PySem.Expr} {p : Pos} {Q : Value → Shared → Prop} (_w : W c env T vs l0 s)
    (h : wpAny (model pw wd) A (evalPart lower env) (fun vl s₁ => wpAny (model pw wd) A (evalPart upper env) (fun vu s₂ => ∃ l, W c env T vs l s₂ ∧ ∀ si s', W c env T vs ((si, IsSlc vl vu) :: l) s' → Q (.ref si) s') E s₁) E s) :
    wpAny (model pw wd) A (eval (.Slice lower upper none p) env) Q E s := r_slice h
section
variable {wd : World} {A : Around} {E : Value → Shared → Prop} {c : Cx} {L nl : Addr} {nvs : List Value} {ns : List Int} {vr : List (Option Value)} {rest : Led} {gu tu cm : Option Value}
set_option maxHeartbeats 8000000 in
theorem stComes {s : Shared} {Q : Flow → Shared → Prop} (bo : BaseOk wd c.B) (rm : Rm 13 A) (hI : IntsAre nvs ns) (h6 : ns.length ≤ 6)
    (w : W c (lawE wd L) Tl (gu :: tu :: cm :: vr) ((L + 1, IsCl (some (.ref nl))) :: (nl, IsLs nvs) :: rest) s)
    (hQ : ∀ cl cvs s', IntsAre cvs (comesL ns ns.length) → W c (lawE wd L) Tl (gu :: tu :: some (.ref cl) :: vr) ((cl, IsLs cvs) :: (L + 1, IsCl (some (.ref nl))) :: (nl, IsLs nvs) :: rest) s' → Q .next s') :
    wpAny (model pw wd) A (exec (nth lawB 5) (lawE wd L)) Q E s := by
  have hnl := hI.length
  refine r_lcA w (Tc := ["guest"]) (cl := [("numbers", L + 1)]) (vs' := fun D => gu :: tu :: some (.ref D) :: vr) (by kernel_rfl) (by kernel_rfl) (by kernel_rfl) (fun D => .there (.there .here)) ?_
  repeat wtm_at "myft"
  refine r_iterR ‹W _ _ _ _ _ _› .head (by omega) (by omega) ?_
  intro I s1 w1
  refine ⟨(I, IsRi 0 ns.length) :: (L + 1, IsCl (some (.ref nl))) :: (nl, IsLs nvs) :: rest, fun ys l'' => IntsAre ys (comesL ns ns.length) ∧ l'' = (L + 1, IsCl (some (.ref nl))) :: (nl, IsLs nvs) :: rest, by rw [hnl] at w1; exact w1.sub (.cons_cons _ (.cons _ (.refl _))), fun _ => rfl, hit_range .head, fun D C => ?_, fun D ys l'' s2 ⟨hp, el⟩ w2 => by subst el; exact hQ _ _ _ hp w2⟩
  refine ⟨fun k ys l' vc => ∃ (j : Nat) (gv : Option Value), k + j = ns.length ∧ IntsAre ys (comesL ns j) ∧ vc = [gv] ∧ l' = (I, IsRi j k) :: (L + 1, IsCl (some (.ref nl))) :: (nl, IsLs nvs) :: rest, ns.length, ⟨0, none, by omega, .nil, rfl, rfl⟩, ?_⟩
  clear w1
  rintro k ys l' vc s3 E' ⟨j, gv, hk, hp, rfl, rfl⟩ w3
  cases k with
  | zero =>
    rw [Nat.zero_add] at hk
    refine r_nextR_end w3 rm.handled (.tail .head) (by omega) ?_
    intro s4 w4
    exact ⟨_, w4, by rw [← hk]; exact hp, rfl⟩
  | succ k =>
    have hyl := hp.length
    rw [comesL_len] at hyl
    refine r_nextR w3 (.tail .head) (by omega) ?_
    intro tg s4 w4
    clear w3 w
    repeat wtm_at "myft"
    refine r_lc ‹W _ _ _ _ _ _› (Tc := ["number"]) (cl := []) (by kernel_rfl) (by kernel_rfl) ?_
    repeat wtm_at "myft"
    refine r_sliceW ‹W _ _ _ _ _ _› ?_
    repeat wtm_at "myft"
    refine ⟨_, ‹W _ _ _ _ _ _›, fun si s5 w5 => ?_⟩
    have e1 : ((j : Int) + 1) = ((j + 1 : Nat) : Int) := rfl
    rw [e1] at w5
    refine r_lslice w5 (.tail (.tail (.tail (.tail .head)))) .head .none (.int _ _) (by omega) ?_
    intro S1 s6 w6
    have w7 := w6.sub (l' := (S1, IsLs _) :: (D, IsLs ys) :: (I, IsRi (j + 1) (↑(k + 1) - 1)) :: (L + 1, IsCl (some (.ref nl))) :: (nl, IsLs nvs) :: rest) (.cons_cons _ (.cons _ (.refl _)))
    rw [kms_take nvs (j + 1) (by omega)] at w7
    clear w4 w5 w6
    refine r_iterL w7 .head ?_
    intro I2 s8 w8
    refine ⟨_, fun ys2 l'' => ys2.length = j + 1 ∧ (∀ (i : Nat) (v : Value), ys2[i]? = some v → ∃ t, v = .int (val3 ns i) t) ∧ l'' = (D, IsLs ys) :: (I, IsRi (j + 1) (↑(k + 1) - 1)) :: (L + 1, IsCl (some (.ref nl))) :: (nl, IsLs nvs) :: rest, w8, fun _ => rfl, hit_list .head, fun D2 C2 => ?_, fun D2 ys2 l'' s9 ⟨hl2, hv2, el⟩ w9 => ?_⟩
    · refine ⟨fun k2 ys2 l' vc => ∃ (i : Nat) (gv : Option Value), k2 + i = j + 1 ∧ ys2.length = i ∧ (∀ (i : Nat) (v : Value), ys2[i]? = some v → ∃ t, v = .int (val3 ns i) t) ∧ vc = [gv] ∧ l' = (I2, IsLi S1 i) :: (S1, IsLs (nvs.take (j + 1))) :: (D, IsLs ys) :: (I, IsRi (j + 1) (↑(k + 1) - 1)) :: (L + 1, IsCl (some (.ref nl))) :: (nl, IsLs nvs) :: rest, j + 1, ⟨0, none, by omega, rfl, (fun i v h => by cases h), rfl, rfl⟩, ?_⟩
      clear w7 w8
      rintro k2 ys2 l' vc s10 E2 ⟨i, gv2, hk2, hl2, hv2, rfl, rfl⟩ w10
      cases k2 with
      | zero =>
        rw [Nat.zero_add] at hk2
        refine r_nextL_end w10 rm.handled (.tail .head) (.tail (.tail .head)) (List.getElem?_eq_none (by rw [List.length_take]; omega)) ?_
        intro s11 w11
        exact ⟨_, w11.sub (.cons_cons _ (.cons _ (.refl _))), by rw [hl2, hk2], hv2, rfl⟩
      | succ k2 =>
        obtain ⟨t1, hv1⟩ := ints_getD hI (i := i) (by omega)
        refine r_nextL w10 (.tail .head) (.tail (.tail .head)) (v := .int (ns.getD i 0) t1) (by rw [List.getElem?_take, if_pos (by omega)]; exact hv1) ?_
        intro s11 w11
        clear w10
        repeat wtm_at "myft"
        refine ⟨_, _, k2, ‹W _ _ _ _ _ _›, by omega, Nat.lt_succ_self _, i + 1, _, by omega, by rw [List.length_append, hl2]; rfl, fun i' v' h' => ?_, rfl, rfl⟩
        rcases Nat.lt_trichotomy i' ys2.length with q | q | q
        · rw [List.getElem?_append_left q] at h'
          exact hv2 _ _ h'
        · rw [q, List.getElem?_append_right (Nat.le_refl _), Nat.sub_self] at h'
          cases h'
          exact ⟨_, by rw [q, hl2]; rfl⟩
        · rw [List.getElem?_eq_none (by rw [List.length_append, List.length_singleton]; omega)] at h'
          cases h'
    · subst el
      repeat wtm_at "myft"
      refine r_sum w9 .head rm.handled hv2 ?_
      intro t9 s10 w10
      rw [hl2]
      have e2 : ((k + 1 : Nat) : Int) - 1 = (k : Int) := by omega
      rw [e2] at w10
      refine ⟨_, _, k, w10.sub (.cons _ (.refl _)), by omega, Nat.lt_succ_self _, j + 1, _, by omega, by rw [comesL_snoc]; exact ints_snoc2 hp, rfl, rfl⟩
end

local macro_rules | `(tactic| wtm_at "pmyfu") => `(tactic| (refine perm_cnt fun f => ?_; simp only [List.map_append, List.map_cons, List.map_nil, List.sum_append, List.sum_cons, List.sum_nil, List.cons_append, List.nil_append]; omega))
local macro_rules | `(tactic| wtm_at "myfu") => `(tactic| first
  | wtm_at "sxf6"
  | ((with_reducible show wpAny _ _ (call (Value.builtin "len") _) _ _ _); (first | refine r_llen ‹W _ _ _ _ _ _› (by wtm_at "hxf6") (by omega) ?_ | refine r_dlen ‹W _ _ _ _ _ _› ‹BaseOk _ _› (by wtm_at "hxf6") (by omega) ?_); intro _ _ _)
  | ((with_reducible show wpAny _ _ (callWith _ (Value.type _) [] (backTo _ (starEach (_ :: _) _)) []) _ _ _); refine PyProof.Rows.callWith_type1 ?_)
  | ((with_reducible show wpAny _ _ (call (Value.type "range") _) _ _ _); refine r_range ‹W _ _ _ _ _ _› ?_; intro _ _ _)
  | ((with_reducible show wpAny _ _ (exec (Stmt.AugAssign (PySem.Expr.Name _ _) _ _ _) _) _ _ _); refine r_augN ‹W _ _ _ _ _ _› (by wtm_at "gxf6") ?_)
  | ((with_reducible show wpAny _ _ (exec (Stmt.Assign [PySem.Expr.Tuple _ _ _] _ _) _) _ _ _); refine r_asTup ?_))
local macro_rules | `(tactic| wtm_at "miyfu") => `(tactic| ((fail_if_success (with_reducible show wpAny _ _ (execs (Stmt.If _ _ _ _ :: _) _) _ _ _)); wtm_at "myfu"))
section
variable {wd : World} {A : Around} {E : Value → Shared → Prop} {c : Cx} {L fs : Addr} {R : Nat} {tR : Tok} {vr : List (Option Value)} {rest : Led} {v0 v1 v2 v3 v4 v5 v6 v8 v9 v10 v11 v12 v13 v14 v15 v16 : Option Value}
set_option maxHeartbeats 8000000 in
theorem stRooms {fr : Led} {s : Shared} {Q : Flow → Shared → Prop} (bo : BaseOk wd c.B) (rm : Rm 13 A) (sk : Stk A c (lawE wd L)) (R2 : R ≤ 2) (hfr : FrI wd fs R [] fr)
    (w : W c (lawE wd L) Tl (v0 :: v1 :: v2 :: v3 :: v4 :: v5 :: v6 :: some (.ref fs) :: v8 :: v9 :: v10 :: v11 :: v12 :: v13 :: v14 :: v15 :: v16 :: some (.int R tR) :: vr) (fr ++ rest) s)
    (hQ : ∀ v13 fr s', FrI wd fs R (roomsL R) fr → W c (lawE wd L) Tl (v0 :: v1 :: v2 :: v3 :: v4 :: v5 :: v6 :: some (.ref fs) :: v8 :: v9 :: v10 :: v11 :: v12 :: v13 :: v14 :: v15 :: v16 :: some (.int R tR) :: vr) (fr ++ rest) s' → Q .next s') :
    wpAny (model pw wd) A (exec (nth lawB 12) (lawE wd L)) Q E s := by
  refine r_for ?_
  repeat wtm_at "myfu"
  refine r_iterR ‹W _ _ _ _ _ _› .head (by omega) (by omega) ?_
  intro I s1 w1
  refine ⟨fun k s' => ∃ (j : Nat) (v13 : Option Value) (fr : Led), k + j = R ∧ FrI wd fs R (roomsL j) fr ∧
    W c (lawE wd L) Tl (v0 :: v1 :: v2 :: v3 :: v4 :: v5 :: v6 :: some (.ref fs) :: v8 :: v9 :: v10 :: v11 :: v12 :: v13 :: v14 :: v15 :: v16 :: some (.int R tR) :: vr) ((I, IsRi j k) :: (fr ++ rest)) s', R, ⟨0, v13, fr, by omega, hfr, w1.sub (.cons_cons _ (.cons _ (.refl _)))⟩, ?_⟩
  clear w w1 hfr
  rintro k s3 E' ⟨j, v13, fr, hk, hfr, w3⟩
  cases k with
  | zero =>
    rw [Nat.zero_add] at hk
    refine r_nextR_end w3 rm.handled .head (by omega) ?_
    intro s4 w4
    rw [hk] at hfr
    exact hQ _ _ _ hfr w4
  | succ k =>
    refine r_nextR w3 .head (by omega) ?_
    intro tg s4 w4
    refine r_goN ?_
    clear w3
    repeat wtm_at "myfu"
    obtain ⟨dx, us, hx1, hx2⟩ := hfr.inst
    refine r_isetitem ‹W _ _ _ _ _ _› bo (cc_896 wd) (mt_896_setitem wd) (.tail (.app hx1)) (.tail (.app hx2)) ?_
    have hfresh : (j : Int) ∉ roomsL j := fun hm => by have := mem_roomsL hm; omega
    refine W.useP (rest := (I, IsRi (j + 1) (↑(k + 1) - 1)) :: rest) ‹W _ _ _ _ _ _› bo (rm.le (by decide)) sk (by wtm_at "pmyfu") (con_free_set hfr hfresh (by rw [len_roomsL]; omega) (by rw [len_roomsL]; omega)) ?_
    intro r fr' s5 hfr' w5
    refine wpAny_execs_nil ?_
    have e2 : ((k + 1 : Nat) : Int) - 1 = (k : Int) := by omega
    rw [e2] at w5
    exact ⟨k, Nat.lt_succ_self _, j + 1, _, fr', by omega, by rw [rooms_snoc]; exact hfr', w5.perm List.perm_middle⟩
set_option maxHeartbeats 8000000 in
theorem stUntil {s : Shared} {Q : Flow → Shared → Prop} {l : Led} (bo : BaseOk wd c.B) (rm : Rm 13 A) (R2 : R ≤ 2)
    (w : W c (lawE wd L) Tl (v0 :: v1 :: v2 :: v3 :: v4 :: v5 :: v6 :: some (.ref fs) :: v8 :: v9 :: v10 :: v11 :: v12 :: v13 :: v14 :: v15 :: v16 :: some (.int R tR) :: vr) l s)
    (hQ : ∀ ul uvs s', IntsAre uvs (List.replicate R 0) → W c (lawE wd L) Tl (v0 :: v1 :: v2 :: v3 :: v4 :: v5 :: v6 :: some (.ref fs) :: v8 :: v9 :: v10 :: some (.ref ul) :: v12 :: v13 :: v14 :: v15 :: v16 :: some (.int R tR) :: vr) ((ul, IsLs uvs) :: l) s' → Q .next s') :
    wpAny (model pw wd) A (exec (nth lawB 13) (lawE wd L)) Q E s := by
  refine r_lcA w (Tc := ["room"]) (cl := []) (vs' := fun D => v0 :: v1 :: v2 :: v3 :: v4 :: v5 :: v6 :: some (.ref fs) :: v8 :: v9 :: v10 :: some (.ref D) :: v12 :: v13 :: v14 :: v15 :: v16 :: some (.int R tR) :: vr) (by kernel_rfl) (by kernel_rfl) (by kernel_rfl) (fun D => by wtm_at "lsxf6") ?_
  repeat wtm_at "myfu"
  refine r_iterR ‹W _ _ _ _ _ _› .head (by omega) (by omega) ?_
  intro I s1 w1
  refine ⟨(I, IsRi 0 R) :: l, fun ys l'' => IntsAre ys (List.replicate R 0) ∧ l'' = l, w1.sub (.cons_cons _ (.cons _ (.refl _))), fun _ => rfl, hit_range .head, fun D C => ?_, fun D ys l'' s2 ⟨hp, el⟩ w2 => by subst el; exact hQ _ _ _ hp w2⟩
  refine ⟨fun k ys l' vc => ∃ (j : Nat) (gv : Option Value), k + j = R ∧ IntsAre ys (List.replicate j 0) ∧ vc = [gv] ∧ l' = (I, IsRi j k) :: l, R, ⟨0, none, by omega, .nil, rfl, rfl⟩, ?_⟩
  clear w1
  rintro k ys l' vc s3 E' ⟨j, gv, hk, hp, rfl, rfl⟩ w3
  cases k with
  | zero =>
    rw [Nat.zero_add] at hk
    refine r_nextR_end w3 rm.handled (.tail .head) (by omega) ?_
    intro s4 w4
    exact ⟨_, w4, by rw [← hk]; exact hp, rfl⟩
  | succ k =>
    have hyl := hp.length
    rw [List.length_replicate] at hyl
    refine r_nextR w3 (.tail .head) (by omega) ?_
    intro tg s4 w4
    clear w3 w
    repeat wtm_at "myfu"
    have w5 := ‹W _ _ _ _ _ _›
    have e2 : ((k + 1 : Nat) : Int) - 1 = (k : Int) := by omega
    rw [e2] at w5
    exact ⟨_, _, k, w5, by omega, Nat.lt_succ_self _, j + 1, _, by omega, by rw [repl_snoc]; exact ints_snoc2 hp, rfl, rfl⟩
end

local macro_rules | `(tactic| wtm_at "pmyfv") => `(tactic| (refine perm_cnt fun f => ?_; simp only [List.map_append, List.map_cons, List.map_nil, List.sum_append, List.sum_cons, List.sum_nil, List.cons_append, List.nil_append]; omega))
local macro_rules | `(tactic| wtm_at "myfv") => `(tactic| first
  | wtm_at "sxf6"
  | ((with_reducible show wpAny _ _ (call (Value.builtin "len") _) _ _ _); (first | refine r_llen ‹W _ _ _ _ _ _› (by wtm_at "hxf6") (by omega) ?_ | refine r_dlen ‹W _ _ _ _ _ _› ‹BaseOk _ _› (by wtm_at "hxf6") (by omega) ?_); intro _ _ _)
  | ((with_reducible show wpAny _ _ (callWith _ (Value.type _) [] (backTo _ (starEach (_ :: _) _)) []) _ _ _); refine PyProof.Rows.callWith_type1 ?_)
  | ((with_reducible show wpAny _ _ (call (Value.type "range") _) _ _ _); refine r_range ‹W _ _ _ _ _ _› ?_; intro _ _ _)
  | ((with_reducible show wpAny _ _ (exec (Stmt.AugAssign (PySem.Expr.Name _ _) _ _ _) _) _ _ _); refine r_augN ‹W _ _ _ _ _ _› (by wtm_at "gxf6") ?_)
  | ((with_reducible show wpAny _ _ (exec (Stmt.Assign [PySem.Expr.Tuple _ _ _] _ _) _) _ _ _); refine r_asTup ?_))
local macro_rules | `(tactic| wtm_at "miyfv") => `(tactic| ((fail_if_success (with_reducible show wpAny _ _ (execs (Stmt.If _ _ _ _ :: _) _) _ _ _)); wtm_at "myfv"))
local macro_rules | `(tactic| wtm_at "mcyfv") => `(tactic| ((fail_if_success (with_reducible show wpAny _ _ (execs (Stmt.Assign _ (PySem.Expr.ListComp _ _ _ _) _ :: _) _) _ _ _)); (fail_if_success (with_reducible show wpAny _ _ (execs (Stmt.For _ _ _ _ _ :: _) _) _ _ _)); (fail_if_success (with_reducible show wpAny _ _ (execs (Stmt.Return _ _ :: _) _) _ _ _)); (fail_if_success (with_reducible show wpAny _ _ (execs (Stmt.FunctionDef _ _ _ _ _ _ _ _ _ _ :: _) _) _ _ _)); wtm_at "myfv"))
theorem mk_1404 (wd : World) : makesIn (KF wd.params) 1404 = true := by kernel_rfl
theorem init_1404 (wd : World) : findIn (KF wd.params) (.ref 1404) "__init__" = some (some (.ref 1326)) := by kernel_rfl
theorem ty_1326 (wd : World) : typeIn (KF wd.params) (.ref 1326) = some (.type "function") := by kernel_rfl
section
variable {α : Type _} {ll bl wl ul f c t7 dl hl cl x1 nl x3 x2 sa t5 : α} {l0 fr ho bt lt wt li l' : List α}
theorem pz_in : (ll :: bl :: wl :: ul :: (fr ++ (f :: c :: t7 :: dl :: hl :: cl :: x1 :: nl :: x3 :: x2 :: sa :: (l0 ++ (t5 :: ho))))).Perm (f :: c :: x3 :: hl :: x1 :: x2 :: nl :: cl :: dl :: ul :: wl :: bl :: ll :: ([] ++ ([] ++ ([] ++ (l0 ++ (fr ++ (ho ++ [sa, t5, t7]))))))) := by wtm_at "pmyfv"
theorem pz_end : (f :: c :: x3 :: hl :: x1 :: x2 :: nl :: cl :: dl :: ul :: wl :: bl :: ll :: (bt ++ (lt ++ (wt ++ (li ++ (fr ++ (ho ++ [sa, t5, t7]))))))).Perm (x1 :: x2 :: nl :: bl :: ll :: (bt ++ (lt ++ (f :: c :: x3 :: hl :: cl :: dl :: ul :: wl :: (wt ++ (li ++ (fr ++ (ho ++ [sa, t5, t7])))))))) := by wtm_at "pmyfv"
theorem pz_sub : [sa, t5, t7].Sublist (l' ++ (f :: c :: x3 :: hl :: cl :: dl :: ul :: wl :: (wt ++ (li ++ (fr ++ (ho ++ [sa, t5, t7])))))) :=
  .trans (.cons _ (.cons _ (.cons _ (.cons _ (.cons _ (.cons _ (.cons _ (.cons _ (.trans (.trans (.trans (List.sublist_append_right ho _) (List.sublist_append_right fr _)) (List.sublist_append_right li _)) (List.sublist_append_right wt _)))))))))) (List.sublist_append_right l' _)
end
section
variable {wd : World} {A : Around} {E : Value → Shared → Prop} {c : Cx} {L nl sa : Addr} {nvs : List Value} {ns : List Int} {P : Obj → Prop} {pick : Int} {tp : Tok}
set_option maxHeartbeats 8000000 in
theorem lawRest2 {cl hl dl : Addr} {cvs : List Value} {kind S : Int} {R : Nat} {tR tk tS th td : Tok} {s : Shared} {Q : Flow → Shared → Prop} (bo : BaseOk wd c.B) (rm : Rm 13 A) (sk : Stk A c (lawE wd L)) (hI : IntsAre nvs ns) (hC : IntsAre cvs (comesL ns ns.length)) (h1 : 1 ≤ ns.length) (h6 : ns.length ≤ 6)
    (k0 : 0 ≤ kind) (k5 : kind < 5) (R1 : 1 ≤ R) (R2 : R ≤ 2) (S1 : 1 ≤ S) (S3 : S ≤ 3)
    (w : W c (lawE wd L) Tl [none, none, some (.ref cl), none, none, none, none, none, none, none, none, none, some (.ref dl), none, none, none, none, some (.int R tR), some (.int kind tk), some (.int pick tp), some (.ref sa), none]
      [(dl, IsLs [.int 0 td]), (hl, IsLs [.int 0 th]), (cl, IsLs cvs), (L + 1, IsCl (some (.ref nl))), (nl, IsLs nvs), (L + 1 + 2, IsCl (some (.ref hl))), (L + 1 + 1, IsCl (some (.int S tS))), (1415, IsTab #[]), (1427, IsTab #[]), (sa, P)] s)
    (hQ : ∀ ps ps' vs s', W c (lawE wd L) Tl vs [(sa, P), (1415, IsTab ps), (1427, IsTab ps')] s' → Q (.ret (.bool true)) s') :
    wpAny (model pw wd) A (execs (lawB.drop 8) (lawE wd L)) Q E s := by
  have hnl := hI.length
  refine wpAny_execs_cons ?_
  have w1 := w.perm (Take.perm (p := (1427, IsTab #[])) (by wtm_at "tkxf6"))
  refine r_nest (P := 1427) (c0 := 1429) (clos := [("hour", L + 1 + 2)]) w1 bo (by kernel_rfl) (fun c' => .head) (by kernel_rfl) ?_
  intro f c' doc pm ctv s1 w2
  rw [qq_1430] at w2
  clear w w1
  repeat wtm_at "mcyfv"
  refine W.use ‹W _ _ _ _ _ _› bo (rm.le (by decide)) sk (by wtm_at "pkxf6") (con_law_line k0 k5 (by omega)) ?_
  rintro r l' s3 ⟨self, l0, ps, rfl, hnew, rfl⟩ w3
  rw [hnl] at hnew
  have w4 := w3.perm List.perm_append_comm
  simp only [List.cons_append, List.nil_append] at w4
  clear w2 w3
  repeat wtm_at "mcyfv"
  refine r_make (T' := T5) (n := 9) (post := fun x dxx r l => r = .none ∧ ∃ (dd tx tdx ld root : Addr) (t ti : Tok) (st : Addr → TLk), HInv root st [] ∧ l = houseH wd ⟨x, dxx, dd, tx, tdx, ld, root, f, R, tR, S, tS⟩ 0 t 0 ti none [] [] ++ ringOf tls [root] st) ‹W _ _ _ _ _ _› bo (rm.le (by decide)) sk (mk_1404 wd) (init_1404 wd) (ty_1326 wd) (fun x dxx => con_house_init (by omega)) ?_
  rintro x dxx _ _ s6 ⟨rfl, dd, tx, tdx, ld, root, t0, ti0, st, hinv, rfl⟩ w6
  refine ⟨rfl, ?_⟩
  have hho : HoI wd ⟨x, dxx, dd, tx, tdx, ld, root, f, R, tR, S, tS⟩ [] (houseH wd ⟨x, dxx, dd, tx, tdx, ld, root, f, R, tR, S, tS⟩ 0 t0 0 ti0 none [] [] ++ ringOf tls [root] st) := ⟨[], st, t0, ti0, none, hinv, trivial, rfl⟩
  have w7 := w6.perm List.perm_append_comm
  generalize houseH wd ⟨x, dxx, dd, tx, tdx, ld, root, f, R, tR, S, tS⟩ 0 t0 0 ti0 none [] [] ++ ringOf tls [root] st = ho at hho w7
  simp only [List.cons_append, List.nil_append, List.append_assoc] at w7
  clear w4 w6
  repeat wtm_at "mcyfv"
  refine r_make (T' := T1) (n := 9) (post := fun x dxx r l => r = .none ∧ ∃ (dd od : Addr) (t : Tok), l = (od, IsD wd []) :: (dd, IsD wd []) :: [(x, IsInst 896 dxx), (dxx, IsNs T1 [some (.ref dd), some (.int 0 t), some (.int R tR), some (.ref od)])]) ‹W _ _ _ _ _ _› bo (rm.le (by decide)) sk (mk_896 wd) (init_896 wd) (ty_863 wd) (fun x dxx => SpecC.le (con_fifo_init (by omega)) (by decide)) ?_
  rintro x2 dx2 _ _ s8 ⟨rfl, dd2, od2, t2, rfl⟩ w8
  refine ⟨rfl, ?_⟩
  have hfr : FrI wd x2 R [] (fifo wd x2 dx2 dd2 od2 0 R t2 tR [] []) := ⟨dx2, dd2, od2, t2, tR, [], [], rfl, rfl, nofun, rfl⟩
  have w9 := w8.picks (fp := fifo wd x2 dx2 dd2 od2 0 R t2 tR [] []) (by wtm_at "pkxf6")
  generalize fifo wd x2 dx2 dd2 od2 0 R t2 tR [] [] = fr at hfr w9
  clear w7 w8
  repeat wtm_at "mcyfv"
  refine wpAny_execs_cons ?_
  refine stRooms bo rm sk R2 hfr ‹W _ _ _ _ _ _› ?_
  intro v13 fr2 s10 hfr2 w10
  refine wpAny_execs_cons ?_
  refine stUntil bo rm R2 w10 ?_
  intro ul uvs s11 hU w11
  clear w9 w10
  repeat wtm_at "mcyfv"
  have w12 := (‹W _ _ _ _ _ _›).perm pz_in
  obtain ⟨LI, il, hkp⟩ := line_of hnew
  clear w11
  refine wpAny_execs_cons ?_
  refine turnLoop (H := ⟨x, dxx, dd, tx, tdx, ld, root, f, R, tR, S, tS⟩) (ws := []) (bg := []) (e := 0) (a := 0) (fr0 := roomsL R) (un := List.replicate R 0) (f := f) (c' := c') (doc := doc) (pm := pm) (ctv := ctv) (hl := hl) (cs := comesL ns ns.length) LI hkp k0 k5 rfl hI comesL_len hC (by rw [comesL_len]; exact h6) (by rw [comesL_len]; exact h1) comesL_ok (comesL_last h6) bo rm sk S1 S3 R1 R2 rfl rfl rfl
    ⟨Arr.start comesL_ok, WsOk.start, HsOk.start, Fl.start comesL_ok, .nil, il, hU, .nil, .nil, hfr2, hho, .inl rfl⟩ w12 ?_
  intro gu tu ot ro du ca co' N tn h th d0 td bg wvs uvs bvs lvs bt lt wt li fr ho s13 hbl hbt hlt w13
  refine wpAny_execs_cons ?_
  refine lawEnd bo rm (by rw [hbl, comesL_len, hnl]) (by omega) hbt hlt (w13.perm pz_end) ?_
  intro l' s14 w14
  exact hQ ps _ _ _ (w14.sub pz_sub)
set_option maxHeartbeats 8000000 in
theorem lawRest {s : Shared} {Q : Flow → Shared → Prop} (bo : BaseOk wd c.B) (rm : Rm 13 A) (sk : Stk A c (lawE wd L)) (hI : IntsAre nvs ns) (h1 : 1 ≤ ns.length) (h6 : ns.length ≤ 6)
    (w : W c (lawE wd L) Tl [none, none, none, none, none, none, none, none, none, none, none, none, none, none, none, none, none, none, none, some (.int pick tp), some (.ref sa), none] ((L + 1, IsCl (some (.ref nl))) :: (nl, IsLs nvs) :: (L + 1 + 2, IsCl none) :: (L + 1 + 1, IsCl none) :: (1415, IsTab #[]) :: (1427, IsTab #[]) :: (sa, P) :: []) s)
    (hQ : ∀ ps ps' vs s', W c (lawE wd L) Tl vs [(sa, P), (1415, IsTab ps), (1427, IsTab ps')] s' → Q (.ret (.bool true)) s') :
    wpAny (model pw wd) A (execs (lawB.drop 2) (lawE wd L)) Q E s := by
  have hnl := hI.length
  refine wpAny_execs_cons ?_
  repeat wtm_at "mcyfv"
  have w1 := ‹W _ _ _ _ _ _›
  generalize hkd : pick.fmod 5 = kind at w1
  have k0 : 0 ≤ kind := by rw [← hkd]; exact Int.fmod_nonneg_of_pos _ (by decide)
  have k5 : kind < 5 := by rw [← hkd]; exact Int.fmod_lt_of_pos _ (by decide)
  obtain ⟨R, hR⟩ : ∃ R : Nat, 1 + (pick.fdiv 5).fmod 2 = (R : Int) := ⟨(1 + (pick.fdiv 5).fmod 2).toNat, by
    have := Int.fmod_nonneg_of_pos (pick.fdiv 5) (b := 2) (by decide)
    omega⟩
  have R1 : 1 ≤ R := by
    have := Int.fmod_nonneg_of_pos (pick.fdiv 5) (b := 2) (by decide)
    omega
  have R2 : R ≤ 2 := by
    have := Int.fmod_lt_of_pos (pick.fdiv 5) (b := 2) (by decide)
    omega
  rw [hR] at w1
  generalize hS : 1 + (pick.fdiv 10).fmod 3 = S at w1
  have S1 : 1 ≤ S := by
    have := Int.fmod_nonneg_of_pos (pick.fdiv 10) (b := 3) (by decide)
    omega
  have S3 : S ≤ 3 := by
    have := Int.fmod_lt_of_pos (pick.fdiv 10) (b := 3) (by decide)
    omega
  refine wpAny_execs_cons ?_
  refine stComes bo rm hI h6 w1 ?_
  intro cl cvs s2 hC w2
  clear w w1
  repeat wtm_at "mcyfv"
  exact lawRest2 bo rm sk hI hC h1 h6 k0 k5 R1 R2 S1 S3 ‹W _ _ _ _ _ _› hQ
end

local macro_rules | `(tactic| wtm_at "pmyfw") => `(tactic| (refine perm_cnt fun f => ?_; simp only [List.map_append, List.map_cons, List.map_nil, List.sum_append, List.sum_cons, List.sum_nil, List.cons_append, List.nil_append]; omega))
local macro_rules | `(tactic| wtm_at "myfw") => `(tactic| first
  | wtm_at "sxf6"
  | ((with_reducible show wpAny _ _ (call (Value.builtin "len") _) _ _ _); (first | refine r_llen ‹W _ _ _ _ _ _› (by wtm_at "hxf6") (by omega) ?_ | refine r_dlen ‹W _ _ _ _ _ _› ‹BaseOk _ _› (by wtm_at "hxf6") (by omega) ?_); intro _ _ _)
  | ((with_reducible show wpAny _ _ (callWith _ (Value.type _) [] (backTo _ (starEach (_ :: _) _)) []) _ _ _); refine PyProof.Rows.callWith_type1 ?_)
  | ((with_reducible show wpAny _ _ (call (Value.type "range") _) _ _ _); refine r_range ‹W _ _ _ _ _ _› ?_; intro _ _ _)
  | ((with_reducible show wpAny _ _ (exec (Stmt.AugAssign (PySem.Expr.Name _ _) _ _ _) _) _ _ _); refine r_augN ‹W _ _ _ _ _ _› (by wtm_at "gxf6") ?_)
  | ((with_reducible show wpAny _ _ (exec (Stmt.Assign [PySem.Expr.Tuple _ _ _] _ _) _) _ _ _); refine r_asTup ?_))
local macro_rules | `(tactic| wtm_at "miyfw") => `(tactic| ((fail_if_success (with_reducible show wpAny _ _ (execs (Stmt.If _ _ _ _ :: _) _) _ _ _)); wtm_at "myfw"))
local macro_rules | `(tactic| wtm_at "mkyfw") => `(tactic| ((fail_if_success (with_reducible show wpAny _ _ (execs (Stmt.Assign _ (PySem.Expr.BinOp _ _ _ _) _ :: _) _) _ _ _)); wtm_at "myfw"))
section
variable {α : Type _} {d sa x1 x2 x3 t5 t7 : α}
theorem pw_in : [d, sa, x3, x2, x1, t5, t7].Perm [x1, d, x3, x2, t5, t7, sa] := by wtm_at "pmyfw"
end
section
variable {wd : World} {sa : Addr} {xs : List Value} {sc : List Int} {o₀ : Obj}
set_option maxHeartbeats 8000000 in
theorem con_law (ho : o₀.cls = .type "list" ∧ ∃ n, o₀.data = .seq xs.toArray n) (hI : IntsAre xs sc) (hz : xs.length ≤ 63) :
    Spec wd 14 (call (.ref 1430) [.ref sa]) [(sa, IsX o₀), (1415, IsTab #[]), (1427, IsTab #[])] (fun r l => r = .bool true ∧ ∃ ps ps', l = [(sa, IsX o₀), (1415, IsTab ps), (1427, IsTab ps')]) := by
  refine spec_defCells (fn_1430 wd) (fun s _ => bd_1430 wd _ s) (cl_1430 wd) (fun n x hx => ?_) (fun n p hp => ?_) (loc_1430 wd _) (cells_1430 wd _) ?_
  · rw [List.mem_singleton.mp hx]
    exact .inl (by kernel_rfl)
  · simp only [List.mem_cons, List.not_mem_nil, or_false] at hp
    rcases hp with rfl | rfl | rfl <;> rfl
  intro c A L s Q E bo rm sk hq w
  refine wpAny_execs_cons ?_
  repeat wtm_at "myfw"
  refine W.use ‹W _ _ _ _ _ _› bo (rm.le (by decide)) sk (by wtm_at "pkxf6") (con_law_at (k := 0) ho hI (by omega) (by decide) (by decide)) ?_
  rintro r l' s1 ⟨⟨t1, rfl⟩, rfl⟩ w1
  clear w
  repeat wtm_at "myfw"
  refine r_llenX ‹W _ _ _ _ _ _› (by wtm_at "hxf6") ho (by omega) ?_
  intro t2 s2 w2
  repeat wtm_at "myfw"
  by_cases h : 1 < xs.length
  · refine if_t (decide_eq_true (by omega)) ?_
    repeat wtm_at "myfw"
    refine r_sliceW ‹W _ _ _ _ _ _› ?_
    repeat wtm_at "myfw"
    refine ⟨_, ‹W _ _ _ _ _ _›, fun si s3 w3 => ?_⟩
    refine r_lsliceX w3 (by wtm_at "hxf6") ho .head (.int _ _) (.int _ _) (by omega) ?_
    intro D s4 w4
    obtain ⟨e, h1, h2⟩ := kms_17 xs h
    rw [e] at w4
    clear w1 w2 w3
    wtm_at "myfw"
    have w5 := ((‹W _ _ _ _ _ _›).sub (.cons_cons _ (.cons _ (.refl _)))).perm pw_in
    exact lawRest bo rm sk (ints_take 6 (ints_drop 1 hI)) (by rw [← (ints_take 6 (ints_drop 1 hI)).length]; exact h1) (by rw [← (ints_take 6 (ints_drop 1 hI)).length]; exact h2) w5 fun ps ps' vs s' w' => hq _ _ _ ⟨rfl, ps, ps', rfl⟩ w'.own
  · refine if_f (decide_eq_false (by omega)) ?_
    repeat wtm_at "mkyfw"
    have w5 := (‹W _ _ _ _ _ _›).perm pw_in
    exact lawRest (ns := [0, 0, 1, 2, 0]) bo rm sk (.cons _ _ (.cons _ _ (.cons _ _ (.cons _ _ (.cons _ _ .nil))))) (by decide) (by decide) w5 fun ps ps' vs s' w' => hq _ _ _ ⟨rfl, ps, ps', rfl⟩ w'.own
end

theorem lookup_app {K K' : Frag} {a : Addr} {o : Obj} (h : K.lookup a = some o) : (K ++ K').lookup a = some o := by
  induction K with
  | nil => cases h
  | cons p K ih =>
    obtain ⟨b, x⟩ := p
    rw [List.cons_append, List.lookup_cons]
    rw [List.lookup_cons] at h
    split at h
    · rename_i q; rw [q] at *; exact h
    · rename_i q; rw [q] at *; exact ih h
theorem ky_1415 (P : Params) : (KY P).lookup 1415 = some (tabObj #[]) := by kernel_rfl
theorem ky_1427 (P : Params) : (KY P).lookup 1427 = some (tabObj #[]) := by kernel_rfl
theorem kf_1415 (P : Params) : (KF P).lookup 1415 = none := by kernel_rfl
theorem kf_1427 (P : Params) : (KF P).lookup 1427 = none := by kernel_rfl
theorem kf_1430 (P : Params) : (KF P).lookup 1430 = some (o_1430 P) := by kernel_rfl
theorem law_in (P : Params) : nsIn (KF P) mainGlobals "law" = some (some (.ref 1430)) := by kernel_rfl
theorem hd_1415 (P : Params) : codeHdIn (KF P) 1419 1415 = true := by kernel_rfl
theorem hd_1427 (P : Params) : codeHdIn (KF P) 1429 1427 = true := by kernel_rfl
theorem rm_caller : Rm 14 callerA := ⟨by decide, by decide, rfl⟩
theorem isTab_of {a : Addr} {h : Heap} {ps : Array Value} (e : h.get? a = some (tabObj ps)) : ∃ o, h.get? a = some o ∧ IsTab ps o := ⟨_, e, rfl⟩
theorem holds0 : PySem.Challenge.rw_sx0014_01.Holds := by
  refine head ?_
  intro w s₀ s₁ mg mb G Y a o pm cd doc dV kV ho hd hcd hD hmg hg args vals as L hpre hlay hrd hwl hlo
  wrow_args hpre hlay hrd hwl hlo
  rename_i sc hs1 lay0 hL1 hr1 hl2 as1 as2 sa xs as3 hLs ra w1 r0 hI hr hc1 hc2
  have Y0 : (KY w.params).In s₀.heap := Frag.in_of (kf_as w.params) Y
  have Y1 : (KY w.params).In s₁.heap := Y0.keeps L.keeps
  have X1 : (KF w.params).In s₁.heap := fun b x e => Y1 b x (lookup_app e)
  have X0 : (KF w.params).In s₀.heap := fun b x e => Y0 b x (lookup_app e)
  have big : 1430 < s₀.heap.objs.size := Heap.lt_size (X0 _ _ (kf_1430 w.params))
  obtain ⟨o₀, ho₀, hcls, n, hdat⟩ := hLs
  have hsa : s₀.heap.objs.size ≤ sa := by
    have hw := L.within
    cases r0 with
    | list e1 e2 e3 e4 => exact (hw.2.2 sa (List.mem_append_left _ (.head _))).1
  have ea : a = 1430 := by
    have := mg_of X1 G.T.g (law_in w.params)
    have e2 : mg "law" = some (.ref a) := hmg
    rw [e2] at this
    cases this
    rfl
  subst ea
  have hbig : 1430 < sa := Nat.lt_of_lt_of_le big hsa
  let fp : Led := [(sa, IsX o₀), (1415, IsTab #[]), (1427, IsTab #[])]
  have hne : ∀ b o, (KF w.params).lookup b = some o → ∀ p ∈ fp, p.1 ≠ b := fun b x e p hp q => by
    subst q
    rcases List.mem_cons.mp hp with rfl | hp
    · have := Heap.lt_size (X0 _ _ e)
      exact absurd this (Nat.not_lt.mpr hsa)
    · rcases List.mem_cons.mp hp with rfl | hp
      · rw [kf_1415] at e; cases e
      · rw [List.mem_singleton.mp hp, kf_1427] at e; cases e
  have hsm : ∀ b : Addr, b < 1415 → ∀ p ∈ fp, p.1 ≠ b := fun b hb p hp q => by
    subst q
    rcases List.mem_cons.mp hp with rfl | hp
    · exact absurd (Nat.lt_trans hbig hb) (by decide)
    · rcases List.mem_cons.mp hp with rfl | hp
      · exact Nat.lt_irrefl _ hb
      · rw [List.mem_singleton.mp hp] at hb
        exact absurd hb (by decide)
  let B : Heap := hideAll s₁.heap (fp.map (·.1))
  have keepNs : ∀ (b : Addr) m, b < 1415 → s₁.heap.Ns b m → B.Ns b m := fun b m hb h => by
    obtain ⟨x, es, ep, e, r⟩ := h
    exact ⟨x, es, ep, hide_keep e (hsm b hb), r⟩
  have bo : BaseOk w B := ⟨fun b x e => hide_keep (X1 b x e) (hne b x e), by
    obtain ⟨mc, h, e⟩ := G.T.nolimit
    exact ⟨mc, keepNs _ _ (by decide) h, e⟩, ⟨mg, keepNs _ _ (by decide) G.T.g⟩, mb, keepNs _ _ (by decide) G.T.b, G.T.builtins⟩
  have t1 := Y1 _ _ (ky_1415 w.params)
  have t2 := Y1 _ _ (ky_1427 w.params)
  have ow : Own ⟨B, [], s₁.gens, s₁.os⟩ fp s₁ := by
    refine ⟨fun b x e => of_hideAll _ e, fun p hp => ?_, fun p hp => hideAll_none _ (List.mem_map_of_mem (by rwa [show (⟨B, [], s₁.gens, s₁.os⟩ : Cx).fl = [] from rfl, List.append_nil] at hp)), ?_, rfl, rfl, by show (hideAll s₁.heap _).objs.size ≤ _; rw [hideAll_size]; exact Nat.le_refl _⟩
    · rw [show (⟨B, [], s₁.gens, s₁.os⟩ : Cx).fl = [] from rfl, List.append_nil] at hp
      rcases List.mem_cons.mp hp with rfl | hp
      · exact ⟨o₀, ho₀, rfl⟩
      · rcases List.mem_cons.mp hp with rfl | hp
        · exact isTab_of t1
        · rw [List.mem_singleton.mp hp]; exact isTab_of t2
    · show [sa, 1415, 1427].Nodup
      refine List.nodup_cons.mpr ⟨fun hm => ?_, List.nodup_cons.mpr ⟨by decide, List.nodup_cons.mpr ⟨List.not_mem_nil, List.nodup_nil⟩⟩⟩
      rcases List.mem_cons.mp hm with e | hm
      · rw [e] at hbig; exact absurd hbig (by decide)
      · have e := List.mem_singleton.mp hm
        rw [e] at hbig; exact absurd hbig (by decide)
  have hlen : xs.length ≤ 63 := by
    have := hI.length
    omega
  refine con_law ⟨hcls, n, hdat⟩ hI hlen ⟨B, [], s₁.gens, s₁.os⟩ callerA s₁ bo rm_caller ⟨[], rfl, nofun⟩ ow _ _ ?_
  rintro v fp' s' ⟨rfl, ps, ps', rfl⟩ ow'
  have q1 := ow'.led (sa, IsX o₀) (List.mem_append_left _ (.head _))
  have q2 := ow'.led (1415, IsTab ps) (List.mem_append_left _ (.tail _ (.head _)))
  have q3 := ow'.led (1427, IsTab ps') (List.mem_append_left _ (.tail _ (.tail _ (.head _))))
  refine ⟨.inl ⟨.bool true, .bool true, [], rfl, fun _ => rfl, .bool true, ?_, fun _ => ⟨List.nodup_nil, nofun⟩⟩, ?_, ow'.os, .of_eq (ow'.gens.trans hg)⟩
  · wrow_post
  · have same : ∀ b x, b ≠ 1415 → b ≠ 1427 → s₁.heap.get? b = some x → s'.heap.get? b = some x := fun b x n1 n2 e => by
      by_cases q : b = sa
      · subst q
        obtain ⟨x', e1, e2⟩ := q1
        rw [ho₀] at e
        cases e
        rw [e1]
        exact congrArg some e2
      · refine ow'.base b x (hide_keep e fun p hp => ?_)
        rcases List.mem_cons.mp hp with rfl | hp
        · exact fun z => q z.symm
        · rcases List.mem_cons.mp hp with rfl | hp
          · exact fun z => n1 z.symm
          · rw [List.mem_singleton.mp hp]; exact fun z => n2 z.symm
    obtain ⟨x2, e2, rfl⟩ := q2
    obtain ⟨x3, e3, rfl⟩ := q3
    refine ⟨fun b x e => ?_, fun b x e => ?_⟩
    · by_cases n1 : b = 1415
      · subst n1
        rw [t1] at e
        cases e
        exact .inr (.inl ⟨((codeHd_of_K X1 (hd_1415 w.params)).tab t1).isCodeTable, rfl, #[], ps, rfl, by rw [Array.empty_append]; exact e2⟩)
      · by_cases n2 : b = 1427
        · subst n2
          rw [t2] at e
          cases e
          exact .inr (.inl ⟨((codeHd_of_K X1 (hd_1427 w.params)).tab t2).isCodeTable, rfl, #[], ps', rfl, by rw [Array.empty_append]; exact e3⟩)
        · exact .inl (same b x n1 n2 e)
    · by_cases n1 : b = 1415
      · exact ⟨_, by rw [n1]; exact e2⟩
      · by_cases n2 : b = 1427
        · exact ⟨_, by rw [n2]; exact e3⟩
        · exact ⟨x, same b x n1 n2 e⟩

end Mine

theorem PySem.Challenge.cw_sx0014_01_holds : PySem.Challenge.rw_sx0014_01.Holds := by
  exact Mine.holds0
