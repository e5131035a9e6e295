import PyProof.Rows.All
import Wide.All
import OpenK.AllK
import Wide.FinOn
import PySem.Challenge.RW_pg0323_01
set_option Elab.async false
section
open PySem PySem.W PyProof.Rows
set_option autoImplicit false
namespace Mine
set_option maxRecDepth 1000000
set_option maxHeartbeats 8000000
/-- a def's parts, out of the row's own text -/
def kFnOf : Stmt → Option (Arguments × List Stmt × PySem.Scope)
  | .FunctionDef _ a b _ _ _ s _ _ _ => some (a, b, s)
  | _ => none
def kClsOf : Stmt → List Stmt
  | .ClassDef _ _ _ b _ _ _ _ _ _ _ => b
  | _ => []
noncomputable def kGet : List Stmt → Nat → Option Stmt
  | [], _ => none
  | s :: _, 0 => some s
  | _ :: r, n + 1 => kGet r n
noncomputable def kAt : List Nat → Option (Arguments × List Stmt × PySem.Scope)
  | [i] => (kGet PySem.Challenge.pw_pg0323_01.main.body i).bind kFnOf
  | [i, j] => (kGet PySem.Challenge.pw_pg0323_01.main.body i).bind fun s => (kGet (kClsOf s) j).bind kFnOf
  | _ => none
abbrev kFd (p : List Nat) {a : Arguments} {b : List Stmt} {s : PySem.Scope} (_h : kAt p = some (a, b, s)) (name qual : Str) (globals : Addr) (closure : List (Str × Addr)) (defaults kwdefaults doc pyModule : Value) (annotations : Option Addr) (code closureTuple : Value) (builtins : Addr) : FuncData :=
  ⟨name, qual, a, .stmts b, s, globals, closure, defaults, kwdefaults, doc, pyModule, annotations, code, closureTuple, builtins⟩
noncomputable def hd.heap_39 : Params → Frag := fun P =>
  ((nat_lit 2 : Addr), (Obj.mk Value.none none (Data.dict #[(DictEntry.mk (PyData.keyHash P (Str.ofString "\x69mport.loaded._sre")) (Value.str (Str.ofString "\x69mport.loaded._sre") 183) (Value.bool true)), (DictEntry.mk (PyData.keyHash P (Str.ofString "class._frozen_importlib.BuiltinImporter")) (Value.str (Str.ofString "class._frozen_importlib.BuiltinImporter") 185) (Value.ref 14)), (DictEntry.mk (PyData.keyHash P (Str.ofString "watched.\x69mport")) (Value.str (Str.ofString "watched.\x69mport") 206) (Value.ref 18)), (DictEntry.mk (PyData.keyHash P (Str.ofString "class._frozen_importlib.ModuleSpec")) (Value.str (Str.ofString "class._frozen_importlib.ModuleSpec") 216) (Value.ref 22)), (DictEntry.mk (PyData.keyHash P (Str.ofString "sys.modules.booked-epoch")) (Value.str (Str.ofString "sys.modules.booked-epoch") 245) (Value.int 3 0)), (DictEntry.mk (PyData.keyHash P (Str.ofString "\x69mport.later-laid._sre")) (Value.str (Str.ofString "\x69mport.later-laid._sre") 270) (Value.bool true)), (DictEntry.mk (PyData.keyHash P (Str.ofString "watched.library")) (Value.str (Str.ofString "watched.library") 272) (Value.ref 27)), (DictEntry.mk (PyData.keyHash P (Str.ofString "watched.library-objects")) (Value.str (Str.ofString "watched.library-objects") 0) (Value.str (Str.ofString "\x0c") 0)), (DictEntry.mk (PyData.keyHash P (Str.ofString "watched.library-deep._sre")) (Value.str (Str.ofString "watched.library-deep._sre") 273) (Value.str (Str.ofString "\x04\x00\x00\x0b\x04\x00\x00\x0b\x04\x00\x00\x03\x04\x00\x00\x0b\x08\x04dict\x02") 0))] 9) #[])) ::
  ((nat_lit 3 : Addr), (Obj.mk (Value.type "dict") none (Data.dict #[(DictEntry.mk (PyData.keyHash P (Str.ofString "__name__")) (Value.str (Str.ofString "__name__") 165) (Value.str (Str.ofString "law_pg0323_01") 608)), (DictEntry.mk (PyData.keyHash P (Str.ofString "__doc__")) (Value.str (Str.ofString "__doc__") 166) Value.none), (DictEntry.mk (PyData.keyHash P (Str.ofString "__package__")) (Value.str (Str.ofString "__package__") 167) Value.none), (DictEntry.mk (PyData.keyHash P (Str.ofString "__loader__")) (Value.str (Str.ofString "__loader__") 168) (Value.builtin "__main__.__loader__#opaque")), (DictEntry.mk (PyData.keyHash P (Str.ofString "__spec__")) (Value.str (Str.ofString "__spec__") 169) Value.none), (DictEntry.mk (PyData.keyHash P (Str.ofString "__annotations__")) (Value.str (Str.ofString "__annotations__") 170) (Value.ref 6)), (DictEntry.mk (PyData.keyHash P (Str.ofString "__builtins__")) (Value.str (Str.ofString "__builtins__") 171) (Value.ref 4)), (DictEntry.mk (PyData.keyHash P (Str.ofString "__file__")) (Value.str (Str.ofString "__file__") 173) (Value.str (Str.ofString "/claim/cut.py") 172)), (DictEntry.mk (PyData.keyHash P (Str.ofString "__cached__")) (Value.str (Str.ofString "__cached__") 174) Value.none), (DictEntry.mk (PyData.keyHash P (Str.ofString "_sre")) (Value.str (Str.ofString "_sre") 275) (Value.ref 12)), (DictEntry.mk (PyData.keyHash P (Str.ofString "_wall")) (Value.str (Str.ofString "_wall") 288) (Value.ref 38)), (DictEntry.mk (PyData.keyHash P (Str.ofString "_twin_re_1")) (Value.str (Str.ofString "_twin_re_1") 328) (Value.ref 43)), (DictEntry.mk (PyData.keyHash P (Str.ofString "_namespace_map")) (Value.str (Str.ofString "_namespace_map") 350) (Value.ref 44)), (DictEntry.mk (PyData.keyHash P (Str.ofString "_raise_serialization_error")) (Value.str (Str.ofString "_raise_serialization_error") 357) (Value.ref 51)), (DictEntry.mk (PyData.keyHash P (Str.ofString "_looks_like_prefix_name")) (Value.str (Str.ofString "_looks_like_prefix_name") 359) (Value.ref 52)), (DictEntry.mk (PyData.keyHash P (Str.ofString "C14NWriterTarget")) (Value.str (Str.ofString "C14NWriterTarget") 524) (Value.ref 150)), (DictEntry.mk (PyData.keyHash P (Str.ofString "_escape_cdata_c14n")) (Value.str (Str.ofString "_escape_cdata_c14n") 531) (Value.ref 161)), (DictEntry.mk (PyData.keyHash P (Str.ofString "_escape_attrib_c14n")) (Value.str (Str.ofString "_escape_attrib_c14n") 538) (Value.ref 168)), (DictEntry.mk (PyData.keyHash P (Str.ofString "HTTPPasswordMgr")) (Value.str (Str.ofString "HTTPPasswordMgr") 607) (Value.ref 214)), (DictEntry.mk (PyData.keyHash P (Str.ofString "_law_deeds")) (Value.str (Str.ofString "_law_deeds") 621) (Value.ref 225)), (DictEntry.mk (PyData.keyHash P (Str.ofString "_law_meant")) (Value.str (Str.ofString "_law_meant") 629) (Value.ref 232)), (DictEntry.mk (PyData.keyHash P (Str.ofString "_law_due")) (Value.str (Str.ofString "_law_due") 644) (Value.ref 239)), (DictEntry.mk (PyData.keyHash P (Str.ofString "law")) (Value.str (Str.ofString "law") 662) (Value.ref 246))] 23) #[])) ::
  ((nat_lit 32 : Addr), (Obj.mk (Value.type "tuple") none (Data.seq #[] 0) #[])) ::
  ((nat_lit 34 : Addr), (Obj.mk (Value.type "tuple") none (Data.seq #[(Value.str (Str.ofString "k") 285)] 0) #[])) ::
  ((nat_lit 35 : Addr), (Obj.mk (Value.type "tuple") none (Data.seq #[] 0) #[])) ::
  ((nat_lit 37 : Addr), (Obj.mk (Value.type "code") none (Data.fields #[(Value.str (Str.ofString "_wall") 282), (Value.str (Str.ofString "_wall") 283), (Value.str (Str.ofString "/claim/cut.py") 284), (Value.int 2 0), (Value.int 1 0), (Value.int 0 0), (Value.int 0 0), (Value.int 3 0), (Value.ref 32), (Value.bool true), (Value.int 276 0), (Value.ref 33), Value.none, (Value.ref 34), (Value.ref 35), (Value.ref 36), (Value.int 286 0), (Value.int 2 0), (Value.str (Str.ofString "/claim/cut.py") 287)]) #[])) ::
  ((nat_lit 38 : Addr), (Obj.mk (Value.type "function") none (Data.func (kFd [1] rfl (Str.ofString "_wall") (Str.ofString "_wall") 3 [] Value.none Value.none Value.none (Value.str (Str.ofString "__main__") 164) none (Value.ref 37) Value.none 0)) #[])) ::
  ((nat_lit 42 : Addr), (Obj.mk (Value.type "tuple") none (Data.seq #[(Value.int 14 0), (Value.int 4 0), (Value.int 0 0), (Value.int 3 0), (Value.int 4294967295 0), (Value.int 6 0), (Value.int 0 0), (Value.int 24 0), (Value.int 9 0), (Value.int 1 0), (Value.int 4294967295 0), (Value.int 13 0), (Value.int 4 0), (Value.int 8 0), (Value.int 14 0), (Value.int 0 0), (Value.int 1 0), (Value.int 16 0), (Value.int 58 0), (Value.int 24 0), (Value.int 9 0), (Value.int 1 0), (Value.int 4294967295 0), (Value.int 13 0), (Value.int 4 0), (Value.int 8 0), (Value.int 14 0), (Value.int 0 0), (Value.int 1 0), (Value.int 6 0), (Value.int 5 0), (Value.int 1 0)] 0) #[])) ::
  ((nat_lit 43 : Addr), (Obj.mk (Value.type "re.Pattern") none (Data.fields #[(Value.str (Str.ofString "^\\w+:\\w+$") 292), (Value.int 32 327), (Value.int 0 0), Value.none, Value.none, (Value.ref 42), (Value.int 0 0)]) #[])) ::
  ((nat_lit 44 : Addr), (Obj.mk (Value.type "dict") none (Data.dict #[(DictEntry.mk (PyData.keyHash P (Str.ofString "http://www.w3.org/XML/1998/namespace")) (Value.str (Str.ofString "http://www.w3.org/XML/1998/namespace") 329) (Value.str (Str.ofString "xml") 330)), (DictEntry.mk (PyData.keyHash P (Str.ofString "http://www.w3.org/1999/xhtml")) (Value.str (Str.ofString "http://www.w3.org/1999/xhtml") 331) (Value.str (Str.ofString "html") 332)), (DictEntry.mk (PyData.keyHash P (Str.ofString "http://www.w3.org/1999/02/22-rdf-syntax-ns#")) (Value.str (Str.ofString "http://www.w3.org/1999/02/22-rdf-syntax-ns#") 333) (Value.str (Str.ofString "rdf") 334)), (DictEntry.mk (PyData.keyHash P (Str.ofString "http://schemas.xmlsoap.org/wsdl/")) (Value.str (Str.ofString "http://schemas.xmlsoap.org/wsdl/") 335) (Value.str (Str.ofString "wsdl") 336)), (DictEntry.mk (PyData.keyHash P (Str.ofString "http://www.w3.org/2001/XMLSchema")) (Value.str (Str.ofString "http://www.w3.org/2001/XMLSchema") 337) (Value.str (Str.ofString "xs") 338)), (DictEntry.mk (PyData.keyHash P (Str.ofString "http://www.w3.org/2001/XMLSchema-instance")) (Value.str (Str.ofString "http://www.w3.org/2001/XMLSchema-instance") 339) (Value.str (Str.ofString "xsi") 340)), (DictEntry.mk (PyData.keyHash P (Str.ofString "http://purl.org/dc/elements/1.1/")) (Value.str (Str.ofString "http://purl.org/dc/elements/1.1/") 341) (Value.str (Str.ofString "dc") 342))] 7) #[])) ::
  ((nat_lit 45 : Addr), (Obj.mk (Value.type "tuple") none (Data.seq #[] 0) #[])) ::
  ((nat_lit 47 : Addr), (Obj.mk (Value.type "tuple") none (Data.seq #[(Value.str (Str.ofString "text") 354)] 0) #[])) ::
  ((nat_lit 48 : Addr), (Obj.mk (Value.type "tuple") none (Data.seq #[] 0) #[])) ::
  ((nat_lit 50 : Addr), (Obj.mk (Value.type "code") none (Data.fields #[(Value.str (Str.ofString "_raise_serialization_error") 351), (Value.str (Str.ofString "_raise_serialization_error") 352), (Value.str (Str.ofString "/claim/cut.py") 353), (Value.int 8 0), (Value.int 1 0), (Value.int 0 0), (Value.int 0 0), (Value.int 3 0), (Value.ref 45), (Value.bool true), (Value.int 276 0), (Value.ref 46), Value.none, (Value.ref 47), (Value.ref 48), (Value.ref 49), (Value.int 355 0), (Value.int 8 0), (Value.str (Str.ofString "/claim/cut.py") 356)]) #[])) ::
  ((nat_lit 51 : Addr), (Obj.mk (Value.type "function") none (Data.func (kFd [5] rfl (Str.ofString "_raise_serialization_error") (Str.ofString "_raise_serialization_error") 3 [] Value.none Value.none Value.none (Value.str (Str.ofString "cpy313.xml.etree.ElementTree") 289) none (Value.ref 50) Value.none 0)) #[])) ::
  ((nat_lit 52 : Addr), (Obj.mk (Value.type "builtin_function_or_method") none (Data.fields #[(Value.builtin "re.Pattern.match"), (Value.ref 43)]) #[])) ::
  ((nat_lit 60 : Addr), (Obj.mk (Value.type "dict") none (Data.dict #[(DictEntry.mk (PyData.keyHash P (Str.ofString "with_comments")) (Value.str (Str.ofString "with_comments") 372) (Value.bool false)), (DictEntry.mk (PyData.keyHash P (Str.ofString "strip_text")) (Value.str (Str.ofString "strip_text") 373) (Value.bool false)), (DictEntry.mk (PyData.keyHash P (Str.ofString "rewrite_prefixes")) (Value.str (Str.ofString "rewrite_prefixes") 374) (Value.bool false)), (DictEntry.mk (PyData.keyHash P (Str.ofString "qname_aware_tags")) (Value.str (Str.ofString "qname_aware_tags") 375) Value.none), (DictEntry.mk (PyData.keyHash P (Str.ofString "qname_aware_attrs")) (Value.str (Str.ofString "qname_aware_attrs") 376) Value.none), (DictEntry.mk (PyData.keyHash P (Str.ofString "exclude_attrs")) (Value.str (Str.ofString "exclude_attrs") 377) Value.none), (DictEntry.mk (PyData.keyHash P (Str.ofString "exclude_tags")) (Value.str (Str.ofString "exclude_tags") 378) Value.none)] 7) #[])) ::
  ((nat_lit 61 : Addr), (Obj.mk (Value.type "tuple") none (Data.seq #[] 0) #[])) ::
  ((nat_lit 63 : Addr), (Obj.mk (Value.type "tuple") none (Data.seq #[(Value.str (Str.ofString "self") 382), (Value.str (Str.ofString "write") 383), (Value.str (Str.ofString "with_comments") 384), (Value.str (Str.ofString "strip_text") 385), (Value.str (Str.ofString "rewrite_prefixes") 386), (Value.str (Str.ofString "qname_aware_tags") 387), (Value.str (Str.ofString "qname_aware_attrs") 388), (Value.str (Str.ofString "exclude_attrs") 389), (Value.str (Str.ofString "exclude_tags") 390)] 0) #[])) ::
  ((nat_lit 64 : Addr), (Obj.mk (Value.type "tuple") none (Data.seq #[] 0) #[])) ::
  ((nat_lit 66 : Addr), (Obj.mk (Value.type "code") none (Data.fields #[(Value.str (Str.ofString "__init__") 379), (Value.str (Str.ofString "C14NWriterTarget.__init__") 380), (Value.str (Str.ofString "/claim/cut.py") 381), (Value.int 13 0), (Value.int 2 0), (Value.int 0 0), (Value.int 7 0), (Value.int 3 0), (Value.ref 61), (Value.bool true), (Value.int 276 0), (Value.ref 62), Value.none, (Value.ref 63), (Value.ref 64), (Value.ref 65), (Value.int 391 0), (Value.int 13 0), (Value.str (Str.ofString "/claim/cut.py") 392)]) #[])) ::
  ((nat_lit 67 : Addr), (Obj.mk (Value.type "function") none (Data.func (kFd [7, 0] rfl (Str.ofString "__init__") (Str.ofString "C14NWriterTarget.__init__") 3 [] Value.none (Value.ref 60) Value.none (Value.str (Str.ofString "cpy313.xml.etree.ElementTree") 289) none (Value.ref 66) Value.none 0)) #[])) ::
  ((nat_lit 68 : Addr), (Obj.mk (Value.type "tuple") none (Data.seq #[(Value.type "reversed")] 0) #[])) ::
  ((nat_lit 69 : Addr), (Obj.mk (Value.type "tuple") none (Data.seq #[] 0) #[])) ::
  ((nat_lit 71 : Addr), (Obj.mk (Value.type "tuple") none (Data.seq #[(Value.str (Str.ofString "self") 397), (Value.str (Str.ofString "ns_stack") 398), (Value.str (Str.ofString "_reversed") 399), (Value.str (Str.ofString "namespaces") 400)] 0) #[])) ::
  ((nat_lit 72 : Addr), (Obj.mk (Value.type "tuple") none (Data.seq #[] 0) #[])) ::
  ((nat_lit 74 : Addr), (Obj.mk (Value.type "code") none (Data.fields #[(Value.str (Str.ofString "_iter_namespaces") 394), (Value.str (Str.ofString "C14NWriterTarget._iter_namespaces") 395), (Value.str (Str.ofString "/claim/cut.py") 396), (Value.int 41 0), (Value.int 3 0), (Value.int 0 0), (Value.int 0 0), (Value.int 35 0), (Value.ref 69), (Value.bool true), (Value.int 276 0), (Value.ref 70), Value.none, (Value.ref 71), (Value.ref 72), (Value.ref 73), (Value.int 401 0), (Value.int 41 0), (Value.str (Str.ofString "/claim/cut.py") 402)]) #[])) ::
  ((nat_lit 75 : Addr), (Obj.mk (Value.type "function") none (Data.func (kFd [7, 1] rfl (Str.ofString "_iter_namespaces") (Str.ofString "C14NWriterTarget._iter_namespaces") 3 [] (Value.ref 68) Value.none Value.none (Value.str (Str.ofString "cpy313.xml.etree.ElementTree") 289) none (Value.ref 74) Value.none 0)) #[])) ::
  ((nat_lit 76 : Addr), (Obj.mk (Value.type "tuple") none (Data.seq #[] 0) #[])) ::
  ((nat_lit 78 : Addr), (Obj.mk (Value.type "tuple") none (Data.seq #[(Value.str (Str.ofString "self") 407), (Value.str (Str.ofString "prefixed_name") 408), (Value.str (Str.ofString "prefix") 409), (Value.str (Str.ofString "name") 410), (Value.str (Str.ofString "uri") 411), (Value.str (Str.ofString "p") 412)] 0) #[])) ::
  ((nat_lit 79 : Addr), (Obj.mk (Value.type "tuple") none (Data.seq #[] 0) #[])) ::
  ((nat_lit 81 : Addr), (Obj.mk (Value.type "code") none (Data.fields #[(Value.str (Str.ofString "_resolve_prefix_name") 404), (Value.str (Str.ofString "C14NWriterTarget._resolve_prefix_name") 405), (Value.str (Str.ofString "/claim/cut.py") 406), (Value.int 46 0), (Value.int 2 0), (Value.int 0 0), (Value.int 0 0), (Value.int 3 0), (Value.ref 76), (Value.bool true), (Value.int 276 0), (Value.ref 77), Value.none, (Value.ref 78), (Value.ref 79), (Value.ref 80), (Value.int 413 0), (Value.int 46 0), (Value.str (Str.ofString "/claim/cut.py") 414)]) #[])) ::
  ((nat_lit 82 : Addr), (Obj.mk (Value.type "function") none (Data.func (kFd [7, 2] rfl (Str.ofString "_resolve_prefix_name") (Str.ofString "C14NWriterTarget._resolve_prefix_name") 3 [] Value.none Value.none Value.none (Value.str (Str.ofString "cpy313.xml.etree.ElementTree") 289) none (Value.ref 81) Value.none 0)) #[])) ::
  ((nat_lit 83 : Addr), (Obj.mk (Value.type "tuple") none (Data.seq #[Value.none] 0) #[])) ::
  ((nat_lit 84 : Addr), (Obj.mk (Value.type "tuple") none (Data.seq #[] 0) #[])) ::
  ((nat_lit 86 : Addr), (Obj.mk (Value.type "tuple") none (Data.seq #[(Value.str (Str.ofString "self") 419), (Value.str (Str.ofString "qname") 420), (Value.str (Str.ofString "uri") 421), (Value.str (Str.ofString "tag") 422), (Value.str (Str.ofString "prefixes_seen") 423), (Value.str (Str.ofString "u") 424), (Value.str (Str.ofString "prefix") 425)] 0) #[])) ::
  ((nat_lit 87 : Addr), (Obj.mk (Value.type "tuple") none (Data.seq #[] 0) #[])) ::
  ((nat_lit 89 : Addr), (Obj.mk (Value.type "code") none (Data.fields #[(Value.str (Str.ofString "_qname") 416), (Value.str (Str.ofString "C14NWriterTarget._qname") 417), (Value.str (Str.ofString "/claim/cut.py") 418), (Value.int 53 0), (Value.int 3 0), (Value.int 0 0), (Value.int 0 0), (Value.int 3 0), (Value.ref 84), (Value.bool true), (Value.int 276 0), (Value.ref 85), Value.none, (Value.ref 86), (Value.ref 87), (Value.ref 88), (Value.int 426 0), (Value.int 53 0), (Value.str (Str.ofString "/claim/cut.py") 427)]) #[])) ::
  ((nat_lit 90 : Addr), (Obj.mk (Value.type "function") none (Data.func (kFd [7, 3] rfl (Str.ofString "_qname") (Str.ofString "C14NWriterTarget._qname") 3 [] (Value.ref 83) Value.none Value.none (Value.str (Str.ofString "cpy313.xml.etree.ElementTree") 289) none (Value.ref 89) Value.none 0)) #[])) ::
  ((nat_lit 91 : Addr), (Obj.mk (Value.type "tuple") none (Data.seq #[] 0) #[])) ::
  ((nat_lit 93 : Addr), (Obj.mk (Value.type "tuple") none (Data.seq #[(Value.str (Str.ofString "self") 432), (Value.str (Str.ofString "data") 433)] 0) #[])) ::
  ((nat_lit 94 : Addr), (Obj.mk (Value.type "tuple") none (Data.seq #[] 0) #[])) ::
  ((nat_lit 96 : Addr), (Obj.mk (Value.type "code") none (Data.fields #[(Value.str (Str.ofString "data") 429), (Value.str (Str.ofString "C14NWriterTarget.data") 430), (Value.str (Str.ofString "/claim/cut.py") 431), (Value.int 80 0), (Value.int 2 0), (Value.int 0 0), (Value.int 0 0), (Value.int 3 0), (Value.ref 91), (Value.bool true), (Value.int 276 0), (Value.ref 92), Value.none, (Value.ref 93), (Value.ref 94), (Value.ref 95), (Value.int 434 0), (Value.int 80 0), (Value.str (Str.ofString "/claim/cut.py") 435)]) #[])) ::
  ((nat_lit 97 : Addr), (Obj.mk (Value.type "function") none (Data.func (kFd [7, 4] rfl (Str.ofString "data") (Str.ofString "C14NWriterTarget.data") 3 [] Value.none Value.none Value.none (Value.str (Str.ofString "cpy313.xml.etree.ElementTree") 289) none (Value.ref 96) Value.none 0)) #[])) ::
  ((nat_lit 98 : Addr), (Obj.mk (Value.type "builtin_function_or_method") none (Data.fields #[(Value.builtin "str.join"), (Value.str (Str.ofString "") 437)]) #[])) ::
  ((nat_lit 99 : Addr), (Obj.mk (Value.type "tuple") none (Data.seq #[(Value.ref 98)] 0) #[])) ::
  ((nat_lit 100 : Addr), (Obj.mk (Value.type "tuple") none (Data.seq #[] 0) #[])) ::
  ((nat_lit 102 : Addr), (Obj.mk (Value.type "tuple") none (Data.seq #[(Value.str (Str.ofString "self") 442), (Value.str (Str.ofString "_join_text") 443), (Value.str (Str.ofString "data") 444), (Value.str (Str.ofString "args") 445), (Value.str (Str.ofString "qname_text") 446)] 0) #[])) ::
  ((nat_lit 103 : Addr), (Obj.mk (Value.type "tuple") none (Data.seq #[] 0) #[])) ::
  ((nat_lit 105 : Addr), (Obj.mk (Value.type "code") none (Data.fields #[(Value.str (Str.ofString "_flush") 439), (Value.str (Str.ofString "C14NWriterTarget._flush") 440), (Value.str (Str.ofString "/claim/cut.py") 441), (Value.int 84 0), (Value.int 2 0), (Value.int 0 0), (Value.int 0 0), (Value.int 3 0), (Value.ref 100), (Value.bool true), (Value.int 276 0), (Value.ref 101), Value.none, (Value.ref 102), (Value.ref 103), (Value.ref 104), (Value.int 447 0), (Value.int 84 0), (Value.str (Str.ofString "/claim/cut.py") 448)]) #[])) ::
  ((nat_lit 106 : Addr), (Obj.mk (Value.type "function") none (Data.func (kFd [7, 5] rfl (Str.ofString "_flush") (Str.ofString "C14NWriterTarget._flush") 3 [] (Value.ref 99) Value.none Value.none (Value.str (Str.ofString "cpy313.xml.etree.ElementTree") 289) none (Value.ref 105) Value.none 0)) #[])) ::
  ((nat_lit 107 : Addr), (Obj.mk (Value.type "tuple") none (Data.seq #[] 0) #[])) ::
  ((nat_lit 109 : Addr), (Obj.mk (Value.type "tuple") none (Data.seq #[(Value.str (Str.ofString "self") 453), (Value.str (Str.ofString "prefix") 454), (Value.str (Str.ofString "uri") 455)] 0) #[])) ::
  ((nat_lit 110 : Addr), (Obj.mk (Value.type "tuple") none (Data.seq #[] 0) #[])) ::
  ((nat_lit 112 : Addr), (Obj.mk (Value.type "code") none (Data.fields #[(Value.str (Str.ofString "start_ns") 450), (Value.str (Str.ofString "C14NWriterTarget.start_ns") 451), (Value.str (Str.ofString "/claim/cut.py") 452), (Value.int 98 0), (Value.int 3 0), (Value.int 0 0), (Value.int 0 0), (Value.int 3 0), (Value.ref 107), (Value.bool true), (Value.int 276 0), (Value.ref 108), Value.none, (Value.ref 109), (Value.ref 110), (Value.ref 111), (Value.int 456 0), (Value.int 98 0), (Value.str (Str.ofString "/claim/cut.py") 457)]) #[])) ::
  ((nat_lit 113 : Addr), (Obj.mk (Value.type "function") none (Data.func (kFd [7, 6] rfl (Str.ofString "start_ns") (Str.ofString "C14NWriterTarget.start_ns") 3 [] Value.none Value.none Value.none (Value.str (Str.ofString "cpy313.xml.etree.ElementTree") 289) none (Value.ref 112) Value.none 0)) #[])) ::
  ((nat_lit 114 : Addr), (Obj.mk (Value.type "tuple") none (Data.seq #[] 0) #[])) ::
  ((nat_lit 116 : Addr), (Obj.mk (Value.type "tuple") none (Data.seq #[(Value.str (Str.ofString "self") 462), (Value.str (Str.ofString "tag") 463), (Value.str (Str.ofString "attrs") 464), (Value.str (Str.ofString "new_namespaces") 465)] 0) #[])) ::
  ((nat_lit 117 : Addr), (Obj.mk (Value.type "tuple") none (Data.seq #[] 0) #[])) ::
  ((nat_lit 119 : Addr), (Obj.mk (Value.type "code") none (Data.fields #[(Value.str (Str.ofString "start") 459), (Value.str (Str.ofString "C14NWriterTarget.start") 460), (Value.str (Str.ofString "/claim/cut.py") 461), (Value.int 105 0), (Value.int 3 0), (Value.int 0 0), (Value.int 0 0), (Value.int 3 0), (Value.ref 114), (Value.bool true), (Value.int 276 0), (Value.ref 115), Value.none, (Value.ref 116), (Value.ref 117), (Value.ref 118), (Value.int 466 0), (Value.int 105 0), (Value.str (Str.ofString "/claim/cut.py") 467)]) #[])) ::
  ((nat_lit 120 : Addr), (Obj.mk (Value.type "function") none (Data.func (kFd [7, 7] rfl (Str.ofString "start") (Str.ofString "C14NWriterTarget.start") 3 [] Value.none Value.none Value.none (Value.str (Str.ofString "cpy313.xml.etree.ElementTree") 289) none (Value.ref 119) Value.none 0)) #[])) ::
  ((nat_lit 121 : Addr), (Obj.mk (Value.type "tuple") none (Data.seq #[Value.none] 0) #[])) ::
  ((nat_lit 122 : Addr), (Obj.mk (Value.type "tuple") none (Data.seq #[] 0) #[])) ::
  ((nat_lit 125 : Addr), (Obj.mk (Value.type "code") none (Data.fields #[(Value.str (Str.ofString "_start") 469), (Value.str (Str.ofString "C14NWriterTarget._start") 470), (Value.str (Str.ofString "/claim/cut.py") 471), (Value.int 118 0), (Value.int 5 0), (Value.int 0 0), (Value.int 0 0), (Value.int 3 0), (Value.ref 122), (Value.bool true), (Value.int 276 0), (Value.ref 123), Value.none, Value.none, Value.none, (Value.ref 124), (Value.int 472 0), (Value.int 118 0), (Value.str (Str.ofString "/claim/cut.py") 473)]) #[])) ::
  ((nat_lit 126 : Addr), (Obj.mk (Value.type "function") none (Data.func (kFd [7, 8] rfl (Str.ofString "_start") (Str.ofString "C14NWriterTarget._start") 3 [] (Value.ref 121) Value.none Value.none (Value.str (Str.ofString "cpy313.xml.etree.ElementTree") 289) none (Value.ref 125) Value.none 0)) #[])) ::
  ((nat_lit 127 : Addr), (Obj.mk (Value.type "tuple") none (Data.seq #[] 0) #[])) ::
  ((nat_lit 129 : Addr), (Obj.mk (Value.type "tuple") none (Data.seq #[(Value.str (Str.ofString "self") 478), (Value.str (Str.ofString "tag") 479)] 0) #[])) ::
  ((nat_lit 130 : Addr), (Obj.mk (Value.type "tuple") none (Data.seq #[] 0) #[])) ::
  ((nat_lit 132 : Addr), (Obj.mk (Value.type "code") none (Data.fields #[(Value.str (Str.ofString "end") 475), (Value.str (Str.ofString "C14NWriterTarget.end") 476), (Value.str (Str.ofString "/claim/cut.py") 477), (Value.int 163 0), (Value.int 2 0), (Value.int 0 0), (Value.int 0 0), (Value.int 3 0), (Value.ref 127), (Value.bool true), (Value.int 276 0), (Value.ref 128), Value.none, (Value.ref 129), (Value.ref 130), (Value.ref 131), (Value.int 480 0), (Value.int 163 0), (Value.str (Str.ofString "/claim/cut.py") 481)]) #[])) ::
  ((nat_lit 133 : Addr), (Obj.mk (Value.type "function") none (Data.func (kFd [7, 9] rfl (Str.ofString "end") (Str.ofString "C14NWriterTarget.end") 3 [] Value.none Value.none Value.none (Value.str (Str.ofString "cpy313.xml.etree.ElementTree") 289) none (Value.ref 132) Value.none 0)) #[])) ::
  ((nat_lit 134 : Addr), (Obj.mk (Value.type "tuple") none (Data.seq #[] 0) #[])) ::
  ((nat_lit 136 : Addr), (Obj.mk (Value.type "tuple") none (Data.seq #[(Value.str (Str.ofString "self") 486), (Value.str (Str.ofString "text") 487)] 0) #[])) ::
  ((nat_lit 137 : Addr), (Obj.mk (Value.type "tuple") none (Data.seq #[] 0) #[])) ::
  ((nat_lit 139 : Addr), (Obj.mk (Value.type "code") none (Data.fields #[(Value.str (Str.ofString "comment") 483), (Value.str (Str.ofString "C14NWriterTarget.comment") 484), (Value.str (Str.ofString "/claim/cut.py") 485), (Value.int 175 0), (Value.int 2 0), (Value.int 0 0), (Value.int 0 0), (Value.int 3 0), (Value.ref 134), (Value.bool true), (Value.int 276 0), (Value.ref 135), Value.none, (Value.ref 136), (Value.ref 137), (Value.ref 138), (Value.int 488 0), (Value.int 175 0), (Value.str (Str.ofString "/claim/cut.py") 489)]) #[])) ::
  ((nat_lit 140 : Addr), (Obj.mk (Value.type "function") none (Data.func (kFd [7, 10] rfl (Str.ofString "comment") (Str.ofString "C14NWriterTarget.comment") 3 [] Value.none Value.none Value.none (Value.str (Str.ofString "cpy313.xml.etree.ElementTree") 289) none (Value.ref 139) Value.none 0)) #[])) ::
  ((nat_lit 141 : Addr), (Obj.mk (Value.type "tuple") none (Data.seq #[] 0) #[])) ::
  ((nat_lit 143 : Addr), (Obj.mk (Value.type "tuple") none (Data.seq #[(Value.str (Str.ofString "self") 494), (Value.str (Str.ofString "target") 495), (Value.str (Str.ofString "data") 496)] 0) #[])) ::
  ((nat_lit 144 : Addr), (Obj.mk (Value.type "tuple") none (Data.seq #[] 0) #[])) ::
  ((nat_lit 146 : Addr), (Obj.mk (Value.type "code") none (Data.fields #[(Value.str (Str.ofString "pi") 491), (Value.str (Str.ofString "C14NWriterTarget.pi") 492), (Value.str (Str.ofString "/claim/cut.py") 493), (Value.int 178 0), (Value.int 3 0), (Value.int 0 0), (Value.int 0 0), (Value.int 3 0), (Value.ref 141), (Value.bool true), (Value.int 276 0), (Value.ref 142), Value.none, (Value.ref 143), (Value.ref 144), (Value.ref 145), (Value.int 497 0), (Value.int 178 0), (Value.str (Str.ofString "/claim/cut.py") 498)]) #[])) ::
  ((nat_lit 147 : Addr), (Obj.mk (Value.type "function") none (Data.func (kFd [7, 11] rfl (Str.ofString "pi") (Str.ofString "C14NWriterTarget.pi") 3 [] Value.none Value.none Value.none (Value.str (Str.ofString "cpy313.xml.etree.ElementTree") 289) none (Value.ref 146) Value.none 0)) #[])) ::
  ((nat_lit 148 : Addr), (Obj.mk (Value.type "tuple") none (Data.seq #[(Value.str (Str.ofString "_data") 500), (Value.str (Str.ofString "_declared_ns_stack") 501), (Value.str (Str.ofString "_exclude_attrs") 502), (Value.str (Str.ofString "_exclude_tags") 503), (Value.str (Str.ofString "_find_qname_aware_attrs") 504), (Value.str (Str.ofString "_ignored_depth") 505), (Value.str (Str.ofString "_ns_stack") 506), (Value.str (Str.ofString "_pending_start") 507), (Value.str (Str.ofString "_prefix_map") 508), (Value.str (Str.ofString "_preserve_space") 509), (Value.str (Str.ofString "_qname_aware_tags") 510), (Value.str (Str.ofString "_rewrite_prefixes") 511), (Value.str (Str.ofString "_root_done") 512), (Value.str (Str.ofString "_root_seen") 513), (Value.str (Str.ofString "_strip_text") 514), (Value.str (Str.ofString "_with_comments") 515), (Value.str (Str.ofString "_write") 516)] 0) #[])) ::
  ((nat_lit 149 : Addr), (Obj.mk (Value.type "dict") none (Data.dict #[(DictEntry.mk (PyData.keyHash P (Str.ofString "__module__")) (Value.str (Str.ofString "__module__") 367) (Value.str (Str.ofString "cpy313.xml.etree.ElementTree") 289)), (DictEntry.mk (PyData.keyHash P (Str.ofString "__firstlineno__")) (Value.str (Str.ofString "__firstlineno__") 371) (Value.int 11 370)), (DictEntry.mk (PyData.keyHash P (Str.ofString "__init__")) (Value.str (Str.ofString "__init__") 393) (Value.ref 67)), (DictEntry.mk (PyData.keyHash P (Str.ofString "_iter_namespaces")) (Value.str (Str.ofString "_iter_namespaces") 403) (Value.ref 75)), (DictEntry.mk (PyData.keyHash P (Str.ofString "_resolve_prefix_name")) (Value.str (Str.ofString "_resolve_prefix_name") 415) (Value.ref 82)), (DictEntry.mk (PyData.keyHash P (Str.ofString "_qname")) (Value.str (Str.ofString "_qname") 428) (Value.ref 90)), (DictEntry.mk (PyData.keyHash P (Str.ofString "data")) (Value.str (Str.ofString "data") 436) (Value.ref 97)), (DictEntry.mk (PyData.keyHash P (Str.ofString "_flush")) (Value.str (Str.ofString "_flush") 449) (Value.ref 106)), (DictEntry.mk (PyData.keyHash P (Str.ofString "start_ns")) (Value.str (Str.ofString "start_ns") 458) (Value.ref 113)), (DictEntry.mk (PyData.keyHash P (Str.ofString "start")) (Value.str (Str.ofString "start") 468) (Value.ref 120)), (DictEntry.mk (PyData.keyHash P (Str.ofString "_start")) (Value.str (Str.ofString "_start") 474) (Value.ref 126)), (DictEntry.mk (PyData.keyHash P (Str.ofString "end")) (Value.str (Str.ofString "end") 482) (Value.ref 133)), (DictEntry.mk (PyData.keyHash P (Str.ofString "comment")) (Value.str (Str.ofString "comment") 490) (Value.ref 140)), (DictEntry.mk (PyData.keyHash P (Str.ofString "pi")) (Value.str (Str.ofString "pi") 499) (Value.ref 147)), (DictEntry.mk (PyData.keyHash P (Str.ofString "__static_attributes__")) (Value.str (Str.ofString "__static_attributes__") 517) (Value.ref 148)), (DictEntry.mk (PyData.keyHash P (Str.ofString "__dict__")) (Value.str (Str.ofString "__dict__") 519) (Value.ref 151)), (DictEntry.mk (PyData.keyHash P (Str.ofString "__weakref__")) (Value.str (Str.ofString "__weakref__") 521) (Value.ref 152)), (DictEntry.mk (PyData.keyHash P (Str.ofString "__doc__")) (Value.str (Str.ofString "__doc__") 522) Value.none)] 4) #[])) ::
  ((nat_lit 150 : Addr), (Obj.mk (Value.type "type") none (Data.cls (ClassData.mk (Str.ofString "C14NWriterTarget") [(Value.type "object")] [(Value.ref 150), (Value.type "object")] 149 (Str.ofString "C14NWriterTarget") true [] [] false none false)) #[none, none, (some (Value.str (Str.ofString "C14NWriterTarget") 360)), (some (Value.str (Str.ofString "C14NWriterTarget") 368)), (some (Value.builtin "object.__new__")), (some (Value.bool true))])) ::
  ((nat_lit 151 : Addr), (Obj.mk (Value.type "getset_descriptor") none (Data.fields #[(Value.str (Str.ofString "__dict__") 518), (Value.ref 150), (Value.builtin "function.__dict__"), (Value.builtin "function.__dict__#set")]) #[])) ::
  ((nat_lit 152 : Addr), (Obj.mk (Value.type "getset_descriptor") none (Data.fields #[(Value.str (Str.ofString "__weakref__") 520), (Value.ref 150), (Value.builtin "ExceptionGroup.__weakref__"), Value.none]) #[])) ::
  ((nat_lit 155 : Addr), (Obj.mk (Value.type "tuple") none (Data.seq #[] 0) #[])) ::
  ((nat_lit 157 : Addr), (Obj.mk (Value.type "tuple") none (Data.seq #[(Value.str (Str.ofString "text") 528)] 0) #[])) ::
  ((nat_lit 158 : Addr), (Obj.mk (Value.type "tuple") none (Data.seq #[] 0) #[])) ::
  ((nat_lit 160 : Addr), (Obj.mk (Value.type "code") none (Data.fields #[(Value.str (Str.ofString "_escape_cdata_c14n") 525), (Value.str (Str.ofString "_escape_cdata_c14n") 526), (Value.str (Str.ofString "/claim/cut.py") 527), (Value.int 180 0), (Value.int 1 0), (Value.int 0 0), (Value.int 0 0), (Value.int 3 0), (Value.ref 155), (Value.bool true), (Value.int 276 0), (Value.ref 156), Value.none, (Value.ref 157), (Value.ref 158), (Value.ref 159), (Value.int 529 0), (Value.int 180 0), (Value.str (Str.ofString "/claim/cut.py") 530)]) #[])) ::
  ((nat_lit 161 : Addr), (Obj.mk (Value.type "function") none (Data.func (kFd [8] rfl (Str.ofString "_escape_cdata_c14n") (Str.ofString "_escape_cdata_c14n") 3 [] Value.none Value.none Value.none (Value.str (Str.ofString "cpy313.xml.etree.ElementTree") 289) none (Value.ref 160) Value.none 0)) #[])) ::
  ((nat_lit 162 : Addr), (Obj.mk (Value.type "tuple") none (Data.seq #[] 0) #[])) ::
  ((nat_lit 164 : Addr), (Obj.mk (Value.type "tuple") none (Data.seq #[(Value.str (Str.ofString "text") 535)] 0) #[])) ::
  ((nat_lit 165 : Addr), (Obj.mk (Value.type "tuple") none (Data.seq #[] 0) #[])) ::
  ((nat_lit 167 : Addr), (Obj.mk (Value.type "code") none (Data.fields #[(Value.str (Str.ofString "_escape_attrib_c14n") 532), (Value.str (Str.ofString "_escape_attrib_c14n") 533), (Value.str (Str.ofString "/claim/cut.py") 534), (Value.int 193 0), (Value.int 1 0), (Value.int 0 0), (Value.int 0 0), (Value.int 3 0), (Value.ref 162), (Value.bool true), (Value.int 276 0), (Value.ref 163), Value.none, (Value.ref 164), (Value.ref 165), (Value.ref 166), (Value.int 536 0), (Value.int 193 0), (Value.str (Str.ofString "/claim/cut.py") 537)]) #[])) ::
  ((nat_lit 168 : Addr), (Obj.mk (Value.type "function") none (Data.func (kFd [9] rfl (Str.ofString "_escape_attrib_c14n") (Str.ofString "_escape_attrib_c14n") 3 [] Value.none Value.none Value.none (Value.str (Str.ofString "cpy313.xml.etree.ElementTree") 289) none (Value.ref 167) Value.none 0)) #[])) ::
  ((nat_lit 176 : Addr), (Obj.mk (Value.type "tuple") none (Data.seq #[] 0) #[])) ::
  ((nat_lit 178 : Addr), (Obj.mk (Value.type "tuple") none (Data.seq #[(Value.str (Str.ofString "self") 556)] 0) #[])) ::
  ((nat_lit 179 : Addr), (Obj.mk (Value.type "tuple") none (Data.seq #[] 0) #[])) ::
  ((nat_lit 181 : Addr), (Obj.mk (Value.type "code") none (Data.fields #[(Value.str (Str.ofString "__init__") 553), (Value.str (Str.ofString "HTTPPasswordMgr.__init__") 554), (Value.str (Str.ofString "/claim/cut.py") 555), (Value.int 213 0), (Value.int 1 0), (Value.int 0 0), (Value.int 0 0), (Value.int 3 0), (Value.ref 176), (Value.bool true), (Value.int 276 0), (Value.ref 177), Value.none, (Value.ref 178), (Value.ref 179), (Value.ref 180), (Value.int 557 0), (Value.int 213 0), (Value.str (Str.ofString "/claim/cut.py") 558)]) #[])) ::
  ((nat_lit 182 : Addr), (Obj.mk (Value.type "function") none (Data.func (kFd [11, 0] rfl (Str.ofString "__init__") (Str.ofString "HTTPPasswordMgr.__init__") 3 [] Value.none Value.none Value.none (Value.str (Str.ofString "cpy313.urllib.request") 539) none (Value.ref 181) Value.none 0)) #[])) ::
  ((nat_lit 183 : Addr), (Obj.mk (Value.type "tuple") none (Data.seq #[] 0) #[])) ::
  ((nat_lit 185 : Addr), (Obj.mk (Value.type "tuple") none (Data.seq #[(Value.str (Str.ofString "self") 563), (Value.str (Str.ofString "realm") 564), (Value.str (Str.ofString "uri") 565), (Value.str (Str.ofString "user") 566), (Value.str (Str.ofString "passwd") 567)] 0) #[])) ::
  ((nat_lit 186 : Addr), (Obj.mk (Value.type "tuple") none (Data.seq #[] 0) #[])) ::
  ((nat_lit 188 : Addr), (Obj.mk (Value.type "code") none (Data.fields #[(Value.str (Str.ofString "add_password") 560), (Value.str (Str.ofString "HTTPPasswordMgr.add_password") 561), (Value.str (Str.ofString "/claim/cut.py") 562), (Value.int 216 0), (Value.int 5 0), (Value.int 0 0), (Value.int 0 0), (Value.int 3 0), (Value.ref 183), (Value.bool true), (Value.int 276 0), (Value.ref 184), Value.none, (Value.ref 185), (Value.ref 186), (Value.ref 187), (Value.int 568 0), (Value.int 216 0), (Value.str (Str.ofString "/claim/cut.py") 569)]) #[])) ::
  ((nat_lit 189 : Addr), (Obj.mk (Value.type "function") none (Data.func (kFd [11, 1] rfl (Str.ofString "add_password") (Str.ofString "HTTPPasswordMgr.add_password") 3 [] Value.none Value.none Value.none (Value.str (Str.ofString "cpy313.urllib.request") 539) none (Value.ref 188) Value.none 0)) #[])) ::
  ((nat_lit 190 : Addr), (Obj.mk (Value.type "tuple") none (Data.seq #[] 0) #[])) ::
  ((nat_lit 192 : Addr), (Obj.mk (Value.type "tuple") none (Data.seq #[(Value.str (Str.ofString "self") 574), (Value.str (Str.ofString "realm") 575), (Value.str (Str.ofString "authuri") 576)] 0) #[])) ::
  ((nat_lit 193 : Addr), (Obj.mk (Value.type "tuple") none (Data.seq #[] 0) #[])) ::
  ((nat_lit 195 : Addr), (Obj.mk (Value.type "code") none (Data.fields #[(Value.str (Str.ofString "find_user_password") 571), (Value.str (Str.ofString "HTTPPasswordMgr.find_user_password") 572), (Value.str (Str.ofString "/claim/cut.py") 573), (Value.int 219 0), (Value.int 3 0), (Value.int 0 0), (Value.int 0 0), (Value.int 3 0), (Value.ref 190), (Value.bool true), (Value.int 276 0), (Value.ref 191), Value.none, (Value.ref 192), (Value.ref 193), (Value.ref 194), (Value.int 577 0), (Value.int 219 0), (Value.str (Str.ofString "/claim/cut.py") 578)]) #[])) ::
  ((nat_lit 196 : Addr), (Obj.mk (Value.type "function") none (Data.func (kFd [11, 2] rfl (Str.ofString "find_user_password") (Str.ofString "HTTPPasswordMgr.find_user_password") 3 [] Value.none Value.none Value.none (Value.str (Str.ofString "cpy313.urllib.request") 539) none (Value.ref 195) Value.none 0)) #[])) ::
  ((nat_lit 197 : Addr), (Obj.mk (Value.type "tuple") none (Data.seq #[(Value.bool true)] 0) #[])) ::
  ((nat_lit 198 : Addr), (Obj.mk (Value.type "tuple") none (Data.seq #[] 0) #[])) ::
  ((nat_lit 200 : Addr), (Obj.mk (Value.type "tuple") none (Data.seq #[(Value.str (Str.ofString "self") 583), (Value.str (Str.ofString "uri") 584), (Value.str (Str.ofString "default_port") 585)] 0) #[])) ::
  ((nat_lit 201 : Addr), (Obj.mk (Value.type "tuple") none (Data.seq #[] 0) #[])) ::
  ((nat_lit 203 : Addr), (Obj.mk (Value.type "code") none (Data.fields #[(Value.str (Str.ofString "reduce_uri") 580), (Value.str (Str.ofString "HTTPPasswordMgr.reduce_uri") 581), (Value.str (Str.ofString "/claim/cut.py") 582), (Value.int 222 0), (Value.int 3 0), (Value.int 0 0), (Value.int 0 0), (Value.int 3 0), (Value.ref 198), (Value.bool true), (Value.int 276 0), (Value.ref 199), Value.none, (Value.ref 200), (Value.ref 201), (Value.ref 202), (Value.int 586 0), (Value.int 222 0), (Value.str (Str.ofString "/claim/cut.py") 587)]) #[])) ::
  ((nat_lit 204 : Addr), (Obj.mk (Value.type "function") none (Data.func (kFd [11, 3] rfl (Str.ofString "reduce_uri") (Str.ofString "HTTPPasswordMgr.reduce_uri") 3 [] (Value.ref 197) Value.none Value.none (Value.str (Str.ofString "cpy313.urllib.request") 539) none (Value.ref 203) Value.none 0)) #[])) ::
  ((nat_lit 205 : Addr), (Obj.mk (Value.type "tuple") none (Data.seq #[] 0) #[])) ::
  ((nat_lit 207 : Addr), (Obj.mk (Value.type "tuple") none (Data.seq #[(Value.str (Str.ofString "self") 592), (Value.str (Str.ofString "base") 593), (Value.str (Str.ofString "test") 594), (Value.str (Str.ofString "prefix") 595)] 0) #[])) ::
  ((nat_lit 208 : Addr), (Obj.mk (Value.type "tuple") none (Data.seq #[] 0) #[])) ::
  ((nat_lit 210 : Addr), (Obj.mk (Value.type "code") none (Data.fields #[(Value.str (Str.ofString "is_suburi") 589), (Value.str (Str.ofString "HTTPPasswordMgr.is_suburi") 590), (Value.str (Str.ofString "/claim/cut.py") 591), (Value.int 225 0), (Value.int 3 0), (Value.int 0 0), (Value.int 0 0), (Value.int 3 0), (Value.ref 205), (Value.bool true), (Value.int 276 0), (Value.ref 206), Value.none, (Value.ref 207), (Value.ref 208), (Value.ref 209), (Value.int 596 0), (Value.int 225 0), (Value.str (Str.ofString "/claim/cut.py") 597)]) #[])) ::
  ((nat_lit 211 : Addr), (Obj.mk (Value.type "function") none (Data.func (kFd [11, 4] rfl (Str.ofString "is_suburi") (Str.ofString "HTTPPasswordMgr.is_suburi") 3 [] Value.none Value.none Value.none (Value.str (Str.ofString "cpy313.urllib.request") 539) none (Value.ref 210) Value.none 0)) #[])) ::
  ((nat_lit 212 : Addr), (Obj.mk (Value.type "tuple") none (Data.seq #[(Value.str (Str.ofString "passwd") 599)] 0) #[])) ::
  ((nat_lit 213 : Addr), (Obj.mk (Value.type "dict") none (Data.dict #[(DictEntry.mk (PyData.keyHash P (Str.ofString "__module__")) (Value.str (Str.ofString "__module__") 548) (Value.str (Str.ofString "cpy313.urllib.request") 539)), (DictEntry.mk (PyData.keyHash P (Str.ofString "__firstlineno__")) (Value.str (Str.ofString "__firstlineno__") 552) (Value.int 211 551)), (DictEntry.mk (PyData.keyHash P (Str.ofString "__init__")) (Value.str (Str.ofString "__init__") 559) (Value.ref 182)), (DictEntry.mk (PyData.keyHash P (Str.ofString "add_password")) (Value.str (Str.ofString "add_password") 570) (Value.ref 189)), (DictEntry.mk (PyData.keyHash P (Str.ofString "find_user_password")) (Value.str (Str.ofString "find_user_password") 579) (Value.ref 196)), (DictEntry.mk (PyData.keyHash P (Str.ofString "reduce_uri")) (Value.str (Str.ofString "reduce_uri") 588) (Value.ref 204)), (DictEntry.mk (PyData.keyHash P (Str.ofString "is_suburi")) (Value.str (Str.ofString "is_suburi") 598) (Value.ref 211)), (DictEntry.mk (PyData.keyHash P (Str.ofString "__static_attributes__")) (Value.str (Str.ofString "__static_attributes__") 600) (Value.ref 212)), (DictEntry.mk (PyData.keyHash P (Str.ofString "__dict__")) (Value.str (Str.ofString "__dict__") 602) (Value.ref 215)), (DictEntry.mk (PyData.keyHash P (Str.ofString "__weakref__")) (Value.str (Str.ofString "__weakref__") 604) (Value.ref 216)), (DictEntry.mk (PyData.keyHash P (Str.ofString "__doc__")) (Value.str (Str.ofString "__doc__") 605) Value.none)] 4) #[])) ::
  ((nat_lit 214 : Addr), (Obj.mk (Value.type "type") none (Data.cls (ClassData.mk (Str.ofString "HTTPPasswordMgr") [(Value.type "object")] [(Value.ref 214), (Value.type "object")] 213 (Str.ofString "HTTPPasswordMgr") true [] [] false none false)) #[none, none, (some (Value.str (Str.ofString "HTTPPasswordMgr") 541)), (some (Value.str (Str.ofString "HTTPPasswordMgr") 549)), (some (Value.builtin "object.__new__")), (some (Value.bool true))])) ::
  ((nat_lit 215 : Addr), (Obj.mk (Value.type "getset_descriptor") none (Data.fields #[(Value.str (Str.ofString "__dict__") 601), (Value.ref 214), (Value.builtin "function.__dict__"), (Value.builtin "function.__dict__#set")]) #[])) ::
  ((nat_lit 216 : Addr), (Obj.mk (Value.type "getset_descriptor") none (Data.fields #[(Value.str (Str.ofString "__weakref__") 603), (Value.ref 214), (Value.builtin "ExceptionGroup.__weakref__"), Value.none]) #[])) ::
  ((nat_lit 219 : Addr), (Obj.mk (Value.type "tuple") none (Data.seq #[] 0) #[])) ::
  ((nat_lit 221 : Addr), (Obj.mk (Value.type "tuple") none (Data.seq #[(Value.str (Str.ofString "numbers") 613), (Value.str (Str.ofString "line") 614), (Value.str (Str.ofString "begun") 615), (Value.str (Str.ofString "deeds") 616), (Value.str (Str.ofString "n") 617), (Value.str (Str.ofString "here") 618)] 0) #[])) ::
  ((nat_lit 222 : Addr), (Obj.mk (Value.type "tuple") none (Data.seq #[] 0) #[])) ::
  ((nat_lit 224 : Addr), (Obj.mk (Value.type "code") none (Data.fields #[(Value.str (Str.ofString "_law_deeds") 610), (Value.str (Str.ofString "_law_deeds") 611), (Value.str (Str.ofString "/claim/cut.py") 612), (Value.int 235 0), (Value.int 1 0), (Value.int 0 0), (Value.int 0 0), (Value.int 3 0), (Value.ref 219), (Value.bool true), (Value.int 276 0), (Value.ref 220), Value.none, (Value.ref 221), (Value.ref 222), (Value.ref 223), (Value.int 619 0), (Value.int 235 0), (Value.str (Str.ofString "/claim/cut.py") 620)]) #[])) ::
  ((nat_lit 225 : Addr), (Obj.mk (Value.type "function") none (Data.func (kFd [13] rfl (Str.ofString "_law_deeds") (Str.ofString "_law_deeds") 3 [] Value.none Value.none Value.none (Value.str (Str.ofString "law_pg0323_01") 608) none (Value.ref 224) Value.none 0)) #[])) ::
  ((nat_lit 226 : Addr), (Obj.mk (Value.type "tuple") none (Data.seq #[] 0) #[])) ::
  ((nat_lit 228 : Addr), (Obj.mk (Value.type "tuple") none (Data.seq #[(Value.str (Str.ofString "writer") 625), (Value.str (Str.ofString "prefix") 626)] 0) #[])) ::
  ((nat_lit 229 : Addr), (Obj.mk (Value.type "tuple") none (Data.seq #[] 0) #[])) ::
  ((nat_lit 231 : Addr), (Obj.mk (Value.type "code") none (Data.fields #[(Value.str (Str.ofString "_law_meant") 622), (Value.str (Str.ofString "_law_meant") 623), (Value.str (Str.ofString "/claim/cut.py") 624), (Value.int 252 0), (Value.int 2 0), (Value.int 0 0), (Value.int 0 0), (Value.int 3 0), (Value.ref 226), (Value.bool true), (Value.int 276 0), (Value.ref 227), Value.none, (Value.ref 228), (Value.ref 229), (Value.ref 230), (Value.int 627 0), (Value.int 252 0), (Value.str (Str.ofString "/claim/cut.py") 628)]) #[])) ::
  ((nat_lit 232 : Addr), (Obj.mk (Value.type "function") none (Data.func (kFd [14] rfl (Str.ofString "_law_meant") (Str.ofString "_law_meant") 3 [] Value.none Value.none Value.none (Value.str (Str.ofString "law_pg0323_01") 608) none (Value.ref 231) Value.none 0)) #[])) ::
  ((nat_lit 233 : Addr), (Obj.mk (Value.type "tuple") none (Data.seq #[] 0) #[])) ::
  ((nat_lit 235 : Addr), (Obj.mk (Value.type "tuple") none (Data.seq #[(Value.str (Str.ofString "manager") 633), (Value.str (Str.ofString "tellings") 634), (Value.str (Str.ofString "prefix") 635), (Value.str (Str.ofString "here") 636), (Value.str (Str.ofString "depth") 637), (Value.str (Str.ofString "found") 638), (Value.str (Str.ofString "place") 639), (Value.str (Str.ofString "word") 640), (Value.str (Str.ofString "uri") 641)] 0) #[])) ::
  ((nat_lit 236 : Addr), (Obj.mk (Value.type "tuple") none (Data.seq #[] 0) #[])) ::
  ((nat_lit 238 : Addr), (Obj.mk (Value.type "code") none (Data.fields #[(Value.str (Str.ofString "_law_due") 630), (Value.str (Str.ofString "_law_due") 631), (Value.str (Str.ofString "/claim/cut.py") 632), (Value.int 257 0), (Value.int 4 0), (Value.int 0 0), (Value.int 0 0), (Value.int 3 0), (Value.ref 233), (Value.bool true), (Value.int 276 0), (Value.ref 234), Value.none, (Value.ref 235), (Value.ref 236), (Value.ref 237), (Value.int 642 0), (Value.int 257 0), (Value.str (Str.ofString "/claim/cut.py") 643)]) #[])) ::
  ((nat_lit 239 : Addr), (Obj.mk (Value.type "function") none (Data.func (kFd [15] rfl (Str.ofString "_law_due") (Str.ofString "_law_due") 3 [] Value.none Value.none Value.none (Value.str (Str.ofString "law_pg0323_01") 608) none (Value.ref 238) Value.none 0)) #[])) ::
  ((nat_lit 240 : Addr), (Obj.mk (Value.type "tuple") none (Data.seq #[] 0) #[])) ::
  ((nat_lit 242 : Addr), (Obj.mk (Value.type "tuple") none (Data.seq #[(Value.str (Str.ofString "script") 648), (Value.str (Str.ofString "manager") 649), (Value.str (Str.ofString "pieces") 650), (Value.str (Str.ofString "writer") 651), (Value.str (Str.ofString "tellings") 652), (Value.str (Str.ofString "text") 653), (Value.str (Str.ofString "numbers") 654), (Value.str (Str.ofString "kind") 655), (Value.str (Str.ofString "here") 656), (Value.str (Str.ofString "word") 657), (Value.str (Str.ofString "uri") 658), (Value.str (Str.ofString "prefix") 659)] 0) #[])) ::
  ((nat_lit 243 : Addr), (Obj.mk (Value.type "tuple") none (Data.seq #[] 0) #[])) ::
  ((nat_lit 245 : Addr), (Obj.mk (Value.type "code") none (Data.fields #[(Value.str (Str.ofString "law") 645), (Value.str (Str.ofString "law") 646), (Value.str (Str.ofString "/claim/cut.py") 647), (Value.int 265 0), (Value.int 1 0), (Value.int 0 0), (Value.int 0 0), (Value.int 3 0), (Value.ref 240), (Value.bool true), (Value.int 276 0), (Value.ref 241), Value.none, (Value.ref 242), (Value.ref 243), (Value.ref 244), (Value.int 660 0), (Value.int 265 0), (Value.str (Str.ofString "/claim/cut.py") 661)]) #[])) ::
  ((nat_lit 246 : Addr), (Obj.mk (Value.type "function") none (Data.func (kFd [16] rfl (Str.ofString "law") (Str.ofString "law") 3 [] Value.none Value.none Value.none (Value.str (Str.ofString "law_pg0323_01") 608) none (Value.ref 245) Value.none 0)) #[])) ::
  []
/-- the text without the three statements that are laid anew -/
noncomputable def hd.view_39 : Program := { PySem.Challenge.rw_pg0323_01.row.prog with main := { PySem.Challenge.rw_pg0323_01.row.prog.main with body := [0, 1, 3, 4, 5, 6, 7, 8, 9, 11, 13, 14, 15, 16].filterMap (kGet PySem.Challenge.rw_pg0323_01.row.prog.main.body) } }
theorem fill : PySem.Challenge.rw_pg0323_01 = PySem.Challenge.rw_pg0323_01 ∧ hd.heap_39 = hd.heap_39 := by
  k_fill
  exact ⟨rfl, rfl⟩
noncomputable abbrev hd.hook : Hook := kmHook hd.heap_39 [2, 3, 32, 34, 35, 37, 38, 42, 43, 44, 45, 47, 48, 50, 51, 52, 60, 61, 63, 64, 66, 67, 68, 69, 71, 72, 74, 75, 76, 78, 79, 81, 82, 83, 84, 86, 87, 89, 90, 91, 93, 94, 96, 97, 98, 99, 100, 102, 103, 105, 106, 107, 109, 110, 112, 113, 114, 116, 117, 119, 120, 121, 122, 125, 126, 127, 129, 130, 132, 133, 134, 136, 137, 139, 140, 141, 143, 144, 146, 147, 148, 149, 150, 151, 152, 155, 157, 158, 160, 161, 162, 164, 165, 167, 168, 176, 178, 179, 181, 182, 183, 185, 186, 188, 189, 190, 192, 193, 195, 196, 197, 198, 200, 201, 203, 204, 205, 207, 208, 210, 211, 212, 213, 214, 215, 216, 219, 221, 222, 224, 225, 226, 228, 229, 231, 232, 233, 235, 236, 238, 239, 240, 242, 243, 245, 246] (fun _ => by kernel_rfl) [123]
abbrev hd.loose : List Str := [Str.ofString "_twin_re_1", Str.ofString "_namespace_map", Str.ofString "_looks_like_prefix_name", Str.ofString "C14NWriterTarget"]
noncomputable abbrev hd.xt : Shared → Bool := fun s => xlAt hd.view_39 [] s && recOk PySem.Challenge.rw_pg0323_01.row.records s
theorem opt_pair {α β γ : Type} {o : Option α} {f : α → β} {g : α → γ} {a : β} {b : γ} (h1 : o.map f = some a) (h2 : o.map g = some b) : o.map (fun x => (f x, g x)) = some (a, b) := by
  cases o with
  | none => cases h1
  | some x =>
    obtain rfl := Option.some.inj h1
    obtain rfl := Option.some.inj h2
    rfl
end Mine
end
section
open PySem PySem.W PyProof.Rows
set_option autoImplicit false
namespace Mine
set_option maxRecDepth 1000000
set_option maxHeartbeats 8000000
abbrev kE (P : Params) (k : String) (t : Tok) (v : Value) : DictEntry := ⟨PyData.keyHash P (Str.ofString k), .str (Str.ofString k) t, v⟩
abbrev tP : Program := PySem.Challenge.rw_pg0323_01.row.prog
noncomputable def hd.o_442 : Params → Obj := fun P => (Obj.mk (Value.type "dict") none (Data.dict #[(kE P "__name__" 247 (Value.str (Str.ofString "_sre") 246)), (kE P "__doc__" 248 Value.none), (kE P "__package__" 250 (Value.str (Str.ofString "") 249)), (kE P "__loader__" 251 (Value.ref 14)), (kE P "__spec__" 252 (Value.ref 26)), (kE P "compile" 253 (Value.builtin "_sre.compile")), (kE P "template" 254 (Value.builtin "_sre.template")), (kE P "getcodesize" 255 (Value.builtin "_sre.getcodesize")), (kE P "ascii_iscased" 256 (Value.builtin "_sre.ascii_iscased")), (kE P "unicode_iscased" 257 (Value.builtin "_sre.unicode_iscased")), (kE P "ascii_tolower" 258 (Value.builtin "_sre.ascii_tolower")), (kE P "unicode_tolower" 259 (Value.builtin "_sre.unicode_tolower")), (kE P "MAGIC" 261 (Value.int 20230612 260)), (kE P "CODESIZE" 263 (Value.int 4 262)), (kE P "MAXREPEAT" 265 (Value.int 4294967295 264)), (kE P "MAXGROUPS" 267 (Value.int 1073741823 266)), (kE P "copyright" 269 (Value.str (Str.ofString " SRE 2.2.2 Copyright (c) 1997-2002 by Secret Labs AB ") 268))] 17) #[])
noncomputable def hd.o_41 : Params → Obj := fun P => (Obj.mk (Value.type "dict") none (Data.dict #[(kE P "__name__" 1 (Value.str (Str.ofString "builtins") 160)), (kE P "__doc__" 2 (Value.builtin "builtins.__doc__:str#opaque")), (kE P "__package__" 3 (Value.builtin "builtins.__package__:str#opaque")), (kE P "__loader__" 4 (Value.builtin "builtins.__loader__:shared#opaque")), (kE P "__spec__" 5 (Value.builtin "builtins.__spec__#opaque")), (kE P "__build_class__" 6 (Value.builtin "__build_class__")), (kE P "__import__" 7 (Value.builtin "__import__")), (kE P "abs" 8 (Value.builtin "abs")), (kE P "all" 9 (Value.builtin "all")), (kE P "any" 10 (Value.builtin "any")), (kE P "ascii" 11 (Value.builtin "ascii")), (kE P "bin" 12 (Value.builtin "bin")), (kE P "breakpoint" 13 (Value.builtin "breakpoint")), (kE P "callable" 14 (Value.builtin "callable")), (kE P "chr" 15 (Value.builtin "chr")), (kE P "compile" 16 (Value.builtin "compile")), (kE P "delattr" 17 (Value.builtin "delattr")), (kE P "dir" 18 (Value.builtin "dir")), (kE P "divmod" 19 (Value.builtin "divmod")), (kE P "eval" 20 (Value.builtin "eval")), (kE P "exec" 21 (Value.builtin "exec")), (kE P "format" 22 (Value.builtin "format")), (kE P "getattr" 23 (Value.builtin "getattr")), (kE P "globals" 24 (Value.builtin "globals")), (kE P "hasattr" 25 (Value.builtin "hasattr")), (kE P "hash" 26 (Value.builtin "hash")), (kE P "hex" 27 (Value.builtin "hex")), (kE P "id" 28 (Value.builtin "id")), (kE P "input" 29 (Value.builtin "input")), (kE P "isinstance" 30 (Value.builtin "isinstance")), (kE P "issubclass" 31 (Value.builtin "issubclass")), (kE P "iter" 32 (Value.builtin "iter")), (kE P "aiter" 33 (Value.builtin "aiter")), (kE P "len" 34 (Value.builtin "len")), (kE P "locals" 35 (Value.builtin "locals")), (kE P "max" 36 (Value.builtin "max")), (kE P "min" 37 (Value.builtin "min")), (kE P "next" 38 (Value.builtin "next")), (kE P "anext" 39 (Value.builtin "anext")), (kE P "oct" 40 (Value.builtin "oct")), (kE P "ord" 41 (Value.builtin "ord")), (kE P "pow" 42 (Value.builtin "pow")), (kE P "print" 43 (Value.builtin "print")), (kE P "repr" 44 (Value.builtin "repr")), (kE P "round" 45 (Value.builtin "round")), (kE P "setattr" 46 (Value.builtin "setattr")), (kE P "sorted" 47 (Value.builtin "sorted")), (kE P "sum" 48 (Value.builtin "sum")), (kE P "vars" 49 (Value.builtin "vars")), (kE P "None" 50 Value.none), (kE P "Ellipsis" 51 Value.ellipsis), (kE P "NotImplemented" 52 Value.notImplemented), (kE P "False" 53 (Value.bool false)), (kE P "True" 54 (Value.bool true)), (kE P "bool" 55 (Value.type "bool")), (kE P "memoryview" 56 (Value.type "memoryview")), (kE P "bytearray" 57 (Value.type "bytearray")), (kE P "bytes" 58 (Value.type "bytes")), (kE P "classmethod" 59 (Value.type "classmethod")), (kE P "complex" 60 (Value.type "complex")), (kE P "dict" 61 (Value.type "dict")), (kE P "enumerate" 62 (Value.type "enumerate")), (kE P "filter" 63 (Value.type "filter")), (kE P "float" 64 (Value.type "float")), (kE P "frozenset" 65 (Value.type "frozenset")), (kE P "property" 66 (Value.type "property")), (kE P "int" 67 (Value.type "int")), (kE P "list" 68 (Value.type "list")), (kE P "map" 69 (Value.type "map")), (kE P "object" 70 (Value.type "object")), (kE P "range" 71 (Value.type "range")), (kE P "reversed" 72 (Value.type "reversed")), (kE P "set" 73 (Value.type "set")), (kE P "slice" 74 (Value.type "slice")), (kE P "staticmethod" 75 (Value.type "staticmethod")), (kE P "str" 76 (Value.type "str")), (kE P "super" 77 (Value.type "super")), (kE P "tuple" 78 (Value.type "tuple")), (kE P "type" 79 (Value.type "type")), (kE P "zip" 80 (Value.type "zip")), (kE P "__debug__" 81 (Value.bool true)), (kE P "BaseException" 82 (Value.type "BaseException")), (kE P "BaseExceptionGroup" 83 (Value.type "BaseExceptionGroup")), (kE P "Exception" 84 (Value.type "Exception")), (kE P "GeneratorExit" 85 (Value.type "GeneratorExit")), (kE P "KeyboardInterrupt" 86 (Value.type "KeyboardInterrupt")), (kE P "SystemExit" 87 (Value.type "SystemExit")), (kE P "ArithmeticError" 88 (Value.type "ArithmeticError")), (kE P "AssertionError" 89 (Value.type "AssertionError")), (kE P "AttributeError" 90 (Value.type "AttributeError")), (kE P "BufferError" 91 (Value.type "BufferError")), (kE P "EOFError" 92 (Value.type "EOFError")), (kE P "ImportError" 93 (Value.type "ImportError")), (kE P "LookupError" 94 (Value.type "LookupError")), (kE P "MemoryError" 95 (Value.type "MemoryError")), (kE P "NameError" 96 (Value.type "NameError")), (kE P "OSError" 97 (Value.type "OSError")), (kE P "ReferenceError" 98 (Value.type "ReferenceError")), (kE P "RuntimeError" 99 (Value.type "RuntimeError")), (kE P "StopAsyncIteration" 100 (Value.type "StopAsyncIteration")), (kE P "StopIteration" 101 (Value.type "StopIteration")), (kE P "SyntaxError" 102 (Value.type "SyntaxError")), (kE P "SystemError" 103 (Value.type "SystemError")), (kE P "TypeError" 104 (Value.type "TypeError")), (kE P "ValueError" 105 (Value.type "ValueError")), (kE P "Warning" 106 (Value.type "Warning")), (kE P "FloatingPointError" 107 (Value.type "FloatingPointError")), (kE P "OverflowError" 108 (Value.type "OverflowError")), (kE P "ZeroDivisionError" 109 (Value.type "ZeroDivisionError")), (kE P "BytesWarning" 110 (Value.type "BytesWarning")), (kE P "DeprecationWarning" 111 (Value.type "DeprecationWarning")), (kE P "EncodingWarning" 112 (Value.type "EncodingWarning")), (kE P "FutureWarning" 113 (Value.type "FutureWarning")), (kE P "ImportWarning" 114 (Value.type "ImportWarning")), (kE P "PendingDeprecationWarning" 115 (Value.type "PendingDeprecationWarning")), (kE P "ResourceWarning" 116 (Value.type "ResourceWarning")), (kE P "RuntimeWarning" 117 (Value.type "RuntimeWarning")), (kE P "SyntaxWarning" 118 (Value.type "SyntaxWarning")), (kE P "UnicodeWarning" 119 (Value.type "UnicodeWarning")), (kE P "UserWarning" 120 (Value.type "UserWarning")), (kE P "BlockingIOError" 121 (Value.type "BlockingIOError")), (kE P "ChildProcessError" 122 (Value.type "ChildProcessError")), (kE P "ConnectionError" 123 (Value.type "ConnectionError")), (kE P "FileExistsError" 124 (Value.type "FileExistsError")), (kE P "FileNotFoundError" 125 (Value.type "FileNotFoundError")), (kE P "InterruptedError" 126 (Value.type "InterruptedError")), (kE P "IsADirectoryError" 127 (Value.type "IsADirectoryError")), (kE P "NotADirectoryError" 128 (Value.type "NotADirectoryError")), (kE P "PermissionError" 129 (Value.type "PermissionError")), (kE P "ProcessLookupError" 130 (Value.type "ProcessLookupError")), (kE P "TimeoutError" 131 (Value.type "TimeoutError")), (kE P "IndentationError" 132 (Value.type "IndentationError")), (kE P "_IncompleteInputError" 133 (Value.type "_IncompleteInputError")), (kE P "IndexError" 134 (Value.type "IndexError")), (kE P "KeyError" 135 (Value.type "KeyError")), (kE P "ModuleNotFoundError" 136 (Value.type "ModuleNotFoundError")), (kE P "NotImplementedError" 137 (Value.type "NotImplementedError")), (kE P "PythonFinalizationError" 138 (Value.type "PythonFinalizationError")), (kE P "RecursionError" 139 (Value.type "RecursionError")), (kE P "UnboundLocalError" 140 (Value.type "UnboundLocalError")), (kE P "UnicodeError" 141 (Value.type "UnicodeError")), (kE P "BrokenPipeError" 142 (Value.type "BrokenPipeError")), (kE P "ConnectionAbortedError" 143 (Value.type "ConnectionAbortedError")), (kE P "ConnectionRefusedError" 144 (Value.type "ConnectionRefusedError")), (kE P "ConnectionResetError" 145 (Value.type "ConnectionResetError")), (kE P "TabError" 146 (Value.type "TabError")), (kE P "UnicodeDecodeError" 147 (Value.type "UnicodeDecodeError")), (kE P "UnicodeEncodeError" 148 (Value.type "UnicodeEncodeError")), (kE P "UnicodeTranslateError" 149 (Value.type "UnicodeTranslateError")), (kE P "ExceptionGroup" 150 (Value.type "ExceptionGroup")), (kE P "EnvironmentError" 151 (Value.type "OSError")), (kE P "IOError" 152 (Value.type "OSError")), (kE P "open" 153 (Value.builtin "open")), (kE P "quit" 154 (Value.builtin "builtins.quit#opaque")), (kE P "exit" 155 (Value.builtin "builtins.exit#opaque")), (kE P "copyright" 156 (Value.builtin "builtins.copyright#opaque")), (kE P "credits" 157 (Value.builtin "builtins.credits#opaque")), (kE P "license" 158 (Value.builtin "builtins.license#opaque")), (kE P "help" 159 (Value.builtin "builtins.help#opaque"))] 159) #[])
noncomputable def hd.o_42 : Params → Obj := fun P => (Obj.mk (Value.type "dict") none (Data.dict #[(kE P "builtins" 162 (Value.ref 4)), (kE P "__main__" 163 (Value.ref 5)), (kE P "_sre" 244 (Value.ref 12))] 3) #[])
noncomputable def hd.o_43 : Params → Obj := fun P => (Obj.mk Value.none none (Data.dict #[(kE P "\x69mport.loaded._sre" 183 (Value.bool true)), (kE P "class._frozen_importlib.BuiltinImporter" 185 (Value.ref 14)), (kE P "watched.\x69mport" 206 (Value.ref 18)), (kE P "class._frozen_importlib.ModuleSpec" 216 (Value.ref 22)), (kE P "sys.modules.booked-epoch" 245 (Value.int 3 0)), (kE P "\x69mport.later-laid._sre" 270 (Value.bool true)), (kE P "watched.library" 272 (Value.ref 27)), (kE P "watched.library-objects" 0 (Value.str (Str.mk #[12]) 0)), (kE P "watched.library-deep._sre" 273 (Value.str (Str.mk #[4, 0, 0, 11, 4, 0, 0, 11, 4, 0, 0, 3, 4, 0, 0, 11, 8, 4, 100, 105, 99, 116, 2]) 0))] 9) #[])
noncomputable def hd.o_44 : Params → Obj := fun P => (Obj.mk (Value.type "dict") none (Data.dict #[(kE P "__name__" 165 (Value.str (Str.ofString "__main__") 164)), (kE P "__doc__" 166 Value.none), (kE P "__package__" 167 Value.none), (kE P "__loader__" 168 (Value.builtin "__main__.__loader__#opaque")), (kE P "__spec__" 169 Value.none), (kE P "__annotations__" 170 (Value.ref 6)), (kE P "__builtins__" 171 (Value.ref 4)), (kE P "__file__" 173 (Value.str (Str.ofString "/claim/cut.py") 172)), (kE P "__cached__" 174 Value.none), (kE P "_sre" 275 (Value.ref 12))] 10) #[])
noncomputable def hd.o_45 : Params → Obj := fun P => (Obj.mk (Value.type "module") (some 0) Data.plain #[])
noncomputable def hd.o_46 : Params → Obj := fun P => (Obj.mk (Value.type "module") (some 3) Data.plain #[])
noncomputable def hd.o_47 : Params → Obj := fun P => (Obj.mk (Value.type "dict") none (Data.dict #[] 0) #[])
noncomputable def hd.o_48 : Params → Obj := fun P => (Obj.mk (Value.type "tuple") none (Data.seq #[] 0) #[])
noncomputable def hd.o_49 : Params → Obj := fun P => (Obj.mk Value.none none (Data.fields #[]) #[])
noncomputable def hd.o_50 : Params → Obj := fun P => (Obj.mk (Value.type "code") none (Data.fields #[(Value.str (Str.ofString "<module>") 176), (Value.str (Str.ofString "<module>") 177), (Value.str (Str.ofString "/claim/cut.py") 178), (Value.int 1 0), (Value.int 0 0), (Value.int 0 0), (Value.int 0 0), (Value.int 0 0), (Value.ref 7), (Value.bool false), (Value.int 175 0), (Value.ref 8), Value.none, Value.none, Value.none, Value.none, (Value.int 179 0), (Value.int 1 0), (Value.str (Str.ofString "/claim/cut.py") 180)]) #[])
noncomputable def hd.o_51 : Params → Obj := fun P => (Obj.mk (Value.type "frame") none Data.plain #[(some (Value.ref 9)), (some (Value.ref 3)), (some (Value.ref 3)), none, (some (Value.str (Str.ofString "__main__") 164)), none, (some (Value.ref 0))])
noncomputable def hd.o_52 : Params → Obj := fun P => (Obj.mk (Value.type "dict") none (Data.dict #[(kE P "__name__" 247 (Value.str (Str.ofString "_sre") 246)), (kE P "__doc__" 248 Value.none), (kE P "__package__" 250 (Value.str (Str.ofString "") 249)), (kE P "__loader__" 251 (Value.builtin "off-the-table:_sre.__loader__:shared#opaque")), (kE P "__spec__" 252 (Value.builtin "off-the-table:_sre.__spec__:shared#opaque")), (kE P "compile" 253 (Value.builtin "_sre.compile")), (kE P "template" 254 (Value.builtin "off-the-table:_sre.template:shared#opaque")), (kE P "getcodesize" 255 (Value.builtin "off-the-table:_sre.getcodesize:shared#opaque")), (kE P "ascii_iscased" 256 (Value.builtin "off-the-table:_sre.ascii_iscased:shared#opaque")), (kE P "unicode_iscased" 257 (Value.builtin "off-the-table:_sre.unicode_iscased:shared#opaque")), (kE P "ascii_tolower" 258 (Value.builtin "off-the-table:_sre.ascii_tolower:shared#opaque")), (kE P "unicode_tolower" 259 (Value.builtin "off-the-table:_sre.unicode_tolower:shared#opaque")), (kE P "MAGIC" 261 (Value.int 20230612 260)), (kE P "CODESIZE" 263 (Value.int 4 262)), (kE P "MAXREPEAT" 265 (Value.int 4294967295 264)), (kE P "MAXGROUPS" 267 (Value.int 1073741823 266)), (kE P "copyright" 269 (Value.str (Str.ofString " SRE 2.2.2 Copyright (c) 1997-2002 by Secret Labs AB ") 268))] 17) #[])
noncomputable def hd.o_53 : Params → Obj := fun P => (Obj.mk (Value.type "module") (some 11) Data.plain #[])
noncomputable def hd.o_54 : Params → Obj := fun P => (Obj.mk (Value.type "dict") none (Data.dict #[(kE P "__module__" 189 (Value.str (Str.ofString "_frozen_importlib") 186)), (kE P "__firstlineno__" 190 (Value.int 971 187)), (kE P "__doc__" 191 (Value.builtin "_frozen_importlib.BuiltinImporter.__doc__:str#opaque")), (kE P "_ORIGIN" 192 (Value.str (Str.ofString "built-in") 188)), (kE P "find_spec" 193 (Value.builtin "_frozen_importlib.BuiltinImporter.find_spec#opaque")), (kE P "create_module" 194 (Value.builtin "_frozen_importlib.BuiltinImporter.create_module#opaque")), (kE P "exec_module" 195 (Value.builtin "_frozen_importlib.BuiltinImporter.exec_module#opaque")), (kE P "get_code" 196 (Value.builtin "_frozen_importlib.BuiltinImporter.get_code#opaque")), (kE P "get_source" 197 (Value.builtin "_frozen_importlib.BuiltinImporter.get_source#opaque")), (kE P "is_package" 198 (Value.builtin "_frozen_importlib.BuiltinImporter.is_package#opaque")), (kE P "load_module" 199 (Value.builtin "_frozen_importlib.BuiltinImporter.load_module#opaque")), (kE P "__static_attributes__" 200 (Value.ref 15)), (kE P "__dict__" 202 (Value.ref 16)), (kE P "__weakref__" 204 (Value.ref 17))] 14) #[])
noncomputable def hd.o_55 : Params → Obj := fun P => (Obj.mk (Value.type "type") none (Data.cls (ClassData.mk (Str.ofString "BuiltinImporter") [(Value.type "object")] [(Value.ref 14), (Value.type "object")] 13 (Str.ofString "BuiltinImporter") true [] [] false none false)) #[])
noncomputable def hd.o_56 : Params → Obj := fun P => (Obj.mk (Value.type "tuple") none (Data.seq #[] 0) #[])
noncomputable def hd.o_57 : Params → Obj := fun P => (Obj.mk (Value.type "getset_descriptor") none (Data.fields #[(Value.str (Str.ofString "__dict__") 201), (Value.ref 14), (Value.builtin "function.__dict__"), (Value.builtin "function.__dict__#set")]) #[])
noncomputable def hd.o_58 : Params → Obj := fun P => (Obj.mk (Value.type "getset_descriptor") none (Data.fields #[(Value.str (Str.ofString "__weakref__") 203), (Value.ref 14), (Value.builtin "ExceptionGroup.__weakref__"), Value.none]) #[])
noncomputable def hd.o_59 : Params → Obj := fun P => (Obj.mk Value.none none (Data.seq #[(Value.int 13 0), (Value.str (Str.mk #[6, 189, 10, 95, 95, 109, 111, 100, 117, 108, 101, 95, 95, 6, 186, 17, 95, 102, 114, 111, 122, 101, 110, 95, 105, 109, 112, 111, 114, 116, 108, 105, 98, 6, 190, 15, 95, 95, 102, 105, 114, 115, 116, 108, 105, 110, 101, 110, 111, 95, 95, 4, 187, 0, 971, 6, 191, 7, 95, 95, 100, 111, 99, 95, 95, 9, 52, 95, 102, 114, 111, 122, 101, 110, 95, 105, 109, 112, 111, 114, 116, 108, 105, 98, 46, 66, 117, 105, 108, 116, 105, 110, 73, 109, 112, 111, 114, 116, 101, 114, 46, 95, 95, 100, 111, 99, 95, 95, 58, 115, 116, 114, 35, 111, 112, 97, 113, 117, 101, 6, 192, 7, 95, 79, 82, 73, 71, 73, 78, 6, 188, 8, 98, 117, 105, 108, 116, 45, 105, 110, 6, 193, 9, 102, 105, 110, 100, 95, 115, 112, 101, 99, 9, 50, 95, 102, 114, 111, 122, 101, 110, 95, 105, 109, 112, 111, 114, 116, 108, 105, 98, 46, 66, 117, 105, 108, 116, 105, 110, 73, 109, 112, 111, 114, 116, 101, 114, 46, 102, 105, 110, 100, 95, 115, 112, 101, 99, 35, 111, 112, 97, 113, 117, 101, 6, 194, 13, 99, 114, 101, 97, 116, 101, 95, 109, 111, 100, 117, 108, 101, 9, 54, 95, 102, 114, 111, 122, 101, 110, 95, 105, 109, 112, 111, 114, 116, 108, 105, 98, 46, 66, 117, 105, 108, 116, 105, 110, 73, 109, 112, 111, 114, 116, 101, 114, 46, 99, 114, 101, 97, 116, 101, 95, 109, 111, 100, 117, 108, 101, 35, 111, 112, 97, 113, 117, 101, 6, 195, 11, 101, 120, 101, 99, 95, 109, 111, 100, 117, 108, 101, 9, 52, 95, 102, 114, 111, 122, 101, 110, 95, 105, 109, 112, 111, 114, 116, 108, 105, 98, 46, 66, 117, 105, 108, 116, 105, 110, 73, 109, 112, 111, 114, 116, 101, 114, 46, 101, 120, 101, 99, 95, 109, 111, 100, 117, 108, 101, 35, 111, 112, 97, 113, 117, 101, 6, 196, 8, 103, 101, 116, 95, 99, 111, 100, 101, 9, 49, 95, 102, 114, 111, 122, 101, 110, 95, 105, 109, 112, 111, 114, 116, 108, 105, 98, 46, 66, 117, 105, 108, 116, 105, 110, 73, 109, 112, 111, 114, 116, 101, 114, 46, 103, 101, 116, 95, 99, 111, 100, 101, 35, 111, 112, 97, 113, 117, 101, 6, 197, 10, 103, 101, 116, 95, 115, 111, 117, 114, 99, 101, 9, 51, 95, 102, 114, 111, 122, 101, 110, 95, 105, 109, 112, 111, 114, 116, 108, 105, 98, 46, 66, 117, 105, 108, 116, 105, 110, 73, 109, 112, 111, 114, 116, 101, 114, 46, 103, 101, 116, 95, 115, 111, 117, 114, 99, 101, 35, 111, 112, 97, 113, 117, 101, 6, 198, 10, 105, 115, 95, 112, 97, 99, 107, 97, 103, 101, 9, 51, 95, 102, 114, 111, 122, 101, 110, 95, 105, 109, 112, 111, 114, 116, 108, 105, 98, 46, 66, 117, 105, 108, 116, 105, 110, 73, 109, 112, 111, 114, 116, 101, 114, 46, 105, 115, 95, 112, 97, 99, 107, 97, 103, 101, 35, 111, 112, 97, 113, 117, 101, 6, 199, 11, 108, 111, 97, 100, 95, 109, 111, 100, 117, 108, 101, 9, 52, 95, 102, 114, 111, 122, 101, 110, 95, 105, 109, 112, 111, 114, 116, 108, 105, 98, 46, 66, 117, 105, 108, 116, 105, 110, 73, 109, 112, 111, 114, 116, 101, 114, 46, 108, 111, 97, 100, 95, 109, 111, 100, 117, 108, 101, 35, 111, 112, 97, 113, 117, 101, 6, 200, 21, 95, 95, 115, 116, 97, 116, 105, 99, 95, 97, 116, 116, 114, 105, 98, 117, 116, 101, 115, 95, 95, 4, 0, 0, 15, 6, 202, 8, 95, 95, 100, 105, 99, 116, 95, 95, 4, 0, 0, 16, 6, 204, 11, 95, 95, 119, 101, 97, 107, 114, 101, 102, 95, 95, 4, 0, 0, 17]) 0), (Value.bool true), (Value.bool true), (Value.str (Str.ofString "") 205), (Value.int 21 0), (Value.str (Str.mk #[6, 227, 10, 95, 95, 109, 111, 100, 117, 108, 101, 95, 95, 6, 217, 17, 95, 102, 114, 111, 122, 101, 110, 95, 105, 109, 112, 111, 114, 116, 108, 105, 98, 6, 228, 15, 95, 95, 102, 105, 114, 115, 116, 108, 105, 110, 101, 110, 111, 95, 95, 4, 218, 0, 562, 6, 229, 7, 95, 95, 100, 111, 99, 95, 95, 9, 47, 95, 102, 114, 111, 122, 101, 110, 95, 105, 109, 112, 111, 114, 116, 108, 105, 98, 46, 77, 111, 100, 117, 108, 101, 83, 112, 101, 99, 46, 95, 95, 100, 111, 99, 95, 95, 58, 115, 116, 114, 35, 111, 112, 97, 113, 117, 101, 6, 230, 8, 95, 95, 105, 110, 105, 116, 95, 95, 9, 44, 95, 102, 114, 111, 122, 101, 110, 95, 105, 109, 112, 111, 114, 116, 108, 105, 98, 46, 77, 111, 100, 117, 108, 101, 83, 112, 101, 99, 46, 95, 95, 105, 110, 105, 116, 95, 95, 35, 111, 112, 97, 113, 117, 101, 6, 231, 8, 95, 95, 114, 101, 112, 114, 95, 95, 9, 44, 95, 102, 114, 111, 122, 101, 110, 95, 105, 109, 112, 111, 114, 116, 108, 105, 98, 46, 77, 111, 100, 117, 108, 101, 83, 112, 101, 99, 46, 95, 95, 114, 101, 112, 114, 95, 95, 35, 111, 112, 97, 113, 117, 101, 6, 232, 6, 95, 95, 101, 113, 95, 95, 9, 42, 95, 102, 114, 111, 122, 101, 110, 95, 105, 109, 112, 111, 114, 116, 108, 105, 98, 46, 77, 111, 100, 117, 108, 101, 83, 112, 101, 99, 46, 95, 95, 101, 113, 95, 95, 35, 111, 112, 97, 113, 117, 101, 6, 233, 6, 99, 97, 99, 104, 101, 100, 9, 42, 95, 102, 114, 111, 122, 101, 110, 95, 105, 109, 112, 111, 114, 116, 108, 105, 98, 46, 77, 111, 100, 117, 108, 101, 83, 112, 101, 99, 46, 99, 97, 99, 104, 101, 100, 35, 111, 112, 97, 113, 117, 101, 6, 234, 6, 112, 97, 114, 101, 110, 116, 9, 42, 95, 102, 114, 111, 122, 101, 110, 95, 105, 109, 112, 111, 114, 116, 108, 105, 98, 46, 77, 111, 100, 117, 108, 101, 83, 112, 101, 99, 46, 112, 97, 114, 101, 110, 116, 35, 111, 112, 97, 113, 117, 101, 6, 235, 12, 104, 97, 115, 95, 108, 111, 99, 97, 116, 105, 111, 110, 9, 48, 95, 102, 114, 111, 122, 101, 110, 95, 105, 109, 112, 111, 114, 116, 108, 105, 98, 46, 77, 111, 100, 117, 108, 101, 83, 112, 101, 99, 46, 104, 97, 115, 95, 108, 111, 99, 97, 116, 105, 111, 110, 35, 111, 112, 97, 113, 117, 101, 6, 236, 21, 95, 95, 115, 116, 97, 116, 105, 99, 95, 97, 116, 116, 114, 105, 98, 117, 116, 101, 115, 95, 95, 4, 0, 0, 23, 6, 238, 8, 95, 95, 100, 105, 99, 116, 95, 95, 4, 0, 0, 24, 6, 240, 11, 95, 95, 119, 101, 97, 107, 114, 101, 102, 95, 95, 4, 0, 0, 25, 6, 241, 8, 95, 95, 104, 97, 115, 104, 95, 95, 0]) 0), (Value.bool true), (Value.bool true), (Value.str (Str.ofString "") 242)] 1) #[])
noncomputable def hd.o_60 : Params → Obj := fun P => (Obj.mk (Value.type "list") none (Data.seq #[] 0) #[])
noncomputable def hd.o_61 : Params → Obj := fun P => (Obj.mk (Value.type "dict") none (Data.dict #[(kE P "name" 208 (Value.str (Str.ofString "_sre") 207)), (kE P "loader" 209 (Value.ref 14)), (kE P "origin" 210 (Value.str (Str.ofString "built-in") 184)), (kE P "loader_state" 211 Value.none), (kE P "submodule_search_locations" 212 Value.none), (kE P "_uninitialized_submodules" 213 (Value.ref 19)), (kE P "_set_fileattr" 214 (Value.bool false)), (kE P "_cached" 215 Value.none), (kE P "_initializing" 243 (Value.bool false))] 9) #[])
noncomputable def hd.o_62 : Params → Obj := fun P => (Obj.mk (Value.type "dict") none (Data.dict #[(kE P "__module__" 227 (Value.str (Str.ofString "_frozen_importlib") 217)), (kE P "__firstlineno__" 228 (Value.int 562 218)), (kE P "__doc__" 229 (Value.builtin "_frozen_importlib.ModuleSpec.__doc__:str#opaque")), (kE P "__init__" 230 (Value.builtin "_frozen_importlib.ModuleSpec.__init__#opaque")), (kE P "__repr__" 231 (Value.builtin "_frozen_importlib.ModuleSpec.__repr__#opaque")), (kE P "__eq__" 232 (Value.builtin "_frozen_importlib.ModuleSpec.__eq__#opaque")), (kE P "cached" 233 (Value.builtin "_frozen_importlib.ModuleSpec.cached#opaque")), (kE P "parent" 234 (Value.builtin "_frozen_importlib.ModuleSpec.parent#opaque")), (kE P "has_location" 235 (Value.builtin "_frozen_importlib.ModuleSpec.has_location#opaque")), (kE P "__static_attributes__" 236 (Value.ref 23)), (kE P "__dict__" 238 (Value.ref 24)), (kE P "__weakref__" 240 (Value.ref 25)), (kE P "__hash__" 241 Value.none)] 13) #[])
noncomputable def hd.o_63 : Params → Obj := fun P => (Obj.mk (Value.type "type") none (Data.cls (ClassData.mk (Str.ofString "ModuleSpec") [(Value.type "object")] [(Value.ref 22), (Value.type "object")] 21 (Str.ofString "ModuleSpec") true [] [] false none false)) #[])
noncomputable def hd.o_64 : Params → Obj := fun P => (Obj.mk (Value.type "tuple") none (Data.seq #[(Value.str (Str.ofString "_cached") 219), (Value.str (Str.ofString "_set_fileattr") 220), (Value.str (Str.ofString "_uninitialized_submodules") 221), (Value.str (Str.ofString "loader") 222), (Value.str (Str.ofString "loader_state") 223), (Value.str (Str.ofString "name") 224), (Value.str (Str.ofString "origin") 225), (Value.str (Str.ofString "submodule_search_locations") 226)] 0) #[])
noncomputable def hd.o_65 : Params → Obj := fun P => (Obj.mk (Value.type "getset_descriptor") none (Data.fields #[(Value.str (Str.ofString "__dict__") 237), (Value.ref 22), (Value.builtin "function.__dict__"), (Value.builtin "function.__dict__#set")]) #[])
noncomputable def hd.o_66 : Params → Obj := fun P => (Obj.mk (Value.type "getset_descriptor") none (Data.fields #[(Value.str (Str.ofString "__weakref__") 239), (Value.ref 22), (Value.builtin "ExceptionGroup.__weakref__"), Value.none]) #[])
noncomputable def hd.o_67 : Params → Obj := fun P => (Obj.mk (Value.ref 22) (some 20) Data.plain #[])
noncomputable def hd.o_68 : Params → Obj := fun P => (Obj.mk Value.none none (Data.seq #[(Value.int 11 0), (Value.str (Str.mk #[6, 247, 8, 95, 95, 110, 97, 109, 101, 95, 95, 6, 246, 4, 95, 115, 114, 101, 6, 248, 7, 95, 95, 100, 111, 99, 95, 95, 0, 6, 250, 11, 95, 95, 112, 97, 99, 107, 97, 103, 101, 95, 95, 6, 249, 0, 6, 251, 10, 95, 95, 108, 111, 97, 100, 101, 114, 95, 95, 4, 0, 0, 14, 6, 252, 8, 95, 95, 115, 112, 101, 99, 95, 95, 4, 0, 0, 26, 6, 253, 7, 99, 111, 109, 112, 105, 108, 101, 9, 12, 95, 115, 114, 101, 46, 99, 111, 109, 112, 105, 108, 101, 6, 254, 8, 116, 101, 109, 112, 108, 97, 116, 101, 9, 13, 95, 115, 114, 101, 46, 116, 101, 109, 112, 108, 97, 116, 101, 6, 255, 11, 103, 101, 116, 99, 111, 100, 101, 115, 105, 122, 101, 9, 16, 95, 115, 114, 101, 46, 103, 101, 116, 99, 111, 100, 101, 115, 105, 122, 101, 6, 256, 13, 97, 115, 99, 105, 105, 95, 105, 115, 99, 97, 115, 101, 100, 9, 18, 95, 115, 114, 101, 46, 97, 115, 99, 105, 105, 95, 105, 115, 99, 97, 115, 101, 100, 6, 257, 15, 117, 110, 105, 99, 111, 100, 101, 95, 105, 115, 99, 97, 115, 101, 100, 9, 20, 95, 115, 114, 101, 46, 117, 110, 105, 99, 111, 100, 101, 95, 105, 115, 99, 97, 115, 101, 100, 6, 258, 13, 97, 115, 99, 105, 105, 95, 116, 111, 108, 111, 119, 101, 114, 9, 18, 95, 115, 114, 101, 46, 97, 115, 99, 105, 105, 95, 116, 111, 108, 111, 119, 101, 114, 6, 259, 15, 117, 110, 105, 99, 111, 100, 101, 95, 116, 111, 108, 111, 119, 101, 114, 9, 20, 95, 115, 114, 101, 46, 117, 110, 105, 99, 111, 100, 101, 95, 116, 111, 108, 111, 119, 101, 114, 6, 261, 5, 77, 65, 71, 73, 67, 4, 260, 0, 20230612, 6, 263, 8, 67, 79, 68, 69, 83, 73, 90, 69, 4, 262, 0, 4, 6, 265, 9, 77, 65, 88, 82, 69, 80, 69, 65, 84, 4, 264, 0, 4294967295, 6, 267, 9, 77, 65, 88, 71, 82, 79, 85, 80, 83, 4, 266, 0, 1073741823, 6, 269, 9, 99, 111, 112, 121, 114, 105, 103, 104, 116, 6, 268, 53, 32, 83, 82, 69, 32, 50, 46, 50, 46, 50, 32, 67, 111, 112, 121, 114, 105, 103, 104, 116, 32, 40, 99, 41, 32, 49, 57, 57, 55, 45, 50, 48, 48, 50, 32, 98, 121, 32, 83, 101, 99, 114, 101, 116, 32, 76, 97, 98, 115, 32, 65, 66, 32]) 0), (Value.bool true), (Value.bool false), (Value.str (Str.ofString "_sre") 271)] 0) #[])
noncomputable def hd.o_69 : Params → Obj := fun P => (Obj.mk (Value.type "tuple") none (Data.seq #[] 0) #[])
noncomputable def hd.o_70 : Params → Obj := fun P => (Obj.mk Value.none none (Data.fields #[]) #[])
noncomputable def hd.o_71 : Params → Obj := fun P => (Obj.mk (Value.type "code") none (Data.fields #[(Value.str (Str.ofString "<module>") 277), (Value.str (Str.ofString "<module>") 278), (Value.str (Str.ofString "/claim/cut.py") 279), (Value.int 1 0), (Value.int 0 0), (Value.int 0 0), (Value.int 0 0), (Value.int 0 0), (Value.ref 28), (Value.bool false), (Value.int 276 0), (Value.ref 29), Value.none, Value.none, Value.none, Value.none, (Value.int 280 0), (Value.int 1 0), (Value.str (Str.ofString "/claim/cut.py") 281)]) #[])
noncomputable def hd.o_72 : Params → Obj := fun P => (Obj.mk (Value.type "frame") none Data.plain #[(some (Value.ref 30)), (some (Value.ref 3)), (some (Value.ref 3)), none, (some (Value.str (Str.ofString "__main__") 164)), none, (some (Value.ref 0))])
noncomputable def hd.o_75 : Params → Obj := fun P => (Obj.mk (Value.type "dict") none (Data.dict #[(kE P "__name__" 165 (Value.str (Str.ofString "cpy313.xml.etree.ElementTree") 289)), (kE P "__doc__" 166 Value.none), (kE P "__package__" 167 Value.none), (kE P "__loader__" 168 (Value.builtin "__main__.__loader__#opaque")), (kE P "__spec__" 169 Value.none), (kE P "__annotations__" 170 (Value.ref 6)), (kE P "__builtins__" 171 (Value.ref 4)), (kE P "__file__" 173 (Value.str (Str.ofString "/claim/cut.py") 172)), (kE P "__cached__" 174 Value.none), (kE P "_sre" 275 (Value.ref 12)), (kE P "_wall" 288 (Value.ref 38)), (kE P "_twin_re_1" 328 (Value.ref 43)), (kE P "_namespace_map" 350 (Value.ref 44)), (kE P "_raise_serialization_error" 357 (Value.ref 51)), (kE P "_looks_like_prefix_name" 359 (Value.ref 52))] 15) #[])
noncomputable def hd.o_92 : Params → Obj := fun P => (Obj.mk (Value.type "tuple") none (Data.seq #[(Value.str (Str.ofString "text") 354)] 0) #[])
noncomputable def hd.o_84 : Params → Obj := fun P => (Obj.mk (Value.type "list") none (Data.seq #[(Value.int 14 294), (Value.int 4 295), (Value.int 0 296), (Value.int 3 297), (Value.int 4294967295 298), (Value.int 6 299), (Value.int 0 300), (Value.int 24 301), (Value.int 9 302), (Value.int 1 303), (Value.int 4294967295 304), (Value.int 13 305), (Value.int 4 306), (Value.int 8 307), (Value.int 14 308), (Value.int 0 309), (Value.int 1 310), (Value.int 16 311), (Value.int 58 312), (Value.int 24 313), (Value.int 9 314), (Value.int 1 315), (Value.int 4294967295 316), (Value.int 13 317), (Value.int 4 318), (Value.int 8 319), (Value.int 14 320), (Value.int 0 321), (Value.int 1 322), (Value.int 6 323), (Value.int 5 324), (Value.int 1 325)] 0) #[])
noncomputable def hd.o_80 : Params → Obj := fun P => (Obj.mk (Value.type "tuple") none (Data.seq #[] 0) #[])
noncomputable def hd.o_96 : Params → Obj := fun P => (Obj.mk (Value.type "function") none (Data.func (kFd [5] rfl (Str.ofString "_raise_serialization_error") (Str.ofString "_raise_serialization_error") 3 [] Value.none Value.none Value.none (Value.str (Str.ofString "cpy313.xml.etree.ElementTree") 289) none (Value.ref 50) Value.none 0)) #[])
noncomputable def hd.o_88 : Params → Obj := fun P => (Obj.mk (Value.type "re.Pattern") none (Data.fields #[(Value.str (Str.ofString "^\\w+:\\w+$") 292), (Value.int 32 327), (Value.int 0 0), Value.none, Value.none, (Value.ref 42), (Value.int 0 0)]) #[])
noncomputable def hd.o_78 : Params → Obj := fun P => (Obj.mk Value.none none (Data.fields #[]) #[])
noncomputable def hd.o_94 : Params → Obj := fun P => (Obj.mk Value.none none (Data.func (kFd [5] rfl (Str.ofString "_raise_serialization_error") (Str.ofString "_raise_serialization_error") 0 [] Value.none Value.none Value.none Value.none none Value.none Value.none 0)) #[])
noncomputable def hd.o_86 : Params → Obj := fun P => (Obj.mk (Value.type "tuple") none (Data.seq #[Value.none] 0) #[])
noncomputable def hd.o_82 : Params → Obj := fun P => (Obj.mk (Value.type "code") none (Data.fields #[(Value.str (Str.ofString "_wall") 282), (Value.str (Str.ofString "_wall") 283), (Value.str (Str.ofString "/claim/cut.py") 284), (Value.int 2 0), (Value.int 1 0), (Value.int 0 0), (Value.int 0 0), (Value.int 3 0), (Value.ref 32), (Value.bool true), (Value.int 276 0), (Value.ref 33), Value.none, (Value.ref 34), (Value.ref 35), (Value.ref 36), (Value.int 286 0), (Value.int 2 0), (Value.str (Str.ofString "/claim/cut.py") 287)]) #[])
noncomputable def hd.o_76 : Params → Obj := fun P => (Obj.mk Value.none none (Data.fields #[(Value.int 2 0), (Value.int 0 0), (Value.ref 37), (Value.int 8 0), (Value.int 0 0), (Value.ref 50)]) #[])
noncomputable def hd.o_90 : Params → Obj := fun P => (Obj.mk (Value.type "tuple") none (Data.seq #[] 0) #[])
noncomputable def hd.o_77 : Params → Obj := fun P => (Obj.mk (Value.type "tuple") none (Data.seq #[] 0) #[])
noncomputable def hd.o_93 : Params → Obj := fun P => (Obj.mk (Value.type "tuple") none (Data.seq #[] 0) #[])
noncomputable def hd.o_85 : Params → Obj := fun P => (Obj.mk (Value.type "dict") none (Data.dict #[] 0) #[])
noncomputable def hd.o_81 : Params → Obj := fun P => (Obj.mk Value.none none (Data.func (kFd [1] rfl (Str.ofString "_wall") (Str.ofString "_wall") 0 [] Value.none Value.none Value.none Value.none none Value.none Value.none 0)) #[])
noncomputable def hd.o_97 : Params → Obj := fun P => (Obj.mk (Value.type "builtin_function_or_method") none (Data.fields #[(Value.builtin "re.Pattern.match"), (Value.ref 43)]) #[])
noncomputable def hd.o_89 : Params → Obj := fun P => (Obj.mk (Value.type "dict") none (Data.dict #[(kE P "http://www.w3.org/XML/1998/namespace" 329 (Value.str (Str.ofString "xml") 330)), (kE P "http://www.w3.org/1999/xhtml" 331 (Value.str (Str.ofString "html") 332)), (kE P "http://www.w3.org/1999/02/22-rdf-syntax-ns#" 333 (Value.str (Str.ofString "rdf") 334)), (kE P "http://schemas.xmlsoap.org/wsdl/" 335 (Value.str (Str.ofString "wsdl") 336)), (kE P "http://www.w3.org/2001/XMLSchema" 337 (Value.str (Str.ofString "xs") 338)), (kE P "http://www.w3.org/2001/XMLSchema-instance" 339 (Value.str (Str.ofString "xsi") 340)), (kE P "http://purl.org/dc/elements/1.1/" 341 (Value.str (Str.ofString "dc") 342))] 7) #[])
noncomputable def hd.o_79 : Params → Obj := fun P => (Obj.mk (Value.type "tuple") none (Data.seq #[(Value.str (Str.ofString "k") 285)] 0) #[])
noncomputable def hd.o_95 : Params → Obj := fun P => (Obj.mk (Value.type "code") none (Data.fields #[(Value.str (Str.ofString "_raise_serialization_error") 351), (Value.str (Str.ofString "_raise_serialization_error") 352), (Value.str (Str.ofString "/claim/cut.py") 353), (Value.int 8 0), (Value.int 1 0), (Value.int 0 0), (Value.int 0 0), (Value.int 3 0), (Value.ref 45), (Value.bool true), (Value.int 276 0), (Value.ref 46), Value.none, (Value.ref 47), (Value.ref 48), (Value.ref 49), (Value.int 355 0), (Value.int 8 0), (Value.str (Str.ofString "/claim/cut.py") 356)]) #[])
noncomputable def hd.o_87 : Params → Obj := fun P => (Obj.mk (Value.type "tuple") none (Data.seq #[(Value.int 14 0), (Value.int 4 0), (Value.int 0 0), (Value.int 3 0), (Value.int 4294967295 0), (Value.int 6 0), (Value.int 0 0), (Value.int 24 0), (Value.int 9 0), (Value.int 1 0), (Value.int 4294967295 0), (Value.int 13 0), (Value.int 4 0), (Value.int 8 0), (Value.int 14 0), (Value.int 0 0), (Value.int 1 0), (Value.int 16 0), (Value.int 58 0), (Value.int 24 0), (Value.int 9 0), (Value.int 1 0), (Value.int 4294967295 0), (Value.int 13 0), (Value.int 4 0), (Value.int 8 0), (Value.int 14 0), (Value.int 0 0), (Value.int 1 0), (Value.int 6 0), (Value.int 5 0), (Value.int 1 0)] 0) #[])
noncomputable def hd.o_83 : Params → Obj := fun P => (Obj.mk (Value.type "function") none (Data.func (kFd [1] rfl (Str.ofString "_wall") (Str.ofString "_wall") 3 [] Value.none Value.none Value.none (Value.str (Str.ofString "__main__") 164) none (Value.ref 37) Value.none 0)) #[])
noncomputable def hd.o_91 : Params → Obj := fun P => (Obj.mk Value.none none (Data.fields #[]) #[])
noncomputable def hd.o_100 : Params → Obj := fun P => (Obj.mk (Value.type "dict") none (Data.dict #[(kE P "__name__" 165 (Value.str (Str.ofString "cpy313.xml.etree.ElementTree") 289)), (kE P "__doc__" 166 Value.none), (kE P "__package__" 167 Value.none), (kE P "__loader__" 168 (Value.builtin "__main__.__loader__#opaque")), (kE P "__spec__" 169 Value.none), (kE P "__annotations__" 170 (Value.ref 6)), (kE P "__builtins__" 171 (Value.ref 4)), (kE P "__file__" 173 (Value.str (Str.ofString "/claim/cut.py") 172)), (kE P "__cached__" 174 Value.none), (kE P "_sre" 275 (Value.ref 12)), (kE P "_wall" 288 (Value.ref 38)), (kE P "_twin_re_1" 328 (Value.ref 43)), (kE P "_namespace_map" 350 (Value.ref 44)), (kE P "_raise_serialization_error" 357 (Value.ref 51)), (kE P "_looks_like_prefix_name" 359 (Value.ref 52)), (kE P "C14NWriterTarget" 524 (Value.ref 150))] 16) #[])
noncomputable def hd.o_112 : Params → Obj := fun P => (Obj.mk (Value.type "tuple") none (Data.seq #[(Value.str (Str.ofString "self") 382), (Value.str (Str.ofString "write") 383), (Value.str (Str.ofString "with_comments") 384), (Value.str (Str.ofString "strip_text") 385), (Value.str (Str.ofString "rewrite_prefixes") 386), (Value.str (Str.ofString "qname_aware_tags") 387), (Value.str (Str.ofString "qname_aware_attrs") 388), (Value.str (Str.ofString "exclude_attrs") 389), (Value.str (Str.ofString "exclude_tags") 390)] 0) #[])
noncomputable def hd.o_176 : Params → Obj := fun P => (Obj.mk (Value.type "tuple") none (Data.seq #[] 0) #[])
noncomputable def hd.o_144 : Params → Obj := fun P => (Obj.mk Value.none none (Data.func (kFd [7, 4] rfl (Str.ofString "data") (Str.ofString "C14NWriterTarget.data") 0 [] Value.none Value.none Value.none Value.none none Value.none Value.none 0)) #[])
noncomputable def hd.o_128 : Params → Obj := fun P => (Obj.mk (Value.type "tuple") none (Data.seq #[] 0) #[])
noncomputable def hd.o_192 : Params → Obj := fun P => (Obj.mk (Value.type "tuple") none (Data.seq #[(Value.str (Str.ofString "self") 494), (Value.str (Str.ofString "target") 495), (Value.str (Str.ofString "data") 496)] 0) #[])
noncomputable def hd.o_160 : Params → Obj := fun P => (Obj.mk Value.none none (Data.func (kFd [7, 6] rfl (Str.ofString "start_ns") (Str.ofString "C14NWriterTarget.start_ns") 0 [] Value.none Value.none Value.none Value.none none Value.none Value.none 0)) #[])
noncomputable def hd.o_120 : Params → Obj := fun P => (Obj.mk (Value.type "tuple") none (Data.seq #[(Value.str (Str.ofString "self") 397), (Value.str (Str.ofString "ns_stack") 398), (Value.str (Str.ofString "_reversed") 399), (Value.str (Str.ofString "namespaces") 400)] 0) #[])
noncomputable def hd.o_184 : Params → Obj := fun P => (Obj.mk Value.none none (Data.fields #[]) #[])
noncomputable def hd.o_152 : Params → Obj := fun P => (Obj.mk (Value.type "tuple") none (Data.seq #[] 0) #[])
noncomputable def hd.o_104 : Params → Obj := fun P => (Obj.mk (Value.type "dict") none (Data.dict #[(kE P "__module__" 367 (Value.str (Str.ofString "cpy313.xml.etree.ElementTree") 289)), (kE P "__qualname__" 369 (Value.str (Str.ofString "C14NWriterTarget") 368)), (kE P "__firstlineno__" 371 (Value.int 11 370)), (kE P "__init__" 393 (Value.ref 67)), (kE P "_iter_namespaces" 403 (Value.ref 75)), (kE P "_resolve_prefix_name" 415 (Value.ref 82)), (kE P "_qname" 428 (Value.ref 90)), (kE P "data" 436 (Value.ref 97)), (kE P "_flush" 449 (Value.ref 106)), (kE P "start_ns" 458 (Value.ref 113)), (kE P "start" 468 (Value.ref 120)), (kE P "_start" 474 (Value.ref 126)), (kE P "end" 482 (Value.ref 133)), (kE P "comment" 490 (Value.ref 140)), (kE P "pi" 499 (Value.ref 147)), (kE P "__static_attributes__" 517 (Value.ref 148))] 16) #[])
noncomputable def hd.o_136 : Params → Obj := fun P => (Obj.mk (Value.type "tuple") none (Data.seq #[] 0) #[])
noncomputable def hd.o_200 : Params → Obj := fun P => (Obj.mk (Value.type "getset_descriptor") none (Data.fields #[(Value.str (Str.ofString "__dict__") 518), (Value.ref 150), (Value.builtin "function.__dict__"), (Value.builtin "function.__dict__#set")]) #[])
noncomputable def hd.o_168 : Params → Obj := fun P => (Obj.mk (Value.type "code") none (Data.fields #[(Value.str (Str.ofString "start") 459), (Value.str (Str.ofString "C14NWriterTarget.start") 460), (Value.str (Str.ofString "/claim/cut.py") 461), (Value.int 105 0), (Value.int 3 0), (Value.int 0 0), (Value.int 0 0), (Value.int 3 0), (Value.ref 114), (Value.bool true), (Value.int 276 0), (Value.ref 115), Value.none, (Value.ref 116), (Value.ref 117), (Value.ref 118), (Value.int 466 0), (Value.int 105 0), (Value.str (Str.ofString "/claim/cut.py") 467)]) #[])
noncomputable def hd.o_116 : Params → Obj := fun P => (Obj.mk (Value.type "function") none (Data.func (kFd [7, 0] rfl (Str.ofString "__init__") (Str.ofString "C14NWriterTarget.__init__") 3 [] Value.none (Value.ref 60) Value.none (Value.str (Str.ofString "cpy313.xml.etree.ElementTree") 289) none (Value.ref 66) Value.none 0)) #[])
noncomputable def hd.o_180 : Params → Obj := fun P => (Obj.mk Value.none none (Data.func (kFd [7, 9] rfl (Str.ofString "end") (Str.ofString "C14NWriterTarget.end") 0 [] Value.none Value.none Value.none Value.none none Value.none Value.none 0)) #[])
noncomputable def hd.o_148 : Params → Obj := fun P => (Obj.mk (Value.type "tuple") none (Data.seq #[(Value.ref 98)] 0) #[])
noncomputable def hd.o_132 : Params → Obj := fun P => (Obj.mk (Value.type "tuple") none (Data.seq #[Value.none] 0) #[])
noncomputable def hd.o_196 : Params → Obj := fun P => (Obj.mk (Value.type "function") none (Data.func (kFd [7, 11] rfl (Str.ofString "pi") (Str.ofString "C14NWriterTarget.pi") 3 [] Value.none Value.none Value.none (Value.str (Str.ofString "cpy313.xml.etree.ElementTree") 289) none (Value.ref 146) Value.none 0)) #[])
noncomputable def hd.o_164 : Params → Obj := fun P => (Obj.mk Value.none none (Data.fields #[]) #[])
noncomputable def hd.o_124 : Params → Obj := fun P => (Obj.mk (Value.type "function") none (Data.func (kFd [7, 1] rfl (Str.ofString "_iter_namespaces") (Str.ofString "C14NWriterTarget._iter_namespaces") 3 [] (Value.ref 68) Value.none Value.none (Value.str (Str.ofString "cpy313.xml.etree.ElementTree") 289) none (Value.ref 74) Value.none 0)) #[])
noncomputable def hd.o_188 : Params → Obj := fun P => (Obj.mk (Value.type "code") none (Data.fields #[(Value.str (Str.ofString "comment") 483), (Value.str (Str.ofString "C14NWriterTarget.comment") 484), (Value.str (Str.ofString "/claim/cut.py") 485), (Value.int 175 0), (Value.int 2 0), (Value.int 0 0), (Value.int 0 0), (Value.int 3 0), (Value.ref 134), (Value.bool true), (Value.int 276 0), (Value.ref 135), Value.none, (Value.ref 136), (Value.ref 137), (Value.ref 138), (Value.int 488 0), (Value.int 175 0), (Value.str (Str.ofString "/claim/cut.py") 489)]) #[])
noncomputable def hd.o_156 : Params → Obj := fun P => (Obj.mk (Value.type "tuple") none (Data.seq #[] 0) #[])
noncomputable def hd.o_108 : Params → Obj := fun P => (Obj.mk (Value.type "frame") none Data.plain #[(some (Value.ref 58)), (some (Value.ref 3)), (some (Value.ref 55)), none, (some (Value.str (Str.ofString "cpy313.xml.etree.ElementTree") 289)), none, (some (Value.ref 0))])
noncomputable def hd.o_140 : Params → Obj := fun P => (Obj.mk (Value.type "tuple") none (Data.seq #[] 0) #[])
noncomputable def hd.o_172 : Params → Obj := fun P => (Obj.mk Value.none none (Data.fields #[]) #[])
noncomputable def hd.o_114 : Params → Obj := fun P => (Obj.mk Value.none none (Data.func (kFd [7, 0] rfl (Str.ofString "__init__") (Str.ofString "C14NWriterTarget.__init__") 0 [] Value.none Value.none Value.none Value.none none Value.none Value.none 0)) #[])
noncomputable def hd.o_178 : Params → Obj := fun P => (Obj.mk (Value.type "tuple") none (Data.seq #[(Value.str (Str.ofString "self") 478), (Value.str (Str.ofString "tag") 479)] 0) #[])
noncomputable def hd.o_146 : Params → Obj := fun P => (Obj.mk (Value.type "function") none (Data.func (kFd [7, 4] rfl (Str.ofString "data") (Str.ofString "C14NWriterTarget.data") 3 [] Value.none Value.none Value.none (Value.str (Str.ofString "cpy313.xml.etree.ElementTree") 289) none (Value.ref 96) Value.none 0)) #[])
noncomputable def hd.o_130 : Params → Obj := fun P => (Obj.mk (Value.type "code") none (Data.fields #[(Value.str (Str.ofString "_resolve_prefix_name") 404), (Value.str (Str.ofString "C14NWriterTarget._resolve_prefix_name") 405), (Value.str (Str.ofString "/claim/cut.py") 406), (Value.int 46 0), (Value.int 2 0), (Value.int 0 0), (Value.int 0 0), (Value.int 3 0), (Value.ref 76), (Value.bool true), (Value.int 276 0), (Value.ref 77), Value.none, (Value.ref 78), (Value.ref 79), (Value.ref 80), (Value.int 413 0), (Value.int 46 0), (Value.str (Str.ofString "/claim/cut.py") 414)]) #[])
noncomputable def hd.o_194 : Params → Obj := fun P => (Obj.mk Value.none none (Data.func (kFd [7, 11] rfl (Str.ofString "pi") (Str.ofString "C14NWriterTarget.pi") 0 [] Value.none Value.none Value.none Value.none none Value.none Value.none 0)) #[])
noncomputable def hd.o_162 : Params → Obj := fun P => (Obj.mk (Value.type "function") none (Data.func (kFd [7, 6] rfl (Str.ofString "start_ns") (Str.ofString "C14NWriterTarget.start_ns") 3 [] Value.none Value.none Value.none (Value.str (Str.ofString "cpy313.xml.etree.ElementTree") 289) none (Value.ref 112) Value.none 0)) #[])
noncomputable def hd.o_122 : Params → Obj := fun P => (Obj.mk Value.none none (Data.func (kFd [7, 1] rfl (Str.ofString "_iter_namespaces") (Str.ofString "C14NWriterTarget._iter_namespaces") 0 [] Value.none Value.none Value.none Value.none none Value.none Value.none 0)) #[])
noncomputable def hd.o_186 : Params → Obj := fun P => (Obj.mk (Value.type "tuple") none (Data.seq #[] 0) #[])
noncomputable def hd.o_154 : Params → Obj := fun P => (Obj.mk (Value.type "code") none (Data.fields #[(Value.str (Str.ofString "_flush") 439), (Value.str (Str.ofString "C14NWriterTarget._flush") 440), (Value.str (Str.ofString "/claim/cut.py") 441), (Value.int 84 0), (Value.int 2 0), (Value.int 0 0), (Value.int 0 0), (Value.int 3 0), (Value.ref 100), (Value.bool true), (Value.int 276 0), (Value.ref 101), Value.none, (Value.ref 102), (Value.ref 103), (Value.ref 104), (Value.int 447 0), (Value.int 84 0), (Value.str (Str.ofString "/claim/cut.py") 448)]) #[])
noncomputable def hd.o_106 : Params → Obj := fun P => (Obj.mk Value.none none (Data.fields #[(Value.int 13 0), (Value.int 4 0), (Value.ref 66), (Value.int 41 0), (Value.int 4 0), (Value.ref 74), (Value.int 46 0), (Value.int 4 0), (Value.ref 81), (Value.int 53 0), (Value.int 4 0), (Value.ref 89), (Value.int 80 0), (Value.int 4 0), (Value.ref 96), (Value.int 84 0), (Value.int 4 0), (Value.ref 105), (Value.int 98 0), (Value.int 4 0), (Value.ref 112), (Value.int 105 0), (Value.int 4 0), (Value.ref 119), (Value.int 118 0), (Value.int 4 0), (Value.ref 125), (Value.int 163 0), (Value.int 4 0), (Value.ref 132), (Value.int 175 0), (Value.int 4 0), (Value.ref 139), (Value.int 178 0), (Value.int 4 0), (Value.ref 146)]) #[])
noncomputable def hd.o_138 : Params → Obj := fun P => (Obj.mk (Value.type "code") none (Data.fields #[(Value.str (Str.ofString "_qname") 416), (Value.str (Str.ofString "C14NWriterTarget._qname") 417), (Value.str (Str.ofString "/claim/cut.py") 418), (Value.int 53 0), (Value.int 3 0), (Value.int 0 0), (Value.int 0 0), (Value.int 3 0), (Value.ref 84), (Value.bool true), (Value.int 276 0), (Value.ref 85), Value.none, (Value.ref 86), (Value.ref 87), (Value.ref 88), (Value.int 426 0), (Value.int 53 0), (Value.str (Str.ofString "/claim/cut.py") 427)]) #[])
noncomputable def hd.o_202 : Params → Obj := fun P => (Obj.mk (Value.type "super") none (Data.fields #[(Value.ref 150), (Value.ref 150), (Value.ref 150)]) #[])
noncomputable def hd.o_170 : Params → Obj := fun P => (Obj.mk (Value.type "tuple") none (Data.seq #[Value.none] 0) #[])
noncomputable def hd.o_118 : Params → Obj := fun P => (Obj.mk (Value.type "tuple") none (Data.seq #[] 0) #[])
noncomputable def hd.o_182 : Params → Obj := fun P => (Obj.mk (Value.type "function") none (Data.func (kFd [7, 9] rfl (Str.ofString "end") (Str.ofString "C14NWriterTarget.end") 3 [] Value.none Value.none Value.none (Value.str (Str.ofString "cpy313.xml.etree.ElementTree") 289) none (Value.ref 132) Value.none 0)) #[])
noncomputable def hd.o_150 : Params → Obj := fun P => (Obj.mk Value.none none (Data.fields #[]) #[])
noncomputable def hd.o_102 : Params → Obj := fun P => (Obj.mk (Value.type "tuple") none (Data.seq #[] 0) #[])
noncomputable def hd.o_134 : Params → Obj := fun P => (Obj.mk Value.none none (Data.fields #[]) #[])
noncomputable def hd.o_198 : Params → Obj := fun P => (Obj.mk (Value.type "dict") none (Data.dict #[(kE P "__module__" 367 (Value.str (Str.ofString "cpy313.xml.etree.ElementTree") 289)), (kE P "__firstlineno__" 371 (Value.int 11 370)), (kE P "__init__" 393 (Value.ref 67)), (kE P "_iter_namespaces" 403 (Value.ref 75)), (kE P "_resolve_prefix_name" 415 (Value.ref 82)), (kE P "_qname" 428 (Value.ref 90)), (kE P "data" 436 (Value.ref 97)), (kE P "_flush" 449 (Value.ref 106)), (kE P "start_ns" 458 (Value.ref 113)), (kE P "start" 468 (Value.ref 120)), (kE P "_start" 474 (Value.ref 126)), (kE P "end" 482 (Value.ref 133)), (kE P "comment" 490 (Value.ref 140)), (kE P "pi" 499 (Value.ref 147)), (kE P "__static_attributes__" 517 (Value.ref 148)), (kE P "__dict__" 519 (Value.ref 151)), (kE P "__weakref__" 521 (Value.ref 152)), (kE P "__doc__" 522 Value.none)] 4) #[])
noncomputable def hd.o_166 : Params → Obj := fun P => (Obj.mk (Value.type "tuple") none (Data.seq #[] 0) #[])
noncomputable def hd.o_101 : Params → Obj := fun P => (Obj.mk Value.none none (Data.fields #[(Value.int 2 0), (Value.int 0 0), (Value.ref 37), (Value.int 8 0), (Value.int 0 0), (Value.ref 50), (Value.int 11 0), (Value.int 0 0), (Value.ref 58)]) #[])
noncomputable def hd.o_126 : Params → Obj := fun P => (Obj.mk Value.none none (Data.fields #[]) #[])
noncomputable def hd.o_190 : Params → Obj := fun P => (Obj.mk (Value.type "tuple") none (Data.seq #[] 0) #[])
noncomputable def hd.o_158 : Params → Obj := fun P => (Obj.mk (Value.type "tuple") none (Data.seq #[(Value.str (Str.ofString "self") 453), (Value.str (Str.ofString "prefix") 454), (Value.str (Str.ofString "uri") 455)] 0) #[])
noncomputable def hd.o_110 : Params → Obj := fun P => (Obj.mk (Value.type "tuple") none (Data.seq #[] 0) #[])
noncomputable def hd.o_142 : Params → Obj := fun P => (Obj.mk (Value.type "tuple") none (Data.seq #[(Value.str (Str.ofString "self") 432), (Value.str (Str.ofString "data") 433)] 0) #[])
noncomputable def hd.o_174 : Params → Obj := fun P => (Obj.mk (Value.type "code") none (Data.fields #[(Value.str (Str.ofString "_start") 469), (Value.str (Str.ofString "C14NWriterTarget._start") 470), (Value.str (Str.ofString "/claim/cut.py") 471), (Value.int 118 0), (Value.int 5 0), (Value.int 0 0), (Value.int 0 0), (Value.int 3 0), (Value.ref 122), (Value.bool true), (Value.int 276 0), (Value.ref 123), Value.none, Value.none, Value.none, (Value.ref 124), (Value.int 472 0), (Value.int 118 0), (Value.str (Str.ofString "/claim/cut.py") 473)]) #[])
noncomputable def hd.o_113 : Params → Obj := fun P => (Obj.mk (Value.type "tuple") none (Data.seq #[] 0) #[])
noncomputable def hd.o_177 : Params → Obj := fun P => (Obj.mk Value.none none (Data.fields #[]) #[])
noncomputable def hd.o_145 : Params → Obj := fun P => (Obj.mk (Value.type "code") none (Data.fields #[(Value.str (Str.ofString "data") 429), (Value.str (Str.ofString "C14NWriterTarget.data") 430), (Value.str (Str.ofString "/claim/cut.py") 431), (Value.int 80 0), (Value.int 2 0), (Value.int 0 0), (Value.int 0 0), (Value.int 3 0), (Value.ref 91), (Value.bool true), (Value.int 276 0), (Value.ref 92), Value.none, (Value.ref 93), (Value.ref 94), (Value.ref 95), (Value.int 434 0), (Value.int 80 0), (Value.str (Str.ofString "/claim/cut.py") 435)]) #[])
noncomputable def hd.o_129 : Params → Obj := fun P => (Obj.mk Value.none none (Data.func (kFd [7, 2] rfl (Str.ofString "_resolve_prefix_name") (Str.ofString "C14NWriterTarget._resolve_prefix_name") 0 [] Value.none Value.none Value.none Value.none none Value.none Value.none 0)) #[])
noncomputable def hd.o_193 : Params → Obj := fun P => (Obj.mk (Value.type "tuple") none (Data.seq #[] 0) #[])
noncomputable def hd.o_161 : Params → Obj := fun P => (Obj.mk (Value.type "code") none (Data.fields #[(Value.str (Str.ofString "start_ns") 450), (Value.str (Str.ofString "C14NWriterTarget.start_ns") 451), (Value.str (Str.ofString "/claim/cut.py") 452), (Value.int 98 0), (Value.int 3 0), (Value.int 0 0), (Value.int 0 0), (Value.int 3 0), (Value.ref 107), (Value.bool true), (Value.int 276 0), (Value.ref 108), Value.none, (Value.ref 109), (Value.ref 110), (Value.ref 111), (Value.int 456 0), (Value.int 98 0), (Value.str (Str.ofString "/claim/cut.py") 457)]) #[])
noncomputable def hd.o_121 : Params → Obj := fun P => (Obj.mk (Value.type "tuple") none (Data.seq #[] 0) #[])
noncomputable def hd.o_185 : Params → Obj := fun P => (Obj.mk (Value.type "tuple") none (Data.seq #[(Value.str (Str.ofString "self") 486), (Value.str (Str.ofString "text") 487)] 0) #[])
noncomputable def hd.o_153 : Params → Obj := fun P => (Obj.mk Value.none none (Data.func (kFd [7, 5] rfl (Str.ofString "_flush") (Str.ofString "C14NWriterTarget._flush") 0 [] Value.none Value.none Value.none Value.none none Value.none Value.none 0)) #[])
noncomputable def hd.o_105 : Params → Obj := fun P => (Obj.mk (Value.type "tuple") none (Data.seq #[] 0) #[])
noncomputable def hd.o_137 : Params → Obj := fun P => (Obj.mk Value.none none (Data.func (kFd [7, 3] rfl (Str.ofString "_qname") (Str.ofString "C14NWriterTarget._qname") 0 [] Value.none Value.none Value.none Value.none none Value.none Value.none 0)) #[])
noncomputable def hd.o_201 : Params → Obj := fun P => (Obj.mk (Value.type "getset_descriptor") none (Data.fields #[(Value.str (Str.ofString "__weakref__") 520), (Value.ref 150), (Value.builtin "ExceptionGroup.__weakref__"), Value.none]) #[])
noncomputable def hd.o_169 : Params → Obj := fun P => (Obj.mk (Value.type "function") none (Data.func (kFd [7, 7] rfl (Str.ofString "start") (Str.ofString "C14NWriterTarget.start") 3 [] Value.none Value.none Value.none (Value.str (Str.ofString "cpy313.xml.etree.ElementTree") 289) none (Value.ref 119) Value.none 0)) #[])
noncomputable def hd.o_117 : Params → Obj := fun P => (Obj.mk (Value.type "tuple") none (Data.seq #[(Value.type "reversed")] 0) #[])
noncomputable def hd.o_181 : Params → Obj := fun P => (Obj.mk (Value.type "code") none (Data.fields #[(Value.str (Str.ofString "end") 475), (Value.str (Str.ofString "C14NWriterTarget.end") 476), (Value.str (Str.ofString "/claim/cut.py") 477), (Value.int 163 0), (Value.int 2 0), (Value.int 0 0), (Value.int 0 0), (Value.int 3 0), (Value.ref 127), (Value.bool true), (Value.int 276 0), (Value.ref 128), Value.none, (Value.ref 129), (Value.ref 130), (Value.ref 131), (Value.int 480 0), (Value.int 163 0), (Value.str (Str.ofString "/claim/cut.py") 481)]) #[])
noncomputable def hd.o_149 : Params → Obj := fun P => (Obj.mk (Value.type "tuple") none (Data.seq #[] 0) #[])
noncomputable def hd.o_133 : Params → Obj := fun P => (Obj.mk (Value.type "tuple") none (Data.seq #[] 0) #[])
noncomputable def hd.o_197 : Params → Obj := fun P => (Obj.mk (Value.type "tuple") none (Data.seq #[(Value.str (Str.ofString "_data") 500), (Value.str (Str.ofString "_declared_ns_stack") 501), (Value.str (Str.ofString "_exclude_attrs") 502), (Value.str (Str.ofString "_exclude_tags") 503), (Value.str (Str.ofString "_find_qname_aware_attrs") 504), (Value.str (Str.ofString "_ignored_depth") 505), (Value.str (Str.ofString "_ns_stack") 506), (Value.str (Str.ofString "_pending_start") 507), (Value.str (Str.ofString "_prefix_map") 508), (Value.str (Str.ofString "_preserve_space") 509), (Value.str (Str.ofString "_qname_aware_tags") 510), (Value.str (Str.ofString "_rewrite_prefixes") 511), (Value.str (Str.ofString "_root_done") 512), (Value.str (Str.ofString "_root_seen") 513), (Value.str (Str.ofString "_strip_text") 514), (Value.str (Str.ofString "_with_comments") 515), (Value.str (Str.ofString "_write") 516)] 0) #[])
noncomputable def hd.o_165 : Params → Obj := fun P => (Obj.mk (Value.type "tuple") none (Data.seq #[(Value.str (Str.ofString "self") 462), (Value.str (Str.ofString "tag") 463), (Value.str (Str.ofString "attrs") 464), (Value.str (Str.ofString "new_namespaces") 465)] 0) #[])
noncomputable def hd.o_125 : Params → Obj := fun P => (Obj.mk (Value.type "tuple") none (Data.seq #[] 0) #[])
noncomputable def hd.o_189 : Params → Obj := fun P => (Obj.mk (Value.type "function") none (Data.func (kFd [7, 10] rfl (Str.ofString "comment") (Str.ofString "C14NWriterTarget.comment") 3 [] Value.none Value.none Value.none (Value.str (Str.ofString "cpy313.xml.etree.ElementTree") 289) none (Value.ref 139) Value.none 0)) #[])
noncomputable def hd.o_157 : Params → Obj := fun P => (Obj.mk Value.none none (Data.fields #[]) #[])
noncomputable def hd.o_109 : Params → Obj := fun P => (Obj.mk (Value.type "dict") none (Data.dict #[(kE P "with_comments" 372 (Value.bool false)), (kE P "strip_text" 373 (Value.bool false)), (kE P "rewrite_prefixes" 374 (Value.bool false)), (kE P "qname_aware_tags" 375 Value.none), (kE P "qname_aware_attrs" 376 Value.none), (kE P "exclude_attrs" 377 Value.none), (kE P "exclude_tags" 378 Value.none)] 7) #[])
noncomputable def hd.o_141 : Params → Obj := fun P => (Obj.mk Value.none none (Data.fields #[]) #[])
noncomputable def hd.o_173 : Params → Obj := fun P => (Obj.mk Value.none none (Data.func (kFd [7, 8] rfl (Str.ofString "_start") (Str.ofString "C14NWriterTarget._start") 0 [] Value.none Value.none Value.none Value.none none Value.none Value.none 0)) #[])
noncomputable def hd.o_115 : Params → Obj := fun P => (Obj.mk (Value.type "code") none (Data.fields #[(Value.str (Str.ofString "__init__") 379), (Value.str (Str.ofString "C14NWriterTarget.__init__") 380), (Value.str (Str.ofString "/claim/cut.py") 381), (Value.int 13 0), (Value.int 2 0), (Value.int 0 0), (Value.int 7 0), (Value.int 3 0), (Value.ref 61), (Value.bool true), (Value.int 276 0), (Value.ref 62), Value.none, (Value.ref 63), (Value.ref 64), (Value.ref 65), (Value.int 391 0), (Value.int 13 0), (Value.str (Str.ofString "/claim/cut.py") 392)]) #[])
noncomputable def hd.o_179 : Params → Obj := fun P => (Obj.mk (Value.type "tuple") none (Data.seq #[] 0) #[])
noncomputable def hd.o_147 : Params → Obj := fun P => (Obj.mk (Value.type "builtin_function_or_method") none (Data.fields #[(Value.builtin "str.join"), (Value.str (Str.ofString "") 437)]) #[])
noncomputable def hd.o_131 : Params → Obj := fun P => (Obj.mk (Value.type "function") none (Data.func (kFd [7, 2] rfl (Str.ofString "_resolve_prefix_name") (Str.ofString "C14NWriterTarget._resolve_prefix_name") 3 [] Value.none Value.none Value.none (Value.str (Str.ofString "cpy313.xml.etree.ElementTree") 289) none (Value.ref 81) Value.none 0)) #[])
noncomputable def hd.o_195 : Params → Obj := fun P => (Obj.mk (Value.type "code") none (Data.fields #[(Value.str (Str.ofString "pi") 491), (Value.str (Str.ofString "C14NWriterTarget.pi") 492), (Value.str (Str.ofString "/claim/cut.py") 493), (Value.int 178 0), (Value.int 3 0), (Value.int 0 0), (Value.int 0 0), (Value.int 3 0), (Value.ref 141), (Value.bool true), (Value.int 276 0), (Value.ref 142), Value.none, (Value.ref 143), (Value.ref 144), (Value.ref 145), (Value.int 497 0), (Value.int 178 0), (Value.str (Str.ofString "/claim/cut.py") 498)]) #[])
noncomputable def hd.o_163 : Params → Obj := fun P => (Obj.mk (Value.type "tuple") none (Data.seq #[] 0) #[])
noncomputable def hd.o_123 : Params → Obj := fun P => (Obj.mk (Value.type "code") none (Data.fields #[(Value.str (Str.ofString "_iter_namespaces") 394), (Value.str (Str.ofString "C14NWriterTarget._iter_namespaces") 395), (Value.str (Str.ofString "/claim/cut.py") 396), (Value.int 41 0), (Value.int 3 0), (Value.int 0 0), (Value.int 0 0), (Value.int 35 0), (Value.ref 69), (Value.bool true), (Value.int 276 0), (Value.ref 70), Value.none, (Value.ref 71), (Value.ref 72), (Value.ref 73), (Value.int 401 0), (Value.int 41 0), (Value.str (Str.ofString "/claim/cut.py") 402)]) #[])
noncomputable def hd.o_187 : Params → Obj := fun P => (Obj.mk Value.none none (Data.func (kFd [7, 10] rfl (Str.ofString "comment") (Str.ofString "C14NWriterTarget.comment") 0 [] Value.none Value.none Value.none Value.none none Value.none Value.none 0)) #[])
noncomputable def hd.o_155 : Params → Obj := fun P => (Obj.mk (Value.type "function") none (Data.func (kFd [7, 5] rfl (Str.ofString "_flush") (Str.ofString "C14NWriterTarget._flush") 3 [] (Value.ref 99) Value.none Value.none (Value.str (Str.ofString "cpy313.xml.etree.ElementTree") 289) none (Value.ref 105) Value.none 0)) #[])
noncomputable def hd.o_107 : Params → Obj := fun P => (Obj.mk (Value.type "code") none (Data.fields #[(Value.str (Str.ofString "C14NWriterTarget") 362), (Value.str (Str.ofString "C14NWriterTarget") 363), (Value.str (Str.ofString "/claim/cut.py") 364), (Value.int 11 0), (Value.int 0 0), (Value.int 0 0), (Value.int 0 0), (Value.int 0 0), (Value.ref 56), (Value.bool false), (Value.int 276 0), (Value.ref 57), Value.none, Value.none, Value.none, Value.none, (Value.int 365 0), (Value.int 11 0), (Value.str (Str.ofString "/claim/cut.py") 366)]) #[])
noncomputable def hd.o_139 : Params → Obj := fun P => (Obj.mk (Value.type "function") none (Data.func (kFd [7, 3] rfl (Str.ofString "_qname") (Str.ofString "C14NWriterTarget._qname") 3 [] (Value.ref 83) Value.none Value.none (Value.str (Str.ofString "cpy313.xml.etree.ElementTree") 289) none (Value.ref 89) Value.none 0)) #[])
noncomputable def hd.o_203 : Params → Obj := fun P => (Obj.mk (Value.type "builtin_function_or_method") none (Data.fields #[(Value.builtin "object.__init_subclass__"), (Value.ref 150)]) #[])
noncomputable def hd.o_171 : Params → Obj := fun P => (Obj.mk (Value.type "tuple") none (Data.seq #[] 0) #[])
noncomputable def hd.o_119 : Params → Obj := fun P => (Obj.mk Value.none none (Data.fields #[]) #[])
noncomputable def hd.o_183 : Params → Obj := fun P => (Obj.mk (Value.type "tuple") none (Data.seq #[] 0) #[])
noncomputable def hd.o_151 : Params → Obj := fun P => (Obj.mk (Value.type "tuple") none (Data.seq #[(Value.str (Str.ofString "self") 442), (Value.str (Str.ofString "_join_text") 443), (Value.str (Str.ofString "data") 444), (Value.str (Str.ofString "args") 445), (Value.str (Str.ofString "qname_text") 446)] 0) #[])
noncomputable def hd.o_103 : Params → Obj := fun P => (Obj.mk (Value.type "builtin_function_or_method") none (Data.fields #[(Value.builtin "type.__prepare__"), (Value.type "type")]) #[])
noncomputable def hd.o_135 : Params → Obj := fun P => (Obj.mk (Value.type "tuple") none (Data.seq #[(Value.str (Str.ofString "self") 419), (Value.str (Str.ofString "qname") 420), (Value.str (Str.ofString "uri") 421), (Value.str (Str.ofString "tag") 422), (Value.str (Str.ofString "prefixes_seen") 423), (Value.str (Str.ofString "u") 424), (Value.str (Str.ofString "prefix") 425)] 0) #[])
noncomputable def hd.o_199 : Params → Obj := fun P => (Obj.mk (Value.type "type") none (Data.cls (ClassData.mk (Str.ofString "C14NWriterTarget") [(Value.type "object")] [(Value.ref 150), (Value.type "object")] 149 (Str.ofString "C14NWriterTarget") true [] [] false none false)) #[none, none, (some (Value.str (Str.ofString "C14NWriterTarget") 360)), (some (Value.str (Str.ofString "C14NWriterTarget") 368)), (some (Value.builtin "object.__new__")), (some (Value.bool true))])
noncomputable def hd.o_167 : Params → Obj := fun P => (Obj.mk Value.none none (Data.func (kFd [7, 7] rfl (Str.ofString "start") (Str.ofString "C14NWriterTarget.start") 0 [] Value.none Value.none Value.none Value.none none Value.none Value.none 0)) #[])
noncomputable def hd.o_127 : Params → Obj := fun P => (Obj.mk (Value.type "tuple") none (Data.seq #[(Value.str (Str.ofString "self") 407), (Value.str (Str.ofString "prefixed_name") 408), (Value.str (Str.ofString "prefix") 409), (Value.str (Str.ofString "name") 410), (Value.str (Str.ofString "uri") 411), (Value.str (Str.ofString "p") 412)] 0) #[])
noncomputable def hd.o_191 : Params → Obj := fun P => (Obj.mk Value.none none (Data.fields #[]) #[])
noncomputable def hd.o_159 : Params → Obj := fun P => (Obj.mk (Value.type "tuple") none (Data.seq #[] 0) #[])
noncomputable def hd.o_111 : Params → Obj := fun P => (Obj.mk Value.none none (Data.fields #[]) #[])
noncomputable def hd.o_143 : Params → Obj := fun P => (Obj.mk (Value.type "tuple") none (Data.seq #[] 0) #[])
noncomputable def hd.o_175 : Params → Obj := fun P => (Obj.mk (Value.type "function") none (Data.func (kFd [7, 8] rfl (Str.ofString "_start") (Str.ofString "C14NWriterTarget._start") 3 [] (Value.ref 121) Value.none Value.none (Value.str (Str.ofString "cpy313.xml.etree.ElementTree") 289) none (Value.ref 125) Value.none 0)) #[])
noncomputable def hd.o_282 : Params → Obj := fun P => (Obj.mk (Value.type "dict") none (Data.dict #[(kE P "__name__" 165 (Value.str (Str.ofString "cpy313.urllib.request") 539)), (kE P "__doc__" 166 Value.none), (kE P "__package__" 167 Value.none), (kE P "__loader__" 168 (Value.builtin "__main__.__loader__#opaque")), (kE P "__spec__" 169 Value.none), (kE P "__annotations__" 170 (Value.ref 6)), (kE P "__builtins__" 171 (Value.ref 4)), (kE P "__file__" 173 (Value.str (Str.ofString "/claim/cut.py") 172)), (kE P "__cached__" 174 Value.none), (kE P "_sre" 275 (Value.ref 12)), (kE P "_wall" 288 (Value.ref 38)), (kE P "_twin_re_1" 328 (Value.ref 43)), (kE P "_namespace_map" 350 (Value.ref 44)), (kE P "_raise_serialization_error" 357 (Value.ref 51)), (kE P "_looks_like_prefix_name" 359 (Value.ref 52)), (kE P "C14NWriterTarget" 524 (Value.ref 150)), (kE P "_escape_cdata_c14n" 531 (Value.ref 161)), (kE P "_escape_attrib_c14n" 538 (Value.ref 168))] 18) #[])
noncomputable def hd.o_288 : Params → Obj := fun P => (Obj.mk Value.none none (Data.func (kFd [8] rfl (Str.ofString "_escape_cdata_c14n") (Str.ofString "_escape_cdata_c14n") 0 [] Value.none Value.none Value.none Value.none none Value.none Value.none 0)) #[])
noncomputable def hd.o_296 : Params → Obj := fun P => (Obj.mk (Value.type "code") none (Data.fields #[(Value.str (Str.ofString "_escape_attrib_c14n") 532), (Value.str (Str.ofString "_escape_attrib_c14n") 533), (Value.str (Str.ofString "/claim/cut.py") 534), (Value.int 193 0), (Value.int 1 0), (Value.int 0 0), (Value.int 0 0), (Value.int 3 0), (Value.ref 162), (Value.bool true), (Value.int 276 0), (Value.ref 163), Value.none, (Value.ref 164), (Value.ref 165), (Value.ref 166), (Value.int 536 0), (Value.int 193 0), (Value.str (Str.ofString "/claim/cut.py") 537)]) #[])
noncomputable def hd.o_292 : Params → Obj := fun P => (Obj.mk Value.none none (Data.fields #[]) #[])
noncomputable def hd.o_284 : Params → Obj := fun P => (Obj.mk (Value.type "tuple") none (Data.seq #[] 0) #[])
noncomputable def hd.o_290 : Params → Obj := fun P => (Obj.mk (Value.type "function") none (Data.func (kFd [8] rfl (Str.ofString "_escape_cdata_c14n") (Str.ofString "_escape_cdata_c14n") 3 [] Value.none Value.none Value.none (Value.str (Str.ofString "cpy313.xml.etree.ElementTree") 289) none (Value.ref 160) Value.none 0)) #[])
noncomputable def hd.o_294 : Params → Obj := fun P => (Obj.mk (Value.type "tuple") none (Data.seq #[] 0) #[])
noncomputable def hd.o_283 : Params → Obj := fun P => (Obj.mk Value.none none (Data.fields #[(Value.int 2 0), (Value.int 0 0), (Value.ref 37), (Value.int 8 0), (Value.int 0 0), (Value.ref 50), (Value.int 11 0), (Value.int 0 0), (Value.ref 58), (Value.int 180 0), (Value.int 0 0), (Value.ref 160), (Value.int 193 0), (Value.int 0 0), (Value.ref 167)]) #[])
noncomputable def hd.o_286 : Params → Obj := fun P => (Obj.mk (Value.type "tuple") none (Data.seq #[(Value.str (Str.ofString "text") 528)] 0) #[])
noncomputable def hd.o_289 : Params → Obj := fun P => (Obj.mk (Value.type "code") none (Data.fields #[(Value.str (Str.ofString "_escape_cdata_c14n") 525), (Value.str (Str.ofString "_escape_cdata_c14n") 526), (Value.str (Str.ofString "/claim/cut.py") 527), (Value.int 180 0), (Value.int 1 0), (Value.int 0 0), (Value.int 0 0), (Value.int 3 0), (Value.ref 155), (Value.bool true), (Value.int 276 0), (Value.ref 156), Value.none, (Value.ref 157), (Value.ref 158), (Value.ref 159), (Value.int 529 0), (Value.int 180 0), (Value.str (Str.ofString "/claim/cut.py") 530)]) #[])
noncomputable def hd.o_297 : Params → Obj := fun P => (Obj.mk (Value.type "function") none (Data.func (kFd [9] rfl (Str.ofString "_escape_attrib_c14n") (Str.ofString "_escape_attrib_c14n") 3 [] Value.none Value.none Value.none (Value.str (Str.ofString "cpy313.xml.etree.ElementTree") 289) none (Value.ref 167) Value.none 0)) #[])
noncomputable def hd.o_293 : Params → Obj := fun P => (Obj.mk (Value.type "tuple") none (Data.seq #[(Value.str (Str.ofString "text") 535)] 0) #[])
noncomputable def hd.o_285 : Params → Obj := fun P => (Obj.mk Value.none none (Data.fields #[]) #[])
noncomputable def hd.o_291 : Params → Obj := fun P => (Obj.mk (Value.type "tuple") none (Data.seq #[] 0) #[])
noncomputable def hd.o_295 : Params → Obj := fun P => (Obj.mk Value.none none (Data.func (kFd [9] rfl (Str.ofString "_escape_attrib_c14n") (Str.ofString "_escape_attrib_c14n") 0 [] Value.none Value.none Value.none Value.none none Value.none Value.none 0)) #[])
noncomputable def hd.o_287 : Params → Obj := fun P => (Obj.mk (Value.type "tuple") none (Data.seq #[] 0) #[])
noncomputable def hd.o_298 : Params → Obj := fun P => (Obj.mk (Value.type "dict") none (Data.dict #[(kE P "__name__" 165 (Value.str (Str.ofString "law_pg0323_01") 608)), (kE P "__doc__" 166 Value.none), (kE P "__package__" 167 Value.none), (kE P "__loader__" 168 (Value.builtin "__main__.__loader__#opaque")), (kE P "__spec__" 169 Value.none), (kE P "__annotations__" 170 (Value.ref 6)), (kE P "__builtins__" 171 (Value.ref 4)), (kE P "__file__" 173 (Value.str (Str.ofString "/claim/cut.py") 172)), (kE P "__cached__" 174 Value.none), (kE P "_sre" 275 (Value.ref 12)), (kE P "_wall" 288 (Value.ref 38)), (kE P "_twin_re_1" 328 (Value.ref 43)), (kE P "_namespace_map" 350 (Value.ref 44)), (kE P "_raise_serialization_error" 357 (Value.ref 51)), (kE P "_looks_like_prefix_name" 359 (Value.ref 52)), (kE P "C14NWriterTarget" 524 (Value.ref 150)), (kE P "_escape_cdata_c14n" 531 (Value.ref 161)), (kE P "_escape_attrib_c14n" 538 (Value.ref 168)), (kE P "HTTPPasswordMgr" 607 (Value.ref 214)), (kE P "_law_deeds" 621 (Value.ref 225))] 20) #[])
noncomputable def hd.o_322 : Params → Obj := fun P => (Obj.mk Value.none none (Data.fields #[]) #[])
noncomputable def hd.o_354 : Params → Obj := fun P => (Obj.mk Value.none none (Data.func (kFd [13] rfl (Str.ofString "_law_deeds") (Str.ofString "_law_deeds") 0 [] Value.none Value.none Value.none Value.none none Value.none Value.none 0)) #[])
noncomputable def hd.o_338 : Params → Obj := fun P => (Obj.mk (Value.type "tuple") none (Data.seq #[(Value.str (Str.ofString "self") 592), (Value.str (Str.ofString "base") 593), (Value.str (Str.ofString "test") 594), (Value.str (Str.ofString "prefix") 595)] 0) #[])
noncomputable def hd.o_306 : Params → Obj := fun P => (Obj.mk (Value.type "frame") none Data.plain #[(some (Value.ref 174)), (some (Value.ref 3)), (some (Value.ref 171)), none, (some (Value.str (Str.ofString "cpy313.urllib.request") 539)), none, (some (Value.ref 0))])
noncomputable def hd.o_330 : Params → Obj := fun P => (Obj.mk Value.none none (Data.fields #[]) #[])
noncomputable def hd.o_346 : Params → Obj := fun P => (Obj.mk (Value.type "getset_descriptor") none (Data.fields #[(Value.str (Str.ofString "__dict__") 601), (Value.ref 214), (Value.builtin "function.__dict__"), (Value.builtin "function.__dict__#set")]) #[])
noncomputable def hd.o_314 : Params → Obj := fun P => (Obj.mk (Value.type "tuple") none (Data.seq #[] 0) #[])
noncomputable def hd.o_326 : Params → Obj := fun P => (Obj.mk (Value.type "code") none (Data.fields #[(Value.str (Str.ofString "find_user_password") 571), (Value.str (Str.ofString "HTTPPasswordMgr.find_user_password") 572), (Value.str (Str.ofString "/claim/cut.py") 573), (Value.int 219 0), (Value.int 3 0), (Value.int 0 0), (Value.int 0 0), (Value.int 3 0), (Value.ref 190), (Value.bool true), (Value.int 276 0), (Value.ref 191), Value.none, (Value.ref 192), (Value.ref 193), (Value.ref 194), (Value.int 577 0), (Value.int 219 0), (Value.str (Str.ofString "/claim/cut.py") 578)]) #[])
noncomputable def hd.o_342 : Params → Obj := fun P => (Obj.mk (Value.type "function") none (Data.func (kFd [11, 4] rfl (Str.ofString "is_suburi") (Str.ofString "HTTPPasswordMgr.is_suburi") 3 [] Value.none Value.none Value.none (Value.str (Str.ofString "cpy313.urllib.request") 539) none (Value.ref 210) Value.none 0)) #[])
noncomputable def hd.o_310 : Params → Obj := fun P => (Obj.mk (Value.type "tuple") none (Data.seq #[] 0) #[])
noncomputable def hd.o_334 : Params → Obj := fun P => (Obj.mk (Value.type "code") none (Data.fields #[(Value.str (Str.ofString "reduce_uri") 580), (Value.str (Str.ofString "HTTPPasswordMgr.reduce_uri") 581), (Value.str (Str.ofString "/claim/cut.py") 582), (Value.int 222 0), (Value.int 3 0), (Value.int 0 0), (Value.int 0 0), (Value.int 3 0), (Value.ref 198), (Value.bool true), (Value.int 276 0), (Value.ref 199), Value.none, (Value.ref 200), (Value.ref 201), (Value.ref 202), (Value.int 586 0), (Value.int 222 0), (Value.str (Str.ofString "/claim/cut.py") 587)]) #[])
noncomputable def hd.o_302 : Params → Obj := fun P => (Obj.mk (Value.type "dict") none (Data.dict #[(kE P "__module__" 548 (Value.str (Str.ofString "cpy313.urllib.request") 539)), (kE P "__qualname__" 550 (Value.str (Str.ofString "HTTPPasswordMgr") 549)), (kE P "__firstlineno__" 552 (Value.int 211 551)), (kE P "__init__" 559 (Value.ref 182)), (kE P "add_password" 570 (Value.ref 189)), (kE P "find_user_password" 579 (Value.ref 196)), (kE P "reduce_uri" 588 (Value.ref 204)), (kE P "is_suburi" 598 (Value.ref 211)), (kE P "__static_attributes__" 600 (Value.ref 212))] 9) #[])
noncomputable def hd.o_350 : Params → Obj := fun P => (Obj.mk (Value.type "tuple") none (Data.seq #[] 0) #[])
noncomputable def hd.o_318 : Params → Obj := fun P => (Obj.mk Value.none none (Data.func (kFd [11, 1] rfl (Str.ofString "add_password") (Str.ofString "HTTPPasswordMgr.add_password") 0 [] Value.none Value.none Value.none Value.none none Value.none Value.none 0)) #[])
noncomputable def hd.o_324 : Params → Obj := fun P => (Obj.mk (Value.type "tuple") none (Data.seq #[] 0) #[])
noncomputable def hd.o_356 : Params → Obj := fun P => (Obj.mk (Value.type "function") none (Data.func (kFd [13] rfl (Str.ofString "_law_deeds") (Str.ofString "_law_deeds") 3 [] Value.none Value.none Value.none (Value.str (Str.ofString "law_pg0323_01") 608) none (Value.ref 224) Value.none 0)) #[])
noncomputable def hd.o_340 : Params → Obj := fun P => (Obj.mk Value.none none (Data.func (kFd [11, 4] rfl (Str.ofString "is_suburi") (Str.ofString "HTTPPasswordMgr.is_suburi") 0 [] Value.none Value.none Value.none Value.none none Value.none Value.none 0)) #[])
noncomputable def hd.o_308 : Params → Obj := fun P => (Obj.mk Value.none none (Data.fields #[]) #[])
noncomputable def hd.o_332 : Params → Obj := fun P => (Obj.mk (Value.type "tuple") none (Data.seq #[] 0) #[])
noncomputable def hd.o_300 : Params → Obj := fun P => (Obj.mk (Value.type "tuple") none (Data.seq #[] 0) #[])
noncomputable def hd.o_348 : Params → Obj := fun P => (Obj.mk (Value.type "super") none (Data.fields #[(Value.ref 214), (Value.ref 214), (Value.ref 214)]) #[])
noncomputable def hd.o_316 : Params → Obj := fun P => (Obj.mk (Value.type "tuple") none (Data.seq #[(Value.str (Str.ofString "self") 563), (Value.str (Str.ofString "realm") 564), (Value.str (Str.ofString "uri") 565), (Value.str (Str.ofString "user") 566), (Value.str (Str.ofString "passwd") 567)] 0) #[])
noncomputable def hd.o_328 : Params → Obj := fun P => (Obj.mk (Value.type "tuple") none (Data.seq #[(Value.bool true)] 0) #[])
noncomputable def hd.o_344 : Params → Obj := fun P => (Obj.mk (Value.type "dict") none (Data.dict #[(kE P "__module__" 548 (Value.str (Str.ofString "cpy313.urllib.request") 539)), (kE P "__firstlineno__" 552 (Value.int 211 551)), (kE P "__init__" 559 (Value.ref 182)), (kE P "add_password" 570 (Value.ref 189)), (kE P "find_user_password" 579 (Value.ref 196)), (kE P "reduce_uri" 588 (Value.ref 204)), (kE P "is_suburi" 598 (Value.ref 211)), (kE P "__static_attributes__" 600 (Value.ref 212)), (kE P "__dict__" 602 (Value.ref 215)), (kE P "__weakref__" 604 (Value.ref 216)), (kE P "__doc__" 605 Value.none)] 4) #[])
noncomputable def hd.o_312 : Params → Obj := fun P => (Obj.mk (Value.type "code") none (Data.fields #[(Value.str (Str.ofString "__init__") 553), (Value.str (Str.ofString "HTTPPasswordMgr.__init__") 554), (Value.str (Str.ofString "/claim/cut.py") 555), (Value.int 213 0), (Value.int 1 0), (Value.int 0 0), (Value.int 0 0), (Value.int 3 0), (Value.ref 176), (Value.bool true), (Value.int 276 0), (Value.ref 177), Value.none, (Value.ref 178), (Value.ref 179), (Value.ref 180), (Value.int 557 0), (Value.int 213 0), (Value.str (Str.ofString "/claim/cut.py") 558)]) #[])
noncomputable def hd.o_299 : Params → Obj := fun P => (Obj.mk Value.none none (Data.fields #[(Value.int 2 0), (Value.int 0 0), (Value.ref 37), (Value.int 8 0), (Value.int 0 0), (Value.ref 50), (Value.int 11 0), (Value.int 0 0), (Value.ref 58), (Value.int 180 0), (Value.int 0 0), (Value.ref 160), (Value.int 193 0), (Value.int 0 0), (Value.ref 167), (Value.int 211 0), (Value.int 0 0), (Value.ref 174), (Value.int 235 0), (Value.int 0 0), (Value.ref 224)]) #[])
noncomputable def hd.o_336 : Params → Obj := fun P => (Obj.mk (Value.type "tuple") none (Data.seq #[] 0) #[])
noncomputable def hd.o_304 : Params → Obj := fun P => (Obj.mk Value.none none (Data.fields #[(Value.int 213 0), (Value.int 4 0), (Value.ref 181), (Value.int 216 0), (Value.int 4 0), (Value.ref 188), (Value.int 219 0), (Value.int 4 0), (Value.ref 195), (Value.int 222 0), (Value.int 4 0), (Value.ref 203), (Value.int 225 0), (Value.int 4 0), (Value.ref 210)]) #[])
noncomputable def hd.o_352 : Params → Obj := fun P => (Obj.mk (Value.type "tuple") none (Data.seq #[(Value.str (Str.ofString "numbers") 613), (Value.str (Str.ofString "line") 614), (Value.str (Str.ofString "begun") 615), (Value.str (Str.ofString "deeds") 616), (Value.str (Str.ofString "n") 617), (Value.str (Str.ofString "here") 618)] 0) #[])
noncomputable def hd.o_320 : Params → Obj := fun P => (Obj.mk (Value.type "function") none (Data.func (kFd [11, 1] rfl (Str.ofString "add_password") (Str.ofString "HTTPPasswordMgr.add_password") 3 [] Value.none Value.none Value.none (Value.str (Str.ofString "cpy313.urllib.request") 539) none (Value.ref 188) Value.none 0)) #[])
noncomputable def hd.o_323 : Params → Obj := fun P => (Obj.mk (Value.type "tuple") none (Data.seq #[(Value.str (Str.ofString "self") 574), (Value.str (Str.ofString "realm") 575), (Value.str (Str.ofString "authuri") 576)] 0) #[])
noncomputable def hd.o_355 : Params → Obj := fun P => (Obj.mk (Value.type "code") none (Data.fields #[(Value.str (Str.ofString "_law_deeds") 610), (Value.str (Str.ofString "_law_deeds") 611), (Value.str (Str.ofString "/claim/cut.py") 612), (Value.int 235 0), (Value.int 1 0), (Value.int 0 0), (Value.int 0 0), (Value.int 3 0), (Value.ref 219), (Value.bool true), (Value.int 276 0), (Value.ref 220), Value.none, (Value.ref 221), (Value.ref 222), (Value.ref 223), (Value.int 619 0), (Value.int 235 0), (Value.str (Str.ofString "/claim/cut.py") 620)]) #[])
noncomputable def hd.o_339 : Params → Obj := fun P => (Obj.mk (Value.type "tuple") none (Data.seq #[] 0) #[])
noncomputable def hd.o_307 : Params → Obj := fun P => (Obj.mk (Value.type "tuple") none (Data.seq #[] 0) #[])
noncomputable def hd.o_331 : Params → Obj := fun P => (Obj.mk (Value.type "tuple") none (Data.seq #[(Value.str (Str.ofString "self") 583), (Value.str (Str.ofString "uri") 584), (Value.str (Str.ofString "default_port") 585)] 0) #[])
noncomputable def hd.o_347 : Params → Obj := fun P => (Obj.mk (Value.type "getset_descriptor") none (Data.fields #[(Value.str (Str.ofString "__weakref__") 603), (Value.ref 214), (Value.builtin "ExceptionGroup.__weakref__"), Value.none]) #[])
noncomputable def hd.o_315 : Params → Obj := fun P => (Obj.mk Value.none none (Data.fields #[]) #[])
noncomputable def hd.o_327 : Params → Obj := fun P => (Obj.mk (Value.type "function") none (Data.func (kFd [11, 2] rfl (Str.ofString "find_user_password") (Str.ofString "HTTPPasswordMgr.find_user_password") 3 [] Value.none Value.none Value.none (Value.str (Str.ofString "cpy313.urllib.request") 539) none (Value.ref 195) Value.none 0)) #[])
noncomputable def hd.o_343 : Params → Obj := fun P => (Obj.mk (Value.type "tuple") none (Data.seq #[(Value.str (Str.ofString "passwd") 599)] 0) #[])
noncomputable def hd.o_311 : Params → Obj := fun P => (Obj.mk Value.none none (Data.func (kFd [11, 0] rfl (Str.ofString "__init__") (Str.ofString "HTTPPasswordMgr.__init__") 0 [] Value.none Value.none Value.none Value.none none Value.none Value.none 0)) #[])
noncomputable def hd.o_335 : Params → Obj := fun P => (Obj.mk (Value.type "function") none (Data.func (kFd [11, 3] rfl (Str.ofString "reduce_uri") (Str.ofString "HTTPPasswordMgr.reduce_uri") 3 [] (Value.ref 197) Value.none Value.none (Value.str (Str.ofString "cpy313.urllib.request") 539) none (Value.ref 203) Value.none 0)) #[])
noncomputable def hd.o_303 : Params → Obj := fun P => (Obj.mk (Value.type "tuple") none (Data.seq #[] 0) #[])
noncomputable def hd.o_351 : Params → Obj := fun P => (Obj.mk Value.none none (Data.fields #[]) #[])
noncomputable def hd.o_319 : Params → Obj := fun P => (Obj.mk (Value.type "code") none (Data.fields #[(Value.str (Str.ofString "add_password") 560), (Value.str (Str.ofString "HTTPPasswordMgr.add_password") 561), (Value.str (Str.ofString "/claim/cut.py") 562), (Value.int 216 0), (Value.int 5 0), (Value.int 0 0), (Value.int 0 0), (Value.int 3 0), (Value.ref 183), (Value.bool true), (Value.int 276 0), (Value.ref 184), Value.none, (Value.ref 185), (Value.ref 186), (Value.ref 187), (Value.int 568 0), (Value.int 216 0), (Value.str (Str.ofString "/claim/cut.py") 569)]) #[])
noncomputable def hd.o_325 : Params → Obj := fun P => (Obj.mk Value.none none (Data.func (kFd [11, 2] rfl (Str.ofString "find_user_password") (Str.ofString "HTTPPasswordMgr.find_user_password") 0 [] Value.none Value.none Value.none Value.none none Value.none Value.none 0)) #[])
noncomputable def hd.o_341 : Params → Obj := fun P => (Obj.mk (Value.type "code") none (Data.fields #[(Value.str (Str.ofString "is_suburi") 589), (Value.str (Str.ofString "HTTPPasswordMgr.is_suburi") 590), (Value.str (Str.ofString "/claim/cut.py") 591), (Value.int 225 0), (Value.int 3 0), (Value.int 0 0), (Value.int 0 0), (Value.int 3 0), (Value.ref 205), (Value.bool true), (Value.int 276 0), (Value.ref 206), Value.none, (Value.ref 207), (Value.ref 208), (Value.ref 209), (Value.int 596 0), (Value.int 225 0), (Value.str (Str.ofString "/claim/cut.py") 597)]) #[])
noncomputable def hd.o_309 : Params → Obj := fun P => (Obj.mk (Value.type "tuple") none (Data.seq #[(Value.str (Str.ofString "self") 556)] 0) #[])
noncomputable def hd.o_333 : Params → Obj := fun P => (Obj.mk Value.none none (Data.func (kFd [11, 3] rfl (Str.ofString "reduce_uri") (Str.ofString "HTTPPasswordMgr.reduce_uri") 0 [] Value.none Value.none Value.none Value.none none Value.none Value.none 0)) #[])
noncomputable def hd.o_301 : Params → Obj := fun P => (Obj.mk (Value.type "builtin_function_or_method") none (Data.fields #[(Value.builtin "type.__prepare__"), (Value.type "type")]) #[])
noncomputable def hd.o_349 : Params → Obj := fun P => (Obj.mk (Value.type "builtin_function_or_method") none (Data.fields #[(Value.builtin "object.__init_subclass__"), (Value.ref 214)]) #[])
noncomputable def hd.o_317 : Params → Obj := fun P => (Obj.mk (Value.type "tuple") none (Data.seq #[] 0) #[])
noncomputable def hd.o_329 : Params → Obj := fun P => (Obj.mk (Value.type "tuple") none (Data.seq #[] 0) #[])
noncomputable def hd.o_345 : Params → Obj := fun P => (Obj.mk (Value.type "type") none (Data.cls (ClassData.mk (Str.ofString "HTTPPasswordMgr") [(Value.type "object")] [(Value.ref 214), (Value.type "object")] 213 (Str.ofString "HTTPPasswordMgr") true [] [] false none false)) #[none, none, (some (Value.str (Str.ofString "HTTPPasswordMgr") 541)), (some (Value.str (Str.ofString "HTTPPasswordMgr") 549)), (some (Value.builtin "object.__new__")), (some (Value.bool true))])
noncomputable def hd.o_313 : Params → Obj := fun P => (Obj.mk (Value.type "function") none (Data.func (kFd [11, 0] rfl (Str.ofString "__init__") (Str.ofString "HTTPPasswordMgr.__init__") 3 [] Value.none Value.none Value.none (Value.str (Str.ofString "cpy313.urllib.request") 539) none (Value.ref 181) Value.none 0)) #[])
noncomputable def hd.o_337 : Params → Obj := fun P => (Obj.mk Value.none none (Data.fields #[]) #[])
noncomputable def hd.o_305 : Params → Obj := fun P => (Obj.mk (Value.type "code") none (Data.fields #[(Value.str (Str.ofString "HTTPPasswordMgr") 543), (Value.str (Str.ofString "HTTPPasswordMgr") 544), (Value.str (Str.ofString "/claim/cut.py") 545), (Value.int 211 0), (Value.int 0 0), (Value.int 0 0), (Value.int 0 0), (Value.int 0 0), (Value.ref 172), (Value.bool false), (Value.int 276 0), (Value.ref 173), Value.none, Value.none, Value.none, Value.none, (Value.int 546 0), (Value.int 211 0), (Value.str (Str.ofString "/claim/cut.py") 547)]) #[])
noncomputable def hd.o_353 : Params → Obj := fun P => (Obj.mk (Value.type "tuple") none (Data.seq #[] 0) #[])
noncomputable def hd.o_321 : Params → Obj := fun P => (Obj.mk (Value.type "tuple") none (Data.seq #[] 0) #[])
noncomputable def hd.o_357 : Params → Obj := fun P => (Obj.mk (Value.type "dict") none (Data.dict #[(kE P "__name__" 165 (Value.str (Str.ofString "law_pg0323_01") 608)), (kE P "__doc__" 166 Value.none), (kE P "__package__" 167 Value.none), (kE P "__loader__" 168 (Value.builtin "__main__.__loader__#opaque")), (kE P "__spec__" 169 Value.none), (kE P "__annotations__" 170 (Value.ref 6)), (kE P "__builtins__" 171 (Value.ref 4)), (kE P "__file__" 173 (Value.str (Str.ofString "/claim/cut.py") 172)), (kE P "__cached__" 174 Value.none), (kE P "_sre" 275 (Value.ref 12)), (kE P "_wall" 288 (Value.ref 38)), (kE P "_twin_re_1" 328 (Value.ref 43)), (kE P "_namespace_map" 350 (Value.ref 44)), (kE P "_raise_serialization_error" 357 (Value.ref 51)), (kE P "_looks_like_prefix_name" 359 (Value.ref 52)), (kE P "C14NWriterTarget" 524 (Value.ref 150)), (kE P "_escape_cdata_c14n" 531 (Value.ref 161)), (kE P "_escape_attrib_c14n" 538 (Value.ref 168)), (kE P "HTTPPasswordMgr" 607 (Value.ref 214)), (kE P "_law_deeds" 621 (Value.ref 225)), (kE P "_law_meant" 629 (Value.ref 232)), (kE P "_law_due" 644 (Value.ref 239)), (kE P "law" 662 (Value.ref 246))] 23) #[])
noncomputable def hd.o_372 : Params → Obj := fun P => (Obj.mk (Value.type "function") none (Data.func (kFd [15] rfl (Str.ofString "_law_due") (Str.ofString "_law_due") 3 [] Value.none Value.none Value.none (Value.str (Str.ofString "law_pg0323_01") 608) none (Value.ref 238) Value.none 0)) #[])
noncomputable def hd.o_364 : Params → Obj := fun P => (Obj.mk (Value.type "code") none (Data.fields #[(Value.str (Str.ofString "_law_meant") 622), (Value.str (Str.ofString "_law_meant") 623), (Value.str (Str.ofString "/claim/cut.py") 624), (Value.int 252 0), (Value.int 2 0), (Value.int 0 0), (Value.int 0 0), (Value.int 3 0), (Value.ref 226), (Value.bool true), (Value.int 276 0), (Value.ref 227), Value.none, (Value.ref 228), (Value.ref 229), (Value.ref 230), (Value.int 627 0), (Value.int 252 0), (Value.str (Str.ofString "/claim/cut.py") 628)]) #[])
noncomputable def hd.o_360 : Params → Obj := fun P => (Obj.mk Value.none none (Data.fields #[]) #[])
noncomputable def hd.o_376 : Params → Obj := fun P => (Obj.mk (Value.type "tuple") none (Data.seq #[] 0) #[])
noncomputable def hd.o_368 : Params → Obj := fun P => (Obj.mk (Value.type "tuple") none (Data.seq #[(Value.str (Str.ofString "manager") 633), (Value.str (Str.ofString "tellings") 634), (Value.str (Str.ofString "prefix") 635), (Value.str (Str.ofString "here") 636), (Value.str (Str.ofString "depth") 637), (Value.str (Str.ofString "found") 638), (Value.str (Str.ofString "place") 639), (Value.str (Str.ofString "word") 640), (Value.str (Str.ofString "uri") 641)] 0) #[])
noncomputable def hd.o_374 : Params → Obj := fun P => (Obj.mk Value.none none (Data.fields #[]) #[])
noncomputable def hd.o_366 : Params → Obj := fun P => (Obj.mk (Value.type "tuple") none (Data.seq #[] 0) #[])
noncomputable def hd.o_362 : Params → Obj := fun P => (Obj.mk (Value.type "tuple") none (Data.seq #[] 0) #[])
noncomputable def hd.o_378 : Params → Obj := fun P => (Obj.mk (Value.type "code") none (Data.fields #[(Value.str (Str.ofString "law") 645), (Value.str (Str.ofString "law") 646), (Value.str (Str.ofString "/claim/cut.py") 647), (Value.int 265 0), (Value.int 1 0), (Value.int 0 0), (Value.int 0 0), (Value.int 3 0), (Value.ref 240), (Value.bool true), (Value.int 276 0), (Value.ref 241), Value.none, (Value.ref 242), (Value.ref 243), (Value.ref 244), (Value.int 660 0), (Value.int 265 0), (Value.str (Str.ofString "/claim/cut.py") 661)]) #[])
noncomputable def hd.o_358 : Params → Obj := fun P => (Obj.mk Value.none none (Data.fields #[(Value.int 2 0), (Value.int 0 0), (Value.ref 37), (Value.int 8 0), (Value.int 0 0), (Value.ref 50), (Value.int 11 0), (Value.int 0 0), (Value.ref 58), (Value.int 180 0), (Value.int 0 0), (Value.ref 160), (Value.int 193 0), (Value.int 0 0), (Value.ref 167), (Value.int 211 0), (Value.int 0 0), (Value.ref 174), (Value.int 235 0), (Value.int 0 0), (Value.ref 224), (Value.int 252 0), (Value.int 0 0), (Value.ref 231), (Value.int 257 0), (Value.int 0 0), (Value.ref 238), (Value.int 265 0), (Value.int 0 0), (Value.ref 245)]) #[])
noncomputable def hd.o_370 : Params → Obj := fun P => (Obj.mk Value.none none (Data.func (kFd [15] rfl (Str.ofString "_law_due") (Str.ofString "_law_due") 0 [] Value.none Value.none Value.none Value.none none Value.none Value.none 0)) #[])
noncomputable def hd.o_373 : Params → Obj := fun P => (Obj.mk (Value.type "tuple") none (Data.seq #[] 0) #[])
noncomputable def hd.o_365 : Params → Obj := fun P => (Obj.mk (Value.type "function") none (Data.func (kFd [14] rfl (Str.ofString "_law_meant") (Str.ofString "_law_meant") 3 [] Value.none Value.none Value.none (Value.str (Str.ofString "law_pg0323_01") 608) none (Value.ref 231) Value.none 0)) #[])
noncomputable def hd.o_361 : Params → Obj := fun P => (Obj.mk (Value.type "tuple") none (Data.seq #[(Value.str (Str.ofString "writer") 625), (Value.str (Str.ofString "prefix") 626)] 0) #[])
noncomputable def hd.o_377 : Params → Obj := fun P => (Obj.mk Value.none none (Data.func (kFd [16] rfl (Str.ofString "law") (Str.ofString "law") 0 [] Value.none Value.none Value.none Value.none none Value.none Value.none 0)) #[])
noncomputable def hd.o_369 : Params → Obj := fun P => (Obj.mk (Value.type "tuple") none (Data.seq #[] 0) #[])
noncomputable def hd.o_359 : Params → Obj := fun P => (Obj.mk (Value.type "tuple") none (Data.seq #[] 0) #[])
noncomputable def hd.o_375 : Params → Obj := fun P => (Obj.mk (Value.type "tuple") none (Data.seq #[(Value.str (Str.ofString "script") 648), (Value.str (Str.ofString "manager") 649), (Value.str (Str.ofString "pieces") 650), (Value.str (Str.ofString "writer") 651), (Value.str (Str.ofString "tellings") 652), (Value.str (Str.ofString "text") 653), (Value.str (Str.ofString "numbers") 654), (Value.str (Str.ofString "kind") 655), (Value.str (Str.ofString "here") 656), (Value.str (Str.ofString "word") 657), (Value.str (Str.ofString "uri") 658), (Value.str (Str.ofString "prefix") 659)] 0) #[])
noncomputable def hd.o_367 : Params → Obj := fun P => (Obj.mk Value.none none (Data.fields #[]) #[])
noncomputable def hd.o_363 : Params → Obj := fun P => (Obj.mk Value.none none (Data.func (kFd [14] rfl (Str.ofString "_law_meant") (Str.ofString "_law_meant") 0 [] Value.none Value.none Value.none Value.none none Value.none Value.none 0)) #[])
noncomputable def hd.o_379 : Params → Obj := fun P => (Obj.mk (Value.type "function") none (Data.func (kFd [16] rfl (Str.ofString "law") (Str.ofString "law") 3 [] Value.none Value.none Value.none (Value.str (Str.ofString "law_pg0323_01") 608) none (Value.ref 245) Value.none 0)) #[])
noncomputable def hd.o_371 : Params → Obj := fun P => (Obj.mk (Value.type "code") none (Data.fields #[(Value.str (Str.ofString "_law_due") 630), (Value.str (Str.ofString "_law_due") 631), (Value.str (Str.ofString "/claim/cut.py") 632), (Value.int 257 0), (Value.int 4 0), (Value.int 0 0), (Value.int 0 0), (Value.int 3 0), (Value.ref 233), (Value.bool true), (Value.int 276 0), (Value.ref 234), Value.none, (Value.ref 235), (Value.ref 236), (Value.ref 237), (Value.int 642 0), (Value.int 257 0), (Value.str (Str.ofString "/claim/cut.py") 643)]) #[])
noncomputable def hd.heap_68 : Params → Heap := fun P => (Heap.mk #[(hd.o_41 P), (hd.o_42 P), (hd.o_43 P), (hd.o_44 P), (hd.o_45 P), (hd.o_46 P), (hd.o_47 P), (hd.o_48 P), (hd.o_49 P), (hd.o_50 P), (hd.o_51 P), (hd.o_52 P), (hd.o_53 P), (hd.o_54 P), (hd.o_55 P), (hd.o_56 P), (hd.o_57 P), (hd.o_58 P), (hd.o_59 P), (hd.o_60 P), (hd.o_61 P), (hd.o_62 P), (hd.o_63 P), (hd.o_64 P), (hd.o_65 P), (hd.o_66 P), (hd.o_67 P), (hd.o_68 P)] (Life.mk [] [] [] 0 [] [] false #[] [] 0 false false false 0 [2000, 10, 10] false 0 true [] [] 0 false))
noncomputable def hd.heap_72 : Params → Heap := fun P => (Heap.mk #[(hd.o_41 P), (hd.o_42 P), (hd.o_43 P), (hd.o_44 P), (hd.o_45 P), (hd.o_46 P), (hd.o_47 P), (hd.o_48 P), (hd.o_49 P), (hd.o_50 P), (hd.o_51 P), (hd.o_52 P), (hd.o_53 P), (hd.o_54 P), (hd.o_55 P), (hd.o_56 P), (hd.o_57 P), (hd.o_58 P), (hd.o_59 P), (hd.o_60 P), (hd.o_61 P), (hd.o_62 P), (hd.o_63 P), (hd.o_64 P), (hd.o_65 P), (hd.o_66 P), (hd.o_67 P), (hd.o_68 P), (hd.o_69 P), (hd.o_70 P), (hd.o_71 P), (hd.o_72 P)] (Life.mk [] [] [] 0 [] [] false #[] [] 0 false false false 0 [2000, 10, 10] false 0 true [] [] 0 false))
noncomputable def hd.tree_73 : Params → BT := fun P => (W.BT.node (hd.o_41 P) (W.BT.node (hd.o_42 P) (W.BT.node (hd.o_44 P) (W.BT.node (hd.o_48 P) (W.BT.node (hd.o_56 P) (W.BT.node (hd.o_72 P) W.BT.nil W.BT.nil) W.BT.nil) (W.BT.node (hd.o_64 P) W.BT.nil W.BT.nil)) (W.BT.node (hd.o_52 P) (W.BT.node (hd.o_60 P) W.BT.nil W.BT.nil) (W.BT.node (hd.o_68 P) W.BT.nil W.BT.nil))) (W.BT.node (hd.o_46 P) (W.BT.node (hd.o_50 P) (W.BT.node (hd.o_58 P) W.BT.nil W.BT.nil) (W.BT.node (hd.o_66 P) W.BT.nil W.BT.nil)) (W.BT.node (hd.o_54 P) (W.BT.node (hd.o_62 P) W.BT.nil W.BT.nil) (W.BT.node (hd.o_70 P) W.BT.nil W.BT.nil)))) (W.BT.node (hd.o_43 P) (W.BT.node (hd.o_45 P) (W.BT.node (hd.o_49 P) (W.BT.node (hd.o_57 P) W.BT.nil W.BT.nil) (W.BT.node (hd.o_65 P) W.BT.nil W.BT.nil)) (W.BT.node (hd.o_53 P) (W.BT.node (hd.o_61 P) W.BT.nil W.BT.nil) (W.BT.node (hd.o_69 P) W.BT.nil W.BT.nil))) (W.BT.node (hd.o_47 P) (W.BT.node (hd.o_51 P) (W.BT.node (hd.o_59 P) W.BT.nil W.BT.nil) (W.BT.node (hd.o_67 P) W.BT.nil W.BT.nil)) (W.BT.node (hd.o_55 P) (W.BT.node (hd.o_63 P) W.BT.nil W.BT.nil) (W.BT.node (hd.o_71 P) W.BT.nil W.BT.nil)))))
noncomputable def hd.tree_97 : Params → BT := fun P => (W.BT.node (hd.o_41 P) (W.BT.node (hd.o_42 P) (W.BT.node (hd.o_75 P) (W.BT.node (hd.o_48 P) (W.BT.node (hd.o_56 P) (W.BT.node (hd.o_72 P) W.BT.nil W.BT.nil) (W.BT.node (hd.o_92 P) W.BT.nil W.BT.nil)) (W.BT.node (hd.o_64 P) (W.BT.node (hd.o_84 P) W.BT.nil W.BT.nil) W.BT.nil)) (W.BT.node (hd.o_52 P) (W.BT.node (hd.o_60 P) (W.BT.node (hd.o_80 P) W.BT.nil W.BT.nil) (W.BT.node (hd.o_96 P) W.BT.nil W.BT.nil)) (W.BT.node (hd.o_68 P) (W.BT.node (hd.o_88 P) W.BT.nil W.BT.nil) W.BT.nil))) (W.BT.node (hd.o_46 P) (W.BT.node (hd.o_50 P) (W.BT.node (hd.o_58 P) (W.BT.node (hd.o_78 P) W.BT.nil W.BT.nil) (W.BT.node (hd.o_94 P) W.BT.nil W.BT.nil)) (W.BT.node (hd.o_66 P) (W.BT.node (hd.o_86 P) W.BT.nil W.BT.nil) W.BT.nil)) (W.BT.node (hd.o_54 P) (W.BT.node (hd.o_62 P) (W.BT.node (hd.o_82 P) W.BT.nil W.BT.nil) W.BT.nil) (W.BT.node (hd.o_76 P) (W.BT.node (hd.o_90 P) W.BT.nil W.BT.nil) W.BT.nil)))) (W.BT.node (hd.o_43 P) (W.BT.node (hd.o_45 P) (W.BT.node (hd.o_49 P) (W.BT.node (hd.o_57 P) (W.BT.node (hd.o_77 P) W.BT.nil W.BT.nil) (W.BT.node (hd.o_93 P) W.BT.nil W.BT.nil)) (W.BT.node (hd.o_65 P) (W.BT.node (hd.o_85 P) W.BT.nil W.BT.nil) W.BT.nil)) (W.BT.node (hd.o_53 P) (W.BT.node (hd.o_61 P) (W.BT.node (hd.o_81 P) W.BT.nil W.BT.nil) (W.BT.node (hd.o_97 P) W.BT.nil W.BT.nil)) (W.BT.node (hd.o_69 P) (W.BT.node (hd.o_89 P) W.BT.nil W.BT.nil) W.BT.nil))) (W.BT.node (hd.o_47 P) (W.BT.node (hd.o_51 P) (W.BT.node (hd.o_59 P) (W.BT.node (hd.o_79 P) W.BT.nil W.BT.nil) (W.BT.node (hd.o_95 P) W.BT.nil W.BT.nil)) (W.BT.node (hd.o_67 P) (W.BT.node (hd.o_87 P) W.BT.nil W.BT.nil) W.BT.nil)) (W.BT.node (hd.o_55 P) (W.BT.node (hd.o_63 P) (W.BT.node (hd.o_83 P) W.BT.nil W.BT.nil) W.BT.nil) (W.BT.node (hd.o_71 P) (W.BT.node (hd.o_91 P) W.BT.nil W.BT.nil) W.BT.nil)))))
noncomputable def hd.tree_203 : Params → BT := fun P => (W.BT.node (hd.o_41 P) (W.BT.node (hd.o_42 P) (W.BT.node (hd.o_100 P) (W.BT.node (hd.o_48 P) (W.BT.node (hd.o_56 P) (W.BT.node (hd.o_72 P) (W.BT.node (hd.o_112 P) (W.BT.node (hd.o_176 P) W.BT.nil W.BT.nil) W.BT.nil) (W.BT.node (hd.o_144 P) W.BT.nil W.BT.nil)) (W.BT.node (hd.o_92 P) (W.BT.node (hd.o_128 P) (W.BT.node (hd.o_192 P) W.BT.nil W.BT.nil) W.BT.nil) (W.BT.node (hd.o_160 P) W.BT.nil W.BT.nil))) (W.BT.node (hd.o_64 P) (W.BT.node (hd.o_84 P) (W.BT.node (hd.o_120 P) (W.BT.node (hd.o_184 P) W.BT.nil W.BT.nil) W.BT.nil) (W.BT.node (hd.o_152 P) W.BT.nil W.BT.nil)) (W.BT.node (hd.o_104 P) (W.BT.node (hd.o_136 P) (W.BT.node (hd.o_200 P) W.BT.nil W.BT.nil) W.BT.nil) (W.BT.node (hd.o_168 P) W.BT.nil W.BT.nil)))) (W.BT.node (hd.o_52 P) (W.BT.node (hd.o_60 P) (W.BT.node (hd.o_80 P) (W.BT.node (hd.o_116 P) (W.BT.node (hd.o_180 P) W.BT.nil W.BT.nil) W.BT.nil) (W.BT.node (hd.o_148 P) W.BT.nil W.BT.nil)) (W.BT.node (hd.o_96 P) (W.BT.node (hd.o_132 P) (W.BT.node (hd.o_196 P) W.BT.nil W.BT.nil) W.BT.nil) (W.BT.node (hd.o_164 P) W.BT.nil W.BT.nil))) (W.BT.node (hd.o_68 P) (W.BT.node (hd.o_88 P) (W.BT.node (hd.o_124 P) (W.BT.node (hd.o_188 P) W.BT.nil W.BT.nil) W.BT.nil) (W.BT.node (hd.o_156 P) W.BT.nil W.BT.nil)) (W.BT.node (hd.o_108 P) (W.BT.node (hd.o_140 P) W.BT.nil W.BT.nil) (W.BT.node (hd.o_172 P) W.BT.nil W.BT.nil))))) (W.BT.node (hd.o_46 P) (W.BT.node (hd.o_50 P) (W.BT.node (hd.o_58 P) (W.BT.node (hd.o_78 P) (W.BT.node (hd.o_114 P) (W.BT.node (hd.o_178 P) W.BT.nil W.BT.nil) W.BT.nil) (W.BT.node (hd.o_146 P) W.BT.nil W.BT.nil)) (W.BT.node (hd.o_94 P) (W.BT.node (hd.o_130 P) (W.BT.node (hd.o_194 P) W.BT.nil W.BT.nil) W.BT.nil) (W.BT.node (hd.o_162 P) W.BT.nil W.BT.nil))) (W.BT.node (hd.o_66 P) (W.BT.node (hd.o_86 P) (W.BT.node (hd.o_122 P) (W.BT.node (hd.o_186 P) W.BT.nil W.BT.nil) W.BT.nil) (W.BT.node (hd.o_154 P) W.BT.nil W.BT.nil)) (W.BT.node (hd.o_106 P) (W.BT.node (hd.o_138 P) (W.BT.node (hd.o_202 P) W.BT.nil W.BT.nil) W.BT.nil) (W.BT.node (hd.o_170 P) W.BT.nil W.BT.nil)))) (W.BT.node (hd.o_54 P) (W.BT.node (hd.o_62 P) (W.BT.node (hd.o_82 P) (W.BT.node (hd.o_118 P) (W.BT.node (hd.o_182 P) W.BT.nil W.BT.nil) W.BT.nil) (W.BT.node (hd.o_150 P) W.BT.nil W.BT.nil)) (W.BT.node (hd.o_102 P) (W.BT.node (hd.o_134 P) (W.BT.node (hd.o_198 P) W.BT.nil W.BT.nil) W.BT.nil) (W.BT.node (hd.o_166 P) W.BT.nil W.BT.nil))) (W.BT.node (hd.o_101 P) (W.BT.node (hd.o_90 P) (W.BT.node (hd.o_126 P) (W.BT.node (hd.o_190 P) W.BT.nil W.BT.nil) W.BT.nil) (W.BT.node (hd.o_158 P) W.BT.nil W.BT.nil)) (W.BT.node (hd.o_110 P) (W.BT.node (hd.o_142 P) W.BT.nil W.BT.nil) (W.BT.node (hd.o_174 P) W.BT.nil W.BT.nil)))))) (W.BT.node (hd.o_43 P) (W.BT.node (hd.o_45 P) (W.BT.node (hd.o_49 P) (W.BT.node (hd.o_57 P) (W.BT.node (hd.o_77 P) (W.BT.node (hd.o_113 P) (W.BT.node (hd.o_177 P) W.BT.nil W.BT.nil) W.BT.nil) (W.BT.node (hd.o_145 P) W.BT.nil W.BT.nil)) (W.BT.node (hd.o_93 P) (W.BT.node (hd.o_129 P) (W.BT.node (hd.o_193 P) W.BT.nil W.BT.nil) W.BT.nil) (W.BT.node (hd.o_161 P) W.BT.nil W.BT.nil))) (W.BT.node (hd.o_65 P) (W.BT.node (hd.o_85 P) (W.BT.node (hd.o_121 P) (W.BT.node (hd.o_185 P) W.BT.nil W.BT.nil) W.BT.nil) (W.BT.node (hd.o_153 P) W.BT.nil W.BT.nil)) (W.BT.node (hd.o_105 P) (W.BT.node (hd.o_137 P) (W.BT.node (hd.o_201 P) W.BT.nil W.BT.nil) W.BT.nil) (W.BT.node (hd.o_169 P) W.BT.nil W.BT.nil)))) (W.BT.node (hd.o_53 P) (W.BT.node (hd.o_61 P) (W.BT.node (hd.o_81 P) (W.BT.node (hd.o_117 P) (W.BT.node (hd.o_181 P) W.BT.nil W.BT.nil) W.BT.nil) (W.BT.node (hd.o_149 P) W.BT.nil W.BT.nil)) (W.BT.node (hd.o_97 P) (W.BT.node (hd.o_133 P) (W.BT.node (hd.o_197 P) W.BT.nil W.BT.nil) W.BT.nil) (W.BT.node (hd.o_165 P) W.BT.nil W.BT.nil))) (W.BT.node (hd.o_69 P) (W.BT.node (hd.o_89 P) (W.BT.node (hd.o_125 P) (W.BT.node (hd.o_189 P) W.BT.nil W.BT.nil) W.BT.nil) (W.BT.node (hd.o_157 P) W.BT.nil W.BT.nil)) (W.BT.node (hd.o_109 P) (W.BT.node (hd.o_141 P) W.BT.nil W.BT.nil) (W.BT.node (hd.o_173 P) W.BT.nil W.BT.nil))))) (W.BT.node (hd.o_47 P) (W.BT.node (hd.o_51 P) (W.BT.node (hd.o_59 P) (W.BT.node (hd.o_79 P) (W.BT.node (hd.o_115 P) (W.BT.node (hd.o_179 P) W.BT.nil W.BT.nil) W.BT.nil) (W.BT.node (hd.o_147 P) W.BT.nil W.BT.nil)) (W.BT.node (hd.o_95 P) (W.BT.node (hd.o_131 P) (W.BT.node (hd.o_195 P) W.BT.nil W.BT.nil) W.BT.nil) (W.BT.node (hd.o_163 P) W.BT.nil W.BT.nil))) (W.BT.node (hd.o_67 P) (W.BT.node (hd.o_87 P) (W.BT.node (hd.o_123 P) (W.BT.node (hd.o_187 P) W.BT.nil W.BT.nil) W.BT.nil) (W.BT.node (hd.o_155 P) W.BT.nil W.BT.nil)) (W.BT.node (hd.o_107 P) (W.BT.node (hd.o_139 P) (W.BT.node (hd.o_203 P) W.BT.nil W.BT.nil) W.BT.nil) (W.BT.node (hd.o_171 P) W.BT.nil W.BT.nil)))) (W.BT.node (hd.o_55 P) (W.BT.node (hd.o_63 P) (W.BT.node (hd.o_83 P) (W.BT.node (hd.o_119 P) (W.BT.node (hd.o_183 P) W.BT.nil W.BT.nil) W.BT.nil) (W.BT.node (hd.o_151 P) W.BT.nil W.BT.nil)) (W.BT.node (hd.o_103 P) (W.BT.node (hd.o_135 P) (W.BT.node (hd.o_199 P) W.BT.nil W.BT.nil) W.BT.nil) (W.BT.node (hd.o_167 P) W.BT.nil W.BT.nil))) (W.BT.node (hd.o_71 P) (W.BT.node (hd.o_91 P) (W.BT.node (hd.o_127 P) (W.BT.node (hd.o_191 P) W.BT.nil W.BT.nil) W.BT.nil) (W.BT.node (hd.o_159 P) W.BT.nil W.BT.nil)) (W.BT.node (hd.o_111 P) (W.BT.node (hd.o_143 P) W.BT.nil W.BT.nil) (W.BT.node (hd.o_175 P) W.BT.nil W.BT.nil)))))))
noncomputable def hd.tree_297 : Params → BT := fun P => (W.BT.node (hd.o_41 P) (W.BT.node (hd.o_42 P) (W.BT.node (hd.o_282 P) (W.BT.node (hd.o_48 P) (W.BT.node (hd.o_56 P) (W.BT.node (hd.o_72 P) (W.BT.node (hd.o_112 P) (W.BT.node (hd.o_176 P) W.BT.nil W.BT.nil) W.BT.nil) (W.BT.node (hd.o_144 P) (W.BT.node (hd.o_288 P) W.BT.nil W.BT.nil) W.BT.nil)) (W.BT.node (hd.o_92 P) (W.BT.node (hd.o_128 P) (W.BT.node (hd.o_192 P) W.BT.nil W.BT.nil) W.BT.nil) (W.BT.node (hd.o_160 P) W.BT.nil W.BT.nil))) (W.BT.node (hd.o_64 P) (W.BT.node (hd.o_84 P) (W.BT.node (hd.o_120 P) (W.BT.node (hd.o_184 P) W.BT.nil W.BT.nil) W.BT.nil) (W.BT.node (hd.o_152 P) (W.BT.node (hd.o_296 P) W.BT.nil W.BT.nil) W.BT.nil)) (W.BT.node (hd.o_104 P) (W.BT.node (hd.o_136 P) (W.BT.node (hd.o_200 P) W.BT.nil W.BT.nil) W.BT.nil) (W.BT.node (hd.o_168 P) W.BT.nil W.BT.nil)))) (W.BT.node (hd.o_52 P) (W.BT.node (hd.o_60 P) (W.BT.node (hd.o_80 P) (W.BT.node (hd.o_116 P) (W.BT.node (hd.o_180 P) W.BT.nil W.BT.nil) W.BT.nil) (W.BT.node (hd.o_148 P) (W.BT.node (hd.o_292 P) W.BT.nil W.BT.nil) W.BT.nil)) (W.BT.node (hd.o_96 P) (W.BT.node (hd.o_132 P) (W.BT.node (hd.o_196 P) W.BT.nil W.BT.nil) W.BT.nil) (W.BT.node (hd.o_164 P) W.BT.nil W.BT.nil))) (W.BT.node (hd.o_68 P) (W.BT.node (hd.o_88 P) (W.BT.node (hd.o_124 P) (W.BT.node (hd.o_188 P) W.BT.nil W.BT.nil) W.BT.nil) (W.BT.node (hd.o_156 P) W.BT.nil W.BT.nil)) (W.BT.node (hd.o_108 P) (W.BT.node (hd.o_140 P) (W.BT.node (hd.o_284 P) W.BT.nil W.BT.nil) W.BT.nil) (W.BT.node (hd.o_172 P) W.BT.nil W.BT.nil))))) (W.BT.node (hd.o_46 P) (W.BT.node (hd.o_50 P) (W.BT.node (hd.o_58 P) (W.BT.node (hd.o_78 P) (W.BT.node (hd.o_114 P) (W.BT.node (hd.o_178 P) W.BT.nil W.BT.nil) W.BT.nil) (W.BT.node (hd.o_146 P) (W.BT.node (hd.o_290 P) W.BT.nil W.BT.nil) W.BT.nil)) (W.BT.node (hd.o_94 P) (W.BT.node (hd.o_130 P) (W.BT.node (hd.o_194 P) W.BT.nil W.BT.nil) W.BT.nil) (W.BT.node (hd.o_162 P) W.BT.nil W.BT.nil))) (W.BT.node (hd.o_66 P) (W.BT.node (hd.o_86 P) (W.BT.node (hd.o_122 P) (W.BT.node (hd.o_186 P) W.BT.nil W.BT.nil) W.BT.nil) (W.BT.node (hd.o_154 P) W.BT.nil W.BT.nil)) (W.BT.node (hd.o_106 P) (W.BT.node (hd.o_138 P) (W.BT.node (hd.o_202 P) W.BT.nil W.BT.nil) W.BT.nil) (W.BT.node (hd.o_170 P) W.BT.nil W.BT.nil)))) (W.BT.node (hd.o_54 P) (W.BT.node (hd.o_62 P) (W.BT.node (hd.o_82 P) (W.BT.node (hd.o_118 P) (W.BT.node (hd.o_182 P) W.BT.nil W.BT.nil) W.BT.nil) (W.BT.node (hd.o_150 P) (W.BT.node (hd.o_294 P) W.BT.nil W.BT.nil) W.BT.nil)) (W.BT.node (hd.o_102 P) (W.BT.node (hd.o_134 P) (W.BT.node (hd.o_198 P) W.BT.nil W.BT.nil) W.BT.nil) (W.BT.node (hd.o_166 P) W.BT.nil W.BT.nil))) (W.BT.node (hd.o_283 P) (W.BT.node (hd.o_90 P) (W.BT.node (hd.o_126 P) (W.BT.node (hd.o_190 P) W.BT.nil W.BT.nil) W.BT.nil) (W.BT.node (hd.o_158 P) W.BT.nil W.BT.nil)) (W.BT.node (hd.o_110 P) (W.BT.node (hd.o_142 P) (W.BT.node (hd.o_286 P) W.BT.nil W.BT.nil) W.BT.nil) (W.BT.node (hd.o_174 P) W.BT.nil W.BT.nil)))))) (W.BT.node (hd.o_43 P) (W.BT.node (hd.o_45 P) (W.BT.node (hd.o_49 P) (W.BT.node (hd.o_57 P) (W.BT.node (hd.o_77 P) (W.BT.node (hd.o_113 P) (W.BT.node (hd.o_177 P) W.BT.nil W.BT.nil) W.BT.nil) (W.BT.node (hd.o_145 P) (W.BT.node (hd.o_289 P) W.BT.nil W.BT.nil) W.BT.nil)) (W.BT.node (hd.o_93 P) (W.BT.node (hd.o_129 P) (W.BT.node (hd.o_193 P) W.BT.nil W.BT.nil) W.BT.nil) (W.BT.node (hd.o_161 P) W.BT.nil W.BT.nil))) (W.BT.node (hd.o_65 P) (W.BT.node (hd.o_85 P) (W.BT.node (hd.o_121 P) (W.BT.node (hd.o_185 P) W.BT.nil W.BT.nil) W.BT.nil) (W.BT.node (hd.o_153 P) (W.BT.node (hd.o_297 P) W.BT.nil W.BT.nil) W.BT.nil)) (W.BT.node (hd.o_105 P) (W.BT.node (hd.o_137 P) (W.BT.node (hd.o_201 P) W.BT.nil W.BT.nil) W.BT.nil) (W.BT.node (hd.o_169 P) W.BT.nil W.BT.nil)))) (W.BT.node (hd.o_53 P) (W.BT.node (hd.o_61 P) (W.BT.node (hd.o_81 P) (W.BT.node (hd.o_117 P) (W.BT.node (hd.o_181 P) W.BT.nil W.BT.nil) W.BT.nil) (W.BT.node (hd.o_149 P) (W.BT.node (hd.o_293 P) W.BT.nil W.BT.nil) W.BT.nil)) (W.BT.node (hd.o_97 P) (W.BT.node (hd.o_133 P) (W.BT.node (hd.o_197 P) W.BT.nil W.BT.nil) W.BT.nil) (W.BT.node (hd.o_165 P) W.BT.nil W.BT.nil))) (W.BT.node (hd.o_69 P) (W.BT.node (hd.o_89 P) (W.BT.node (hd.o_125 P) (W.BT.node (hd.o_189 P) W.BT.nil W.BT.nil) W.BT.nil) (W.BT.node (hd.o_157 P) W.BT.nil W.BT.nil)) (W.BT.node (hd.o_109 P) (W.BT.node (hd.o_141 P) (W.BT.node (hd.o_285 P) W.BT.nil W.BT.nil) W.BT.nil) (W.BT.node (hd.o_173 P) W.BT.nil W.BT.nil))))) (W.BT.node (hd.o_47 P) (W.BT.node (hd.o_51 P) (W.BT.node (hd.o_59 P) (W.BT.node (hd.o_79 P) (W.BT.node (hd.o_115 P) (W.BT.node (hd.o_179 P) W.BT.nil W.BT.nil) W.BT.nil) (W.BT.node (hd.o_147 P) (W.BT.node (hd.o_291 P) W.BT.nil W.BT.nil) W.BT.nil)) (W.BT.node (hd.o_95 P) (W.BT.node (hd.o_131 P) (W.BT.node (hd.o_195 P) W.BT.nil W.BT.nil) W.BT.nil) (W.BT.node (hd.o_163 P) W.BT.nil W.BT.nil))) (W.BT.node (hd.o_67 P) (W.BT.node (hd.o_87 P) (W.BT.node (hd.o_123 P) (W.BT.node (hd.o_187 P) W.BT.nil W.BT.nil) W.BT.nil) (W.BT.node (hd.o_155 P) W.BT.nil W.BT.nil)) (W.BT.node (hd.o_107 P) (W.BT.node (hd.o_139 P) (W.BT.node (hd.o_203 P) W.BT.nil W.BT.nil) W.BT.nil) (W.BT.node (hd.o_171 P) W.BT.nil W.BT.nil)))) (W.BT.node (hd.o_55 P) (W.BT.node (hd.o_63 P) (W.BT.node (hd.o_83 P) (W.BT.node (hd.o_119 P) (W.BT.node (hd.o_183 P) W.BT.nil W.BT.nil) W.BT.nil) (W.BT.node (hd.o_151 P) (W.BT.node (hd.o_295 P) W.BT.nil W.BT.nil) W.BT.nil)) (W.BT.node (hd.o_103 P) (W.BT.node (hd.o_135 P) (W.BT.node (hd.o_199 P) W.BT.nil W.BT.nil) W.BT.nil) (W.BT.node (hd.o_167 P) W.BT.nil W.BT.nil))) (W.BT.node (hd.o_71 P) (W.BT.node (hd.o_91 P) (W.BT.node (hd.o_127 P) (W.BT.node (hd.o_191 P) W.BT.nil W.BT.nil) W.BT.nil) (W.BT.node (hd.o_159 P) W.BT.nil W.BT.nil)) (W.BT.node (hd.o_111 P) (W.BT.node (hd.o_143 P) (W.BT.node (hd.o_287 P) W.BT.nil W.BT.nil) W.BT.nil) (W.BT.node (hd.o_175 P) W.BT.nil W.BT.nil)))))))
noncomputable def hd.tree_356 : Params → BT := fun P => (W.BT.node (hd.o_41 P) (W.BT.node (hd.o_42 P) (W.BT.node (hd.o_298 P) (W.BT.node (hd.o_48 P) (W.BT.node (hd.o_56 P) (W.BT.node (hd.o_72 P) (W.BT.node (hd.o_112 P) (W.BT.node (hd.o_176 P) W.BT.nil W.BT.nil) (W.BT.node (hd.o_322 P) W.BT.nil W.BT.nil)) (W.BT.node (hd.o_144 P) (W.BT.node (hd.o_288 P) W.BT.nil W.BT.nil) (W.BT.node (hd.o_354 P) W.BT.nil W.BT.nil))) (W.BT.node (hd.o_92 P) (W.BT.node (hd.o_128 P) (W.BT.node (hd.o_192 P) W.BT.nil W.BT.nil) (W.BT.node (hd.o_338 P) W.BT.nil W.BT.nil)) (W.BT.node (hd.o_160 P) (W.BT.node (hd.o_306 P) W.BT.nil W.BT.nil) W.BT.nil))) (W.BT.node (hd.o_64 P) (W.BT.node (hd.o_84 P) (W.BT.node (hd.o_120 P) (W.BT.node (hd.o_184 P) W.BT.nil W.BT.nil) (W.BT.node (hd.o_330 P) W.BT.nil W.BT.nil)) (W.BT.node (hd.o_152 P) (W.BT.node (hd.o_296 P) W.BT.nil W.BT.nil) W.BT.nil)) (W.BT.node (hd.o_104 P) (W.BT.node (hd.o_136 P) (W.BT.node (hd.o_200 P) W.BT.nil W.BT.nil) (W.BT.node (hd.o_346 P) W.BT.nil W.BT.nil)) (W.BT.node (hd.o_168 P) (W.BT.node (hd.o_314 P) W.BT.nil W.BT.nil) W.BT.nil)))) (W.BT.node (hd.o_52 P) (W.BT.node (hd.o_60 P) (W.BT.node (hd.o_80 P) (W.BT.node (hd.o_116 P) (W.BT.node (hd.o_180 P) W.BT.nil W.BT.nil) (W.BT.node (hd.o_326 P) W.BT.nil W.BT.nil)) (W.BT.node (hd.o_148 P) (W.BT.node (hd.o_292 P) W.BT.nil W.BT.nil) W.BT.nil)) (W.BT.node (hd.o_96 P) (W.BT.node (hd.o_132 P) (W.BT.node (hd.o_196 P) W.BT.nil W.BT.nil) (W.BT.node (hd.o_342 P) W.BT.nil W.BT.nil)) (W.BT.node (hd.o_164 P) (W.BT.node (hd.o_310 P) W.BT.nil W.BT.nil) W.BT.nil))) (W.BT.node (hd.o_68 P) (W.BT.node (hd.o_88 P) (W.BT.node (hd.o_124 P) (W.BT.node (hd.o_188 P) W.BT.nil W.BT.nil) (W.BT.node (hd.o_334 P) W.BT.nil W.BT.nil)) (W.BT.node (hd.o_156 P) (W.BT.node (hd.o_302 P) W.BT.nil W.BT.nil) W.BT.nil)) (W.BT.node (hd.o_108 P) (W.BT.node (hd.o_140 P) (W.BT.node (hd.o_284 P) W.BT.nil W.BT.nil) (W.BT.node (hd.o_350 P) W.BT.nil W.BT.nil)) (W.BT.node (hd.o_172 P) (W.BT.node (hd.o_318 P) W.BT.nil W.BT.nil) W.BT.nil))))) (W.BT.node (hd.o_46 P) (W.BT.node (hd.o_50 P) (W.BT.node (hd.o_58 P) (W.BT.node (hd.o_78 P) (W.BT.node (hd.o_114 P) (W.BT.node (hd.o_178 P) W.BT.nil W.BT.nil) (W.BT.node (hd.o_324 P) W.BT.nil W.BT.nil)) (W.BT.node (hd.o_146 P) (W.BT.node (hd.o_290 P) W.BT.nil W.BT.nil) (W.BT.node (hd.o_356 P) W.BT.nil W.BT.nil))) (W.BT.node (hd.o_94 P) (W.BT.node (hd.o_130 P) (W.BT.node (hd.o_194 P) W.BT.nil W.BT.nil) (W.BT.node (hd.o_340 P) W.BT.nil W.BT.nil)) (W.BT.node (hd.o_162 P) (W.BT.node (hd.o_308 P) W.BT.nil W.BT.nil) W.BT.nil))) (W.BT.node (hd.o_66 P) (W.BT.node (hd.o_86 P) (W.BT.node (hd.o_122 P) (W.BT.node (hd.o_186 P) W.BT.nil W.BT.nil) (W.BT.node (hd.o_332 P) W.BT.nil W.BT.nil)) (W.BT.node (hd.o_154 P) (W.BT.node (hd.o_300 P) W.BT.nil W.BT.nil) W.BT.nil)) (W.BT.node (hd.o_106 P) (W.BT.node (hd.o_138 P) (W.BT.node (hd.o_202 P) W.BT.nil W.BT.nil) (W.BT.node (hd.o_348 P) W.BT.nil W.BT.nil)) (W.BT.node (hd.o_170 P) (W.BT.node (hd.o_316 P) W.BT.nil W.BT.nil) W.BT.nil)))) (W.BT.node (hd.o_54 P) (W.BT.node (hd.o_62 P) (W.BT.node (hd.o_82 P) (W.BT.node (hd.o_118 P) (W.BT.node (hd.o_182 P) W.BT.nil W.BT.nil) (W.BT.node (hd.o_328 P) W.BT.nil W.BT.nil)) (W.BT.node (hd.o_150 P) (W.BT.node (hd.o_294 P) W.BT.nil W.BT.nil) W.BT.nil)) (W.BT.node (hd.o_102 P) (W.BT.node (hd.o_134 P) (W.BT.node (hd.o_198 P) W.BT.nil W.BT.nil) (W.BT.node (hd.o_344 P) W.BT.nil W.BT.nil)) (W.BT.node (hd.o_166 P) (W.BT.node (hd.o_312 P) W.BT.nil W.BT.nil) W.BT.nil))) (W.BT.node (hd.o_299 P) (W.BT.node (hd.o_90 P) (W.BT.node (hd.o_126 P) (W.BT.node (hd.o_190 P) W.BT.nil W.BT.nil) (W.BT.node (hd.o_336 P) W.BT.nil W.BT.nil)) (W.BT.node (hd.o_158 P) (W.BT.node (hd.o_304 P) W.BT.nil W.BT.nil) W.BT.nil)) (W.BT.node (hd.o_110 P) (W.BT.node (hd.o_142 P) (W.BT.node (hd.o_286 P) W.BT.nil W.BT.nil) (W.BT.node (hd.o_352 P) W.BT.nil W.BT.nil)) (W.BT.node (hd.o_174 P) (W.BT.node (hd.o_320 P) W.BT.nil W.BT.nil) W.BT.nil)))))) (W.BT.node (hd.o_43 P) (W.BT.node (hd.o_45 P) (W.BT.node (hd.o_49 P) (W.BT.node (hd.o_57 P) (W.BT.node (hd.o_77 P) (W.BT.node (hd.o_113 P) (W.BT.node (hd.o_177 P) W.BT.nil W.BT.nil) (W.BT.node (hd.o_323 P) W.BT.nil W.BT.nil)) (W.BT.node (hd.o_145 P) (W.BT.node (hd.o_289 P) W.BT.nil W.BT.nil) (W.BT.node (hd.o_355 P) W.BT.nil W.BT.nil))) (W.BT.node (hd.o_93 P) (W.BT.node (hd.o_129 P) (W.BT.node (hd.o_193 P) W.BT.nil W.BT.nil) (W.BT.node (hd.o_339 P) W.BT.nil W.BT.nil)) (W.BT.node (hd.o_161 P) (W.BT.node (hd.o_307 P) W.BT.nil W.BT.nil) W.BT.nil))) (W.BT.node (hd.o_65 P) (W.BT.node (hd.o_85 P) (W.BT.node (hd.o_121 P) (W.BT.node (hd.o_185 P) W.BT.nil W.BT.nil) (W.BT.node (hd.o_331 P) W.BT.nil W.BT.nil)) (W.BT.node (hd.o_153 P) (W.BT.node (hd.o_297 P) W.BT.nil W.BT.nil) W.BT.nil)) (W.BT.node (hd.o_105 P) (W.BT.node (hd.o_137 P) (W.BT.node (hd.o_201 P) W.BT.nil W.BT.nil) (W.BT.node (hd.o_347 P) W.BT.nil W.BT.nil)) (W.BT.node (hd.o_169 P) (W.BT.node (hd.o_315 P) W.BT.nil W.BT.nil) W.BT.nil)))) (W.BT.node (hd.o_53 P) (W.BT.node (hd.o_61 P) (W.BT.node (hd.o_81 P) (W.BT.node (hd.o_117 P) (W.BT.node (hd.o_181 P) W.BT.nil W.BT.nil) (W.BT.node (hd.o_327 P) W.BT.nil W.BT.nil)) (W.BT.node (hd.o_149 P) (W.BT.node (hd.o_293 P) W.BT.nil W.BT.nil) W.BT.nil)) (W.BT.node (hd.o_97 P) (W.BT.node (hd.o_133 P) (W.BT.node (hd.o_197 P) W.BT.nil W.BT.nil) (W.BT.node (hd.o_343 P) W.BT.nil W.BT.nil)) (W.BT.node (hd.o_165 P) (W.BT.node (hd.o_311 P) W.BT.nil W.BT.nil) W.BT.nil))) (W.BT.node (hd.o_69 P) (W.BT.node (hd.o_89 P) (W.BT.node (hd.o_125 P) (W.BT.node (hd.o_189 P) W.BT.nil W.BT.nil) (W.BT.node (hd.o_335 P) W.BT.nil W.BT.nil)) (W.BT.node (hd.o_157 P) (W.BT.node (hd.o_303 P) W.BT.nil W.BT.nil) W.BT.nil)) (W.BT.node (hd.o_109 P) (W.BT.node (hd.o_141 P) (W.BT.node (hd.o_285 P) W.BT.nil W.BT.nil) (W.BT.node (hd.o_351 P) W.BT.nil W.BT.nil)) (W.BT.node (hd.o_173 P) (W.BT.node (hd.o_319 P) W.BT.nil W.BT.nil) W.BT.nil))))) (W.BT.node (hd.o_47 P) (W.BT.node (hd.o_51 P) (W.BT.node (hd.o_59 P) (W.BT.node (hd.o_79 P) (W.BT.node (hd.o_115 P) (W.BT.node (hd.o_179 P) W.BT.nil W.BT.nil) (W.BT.node (hd.o_325 P) W.BT.nil W.BT.nil)) (W.BT.node (hd.o_147 P) (W.BT.node (hd.o_291 P) W.BT.nil W.BT.nil) W.BT.nil)) (W.BT.node (hd.o_95 P) (W.BT.node (hd.o_131 P) (W.BT.node (hd.o_195 P) W.BT.nil W.BT.nil) (W.BT.node (hd.o_341 P) W.BT.nil W.BT.nil)) (W.BT.node (hd.o_163 P) (W.BT.node (hd.o_309 P) W.BT.nil W.BT.nil) W.BT.nil))) (W.BT.node (hd.o_67 P) (W.BT.node (hd.o_87 P) (W.BT.node (hd.o_123 P) (W.BT.node (hd.o_187 P) W.BT.nil W.BT.nil) (W.BT.node (hd.o_333 P) W.BT.nil W.BT.nil)) (W.BT.node (hd.o_155 P) (W.BT.node (hd.o_301 P) W.BT.nil W.BT.nil) W.BT.nil)) (W.BT.node (hd.o_107 P) (W.BT.node (hd.o_139 P) (W.BT.node (hd.o_203 P) W.BT.nil W.BT.nil) (W.BT.node (hd.o_349 P) W.BT.nil W.BT.nil)) (W.BT.node (hd.o_171 P) (W.BT.node (hd.o_317 P) W.BT.nil W.BT.nil) W.BT.nil)))) (W.BT.node (hd.o_55 P) (W.BT.node (hd.o_63 P) (W.BT.node (hd.o_83 P) (W.BT.node (hd.o_119 P) (W.BT.node (hd.o_183 P) W.BT.nil W.BT.nil) (W.BT.node (hd.o_329 P) W.BT.nil W.BT.nil)) (W.BT.node (hd.o_151 P) (W.BT.node (hd.o_295 P) W.BT.nil W.BT.nil) W.BT.nil)) (W.BT.node (hd.o_103 P) (W.BT.node (hd.o_135 P) (W.BT.node (hd.o_199 P) W.BT.nil W.BT.nil) (W.BT.node (hd.o_345 P) W.BT.nil W.BT.nil)) (W.BT.node (hd.o_167 P) (W.BT.node (hd.o_313 P) W.BT.nil W.BT.nil) W.BT.nil))) (W.BT.node (hd.o_71 P) (W.BT.node (hd.o_91 P) (W.BT.node (hd.o_127 P) (W.BT.node (hd.o_191 P) W.BT.nil W.BT.nil) (W.BT.node (hd.o_337 P) W.BT.nil W.BT.nil)) (W.BT.node (hd.o_159 P) (W.BT.node (hd.o_305 P) W.BT.nil W.BT.nil) W.BT.nil)) (W.BT.node (hd.o_111 P) (W.BT.node (hd.o_143 P) (W.BT.node (hd.o_287 P) W.BT.nil W.BT.nil) (W.BT.node (hd.o_353 P) W.BT.nil W.BT.nil)) (W.BT.node (hd.o_175 P) (W.BT.node (hd.o_321 P) W.BT.nil W.BT.nil) W.BT.nil)))))))
noncomputable def hd.tree_379 : Params → BT := fun P => (W.BT.node (hd.o_41 P) (W.BT.node (hd.o_42 P) (W.BT.node (hd.o_357 P) (W.BT.node (hd.o_48 P) (W.BT.node (hd.o_56 P) (W.BT.node (hd.o_72 P) (W.BT.node (hd.o_112 P) (W.BT.node (hd.o_176 P) W.BT.nil W.BT.nil) (W.BT.node (hd.o_322 P) W.BT.nil W.BT.nil)) (W.BT.node (hd.o_144 P) (W.BT.node (hd.o_288 P) W.BT.nil W.BT.nil) (W.BT.node (hd.o_354 P) W.BT.nil W.BT.nil))) (W.BT.node (hd.o_92 P) (W.BT.node (hd.o_128 P) (W.BT.node (hd.o_192 P) W.BT.nil W.BT.nil) (W.BT.node (hd.o_338 P) W.BT.nil W.BT.nil)) (W.BT.node (hd.o_160 P) (W.BT.node (hd.o_306 P) W.BT.nil W.BT.nil) (W.BT.node (hd.o_372 P) W.BT.nil W.BT.nil)))) (W.BT.node (hd.o_64 P) (W.BT.node (hd.o_84 P) (W.BT.node (hd.o_120 P) (W.BT.node (hd.o_184 P) W.BT.nil W.BT.nil) (W.BT.node (hd.o_330 P) W.BT.nil W.BT.nil)) (W.BT.node (hd.o_152 P) (W.BT.node (hd.o_296 P) W.BT.nil W.BT.nil) (W.BT.node (hd.o_364 P) W.BT.nil W.BT.nil))) (W.BT.node (hd.o_104 P) (W.BT.node (hd.o_136 P) (W.BT.node (hd.o_200 P) W.BT.nil W.BT.nil) (W.BT.node (hd.o_346 P) W.BT.nil W.BT.nil)) (W.BT.node (hd.o_168 P) (W.BT.node (hd.o_314 P) W.BT.nil W.BT.nil) W.BT.nil)))) (W.BT.node (hd.o_52 P) (W.BT.node (hd.o_60 P) (W.BT.node (hd.o_80 P) (W.BT.node (hd.o_116 P) (W.BT.node (hd.o_180 P) W.BT.nil W.BT.nil) (W.BT.node (hd.o_326 P) W.BT.nil W.BT.nil)) (W.BT.node (hd.o_148 P) (W.BT.node (hd.o_292 P) W.BT.nil W.BT.nil) (W.BT.node (hd.o_360 P) W.BT.nil W.BT.nil))) (W.BT.node (hd.o_96 P) (W.BT.node (hd.o_132 P) (W.BT.node (hd.o_196 P) W.BT.nil W.BT.nil) (W.BT.node (hd.o_342 P) W.BT.nil W.BT.nil)) (W.BT.node (hd.o_164 P) (W.BT.node (hd.o_310 P) W.BT.nil W.BT.nil) (W.BT.node (hd.o_376 P) W.BT.nil W.BT.nil)))) (W.BT.node (hd.o_68 P) (W.BT.node (hd.o_88 P) (W.BT.node (hd.o_124 P) (W.BT.node (hd.o_188 P) W.BT.nil W.BT.nil) (W.BT.node (hd.o_334 P) W.BT.nil W.BT.nil)) (W.BT.node (hd.o_156 P) (W.BT.node (hd.o_302 P) W.BT.nil W.BT.nil) (W.BT.node (hd.o_368 P) W.BT.nil W.BT.nil))) (W.BT.node (hd.o_108 P) (W.BT.node (hd.o_140 P) (W.BT.node (hd.o_284 P) W.BT.nil W.BT.nil) (W.BT.node (hd.o_350 P) W.BT.nil W.BT.nil)) (W.BT.node (hd.o_172 P) (W.BT.node (hd.o_318 P) W.BT.nil W.BT.nil) W.BT.nil))))) (W.BT.node (hd.o_46 P) (W.BT.node (hd.o_50 P) (W.BT.node (hd.o_58 P) (W.BT.node (hd.o_78 P) (W.BT.node (hd.o_114 P) (W.BT.node (hd.o_178 P) W.BT.nil W.BT.nil) (W.BT.node (hd.o_324 P) W.BT.nil W.BT.nil)) (W.BT.node (hd.o_146 P) (W.BT.node (hd.o_290 P) W.BT.nil W.BT.nil) (W.BT.node (hd.o_356 P) W.BT.nil W.BT.nil))) (W.BT.node (hd.o_94 P) (W.BT.node (hd.o_130 P) (W.BT.node (hd.o_194 P) W.BT.nil W.BT.nil) (W.BT.node (hd.o_340 P) W.BT.nil W.BT.nil)) (W.BT.node (hd.o_162 P) (W.BT.node (hd.o_308 P) W.BT.nil W.BT.nil) (W.BT.node (hd.o_374 P) W.BT.nil W.BT.nil)))) (W.BT.node (hd.o_66 P) (W.BT.node (hd.o_86 P) (W.BT.node (hd.o_122 P) (W.BT.node (hd.o_186 P) W.BT.nil W.BT.nil) (W.BT.node (hd.o_332 P) W.BT.nil W.BT.nil)) (W.BT.node (hd.o_154 P) (W.BT.node (hd.o_300 P) W.BT.nil W.BT.nil) (W.BT.node (hd.o_366 P) W.BT.nil W.BT.nil))) (W.BT.node (hd.o_106 P) (W.BT.node (hd.o_138 P) (W.BT.node (hd.o_202 P) W.BT.nil W.BT.nil) (W.BT.node (hd.o_348 P) W.BT.nil W.BT.nil)) (W.BT.node (hd.o_170 P) (W.BT.node (hd.o_316 P) W.BT.nil W.BT.nil) W.BT.nil)))) (W.BT.node (hd.o_54 P) (W.BT.node (hd.o_62 P) (W.BT.node (hd.o_82 P) (W.BT.node (hd.o_118 P) (W.BT.node (hd.o_182 P) W.BT.nil W.BT.nil) (W.BT.node (hd.o_328 P) W.BT.nil W.BT.nil)) (W.BT.node (hd.o_150 P) (W.BT.node (hd.o_294 P) W.BT.nil W.BT.nil) (W.BT.node (hd.o_362 P) W.BT.nil W.BT.nil))) (W.BT.node (hd.o_102 P) (W.BT.node (hd.o_134 P) (W.BT.node (hd.o_198 P) W.BT.nil W.BT.nil) (W.BT.node (hd.o_344 P) W.BT.nil W.BT.nil)) (W.BT.node (hd.o_166 P) (W.BT.node (hd.o_312 P) W.BT.nil W.BT.nil) (W.BT.node (hd.o_378 P) W.BT.nil W.BT.nil)))) (W.BT.node (hd.o_358 P) (W.BT.node (hd.o_90 P) (W.BT.node (hd.o_126 P) (W.BT.node (hd.o_190 P) W.BT.nil W.BT.nil) (W.BT.node (hd.o_336 P) W.BT.nil W.BT.nil)) (W.BT.node (hd.o_158 P) (W.BT.node (hd.o_304 P) W.BT.nil W.BT.nil) (W.BT.node (hd.o_370 P) W.BT.nil W.BT.nil))) (W.BT.node (hd.o_110 P) (W.BT.node (hd.o_142 P) (W.BT.node (hd.o_286 P) W.BT.nil W.BT.nil) (W.BT.node (hd.o_352 P) W.BT.nil W.BT.nil)) (W.BT.node (hd.o_174 P) (W.BT.node (hd.o_320 P) W.BT.nil W.BT.nil) W.BT.nil)))))) (W.BT.node (hd.o_43 P) (W.BT.node (hd.o_45 P) (W.BT.node (hd.o_49 P) (W.BT.node (hd.o_57 P) (W.BT.node (hd.o_77 P) (W.BT.node (hd.o_113 P) (W.BT.node (hd.o_177 P) W.BT.nil W.BT.nil) (W.BT.node (hd.o_323 P) W.BT.nil W.BT.nil)) (W.BT.node (hd.o_145 P) (W.BT.node (hd.o_289 P) W.BT.nil W.BT.nil) (W.BT.node (hd.o_355 P) W.BT.nil W.BT.nil))) (W.BT.node (hd.o_93 P) (W.BT.node (hd.o_129 P) (W.BT.node (hd.o_193 P) W.BT.nil W.BT.nil) (W.BT.node (hd.o_339 P) W.BT.nil W.BT.nil)) (W.BT.node (hd.o_161 P) (W.BT.node (hd.o_307 P) W.BT.nil W.BT.nil) (W.BT.node (hd.o_373 P) W.BT.nil W.BT.nil)))) (W.BT.node (hd.o_65 P) (W.BT.node (hd.o_85 P) (W.BT.node (hd.o_121 P) (W.BT.node (hd.o_185 P) W.BT.nil W.BT.nil) (W.BT.node (hd.o_331 P) W.BT.nil W.BT.nil)) (W.BT.node (hd.o_153 P) (W.BT.node (hd.o_297 P) W.BT.nil W.BT.nil) (W.BT.node (hd.o_365 P) W.BT.nil W.BT.nil))) (W.BT.node (hd.o_105 P) (W.BT.node (hd.o_137 P) (W.BT.node (hd.o_201 P) W.BT.nil W.BT.nil) (W.BT.node (hd.o_347 P) W.BT.nil W.BT.nil)) (W.BT.node (hd.o_169 P) (W.BT.node (hd.o_315 P) W.BT.nil W.BT.nil) W.BT.nil)))) (W.BT.node (hd.o_53 P) (W.BT.node (hd.o_61 P) (W.BT.node (hd.o_81 P) (W.BT.node (hd.o_117 P) (W.BT.node (hd.o_181 P) W.BT.nil W.BT.nil) (W.BT.node (hd.o_327 P) W.BT.nil W.BT.nil)) (W.BT.node (hd.o_149 P) (W.BT.node (hd.o_293 P) W.BT.nil W.BT.nil) (W.BT.node (hd.o_361 P) W.BT.nil W.BT.nil))) (W.BT.node (hd.o_97 P) (W.BT.node (hd.o_133 P) (W.BT.node (hd.o_197 P) W.BT.nil W.BT.nil) (W.BT.node (hd.o_343 P) W.BT.nil W.BT.nil)) (W.BT.node (hd.o_165 P) (W.BT.node (hd.o_311 P) W.BT.nil W.BT.nil) (W.BT.node (hd.o_377 P) W.BT.nil W.BT.nil)))) (W.BT.node (hd.o_69 P) (W.BT.node (hd.o_89 P) (W.BT.node (hd.o_125 P) (W.BT.node (hd.o_189 P) W.BT.nil W.BT.nil) (W.BT.node (hd.o_335 P) W.BT.nil W.BT.nil)) (W.BT.node (hd.o_157 P) (W.BT.node (hd.o_303 P) W.BT.nil W.BT.nil) (W.BT.node (hd.o_369 P) W.BT.nil W.BT.nil))) (W.BT.node (hd.o_109 P) (W.BT.node (hd.o_141 P) (W.BT.node (hd.o_285 P) W.BT.nil W.BT.nil) (W.BT.node (hd.o_351 P) W.BT.nil W.BT.nil)) (W.BT.node (hd.o_173 P) (W.BT.node (hd.o_319 P) W.BT.nil W.BT.nil) W.BT.nil))))) (W.BT.node (hd.o_47 P) (W.BT.node (hd.o_51 P) (W.BT.node (hd.o_59 P) (W.BT.node (hd.o_79 P) (W.BT.node (hd.o_115 P) (W.BT.node (hd.o_179 P) W.BT.nil W.BT.nil) (W.BT.node (hd.o_325 P) W.BT.nil W.BT.nil)) (W.BT.node (hd.o_147 P) (W.BT.node (hd.o_291 P) W.BT.nil W.BT.nil) (W.BT.node (hd.o_359 P) W.BT.nil W.BT.nil))) (W.BT.node (hd.o_95 P) (W.BT.node (hd.o_131 P) (W.BT.node (hd.o_195 P) W.BT.nil W.BT.nil) (W.BT.node (hd.o_341 P) W.BT.nil W.BT.nil)) (W.BT.node (hd.o_163 P) (W.BT.node (hd.o_309 P) W.BT.nil W.BT.nil) (W.BT.node (hd.o_375 P) W.BT.nil W.BT.nil)))) (W.BT.node (hd.o_67 P) (W.BT.node (hd.o_87 P) (W.BT.node (hd.o_123 P) (W.BT.node (hd.o_187 P) W.BT.nil W.BT.nil) (W.BT.node (hd.o_333 P) W.BT.nil W.BT.nil)) (W.BT.node (hd.o_155 P) (W.BT.node (hd.o_301 P) W.BT.nil W.BT.nil) (W.BT.node (hd.o_367 P) W.BT.nil W.BT.nil))) (W.BT.node (hd.o_107 P) (W.BT.node (hd.o_139 P) (W.BT.node (hd.o_203 P) W.BT.nil W.BT.nil) (W.BT.node (hd.o_349 P) W.BT.nil W.BT.nil)) (W.BT.node (hd.o_171 P) (W.BT.node (hd.o_317 P) W.BT.nil W.BT.nil) W.BT.nil)))) (W.BT.node (hd.o_55 P) (W.BT.node (hd.o_63 P) (W.BT.node (hd.o_83 P) (W.BT.node (hd.o_119 P) (W.BT.node (hd.o_183 P) W.BT.nil W.BT.nil) (W.BT.node (hd.o_329 P) W.BT.nil W.BT.nil)) (W.BT.node (hd.o_151 P) (W.BT.node (hd.o_295 P) W.BT.nil W.BT.nil) (W.BT.node (hd.o_363 P) W.BT.nil W.BT.nil))) (W.BT.node (hd.o_103 P) (W.BT.node (hd.o_135 P) (W.BT.node (hd.o_199 P) W.BT.nil W.BT.nil) (W.BT.node (hd.o_345 P) W.BT.nil W.BT.nil)) (W.BT.node (hd.o_167 P) (W.BT.node (hd.o_313 P) W.BT.nil W.BT.nil) (W.BT.node (hd.o_379 P) W.BT.nil W.BT.nil)))) (W.BT.node (hd.o_71 P) (W.BT.node (hd.o_91 P) (W.BT.node (hd.o_127 P) (W.BT.node (hd.o_191 P) W.BT.nil W.BT.nil) (W.BT.node (hd.o_337 P) W.BT.nil W.BT.nil)) (W.BT.node (hd.o_159 P) (W.BT.node (hd.o_305 P) W.BT.nil W.BT.nil) (W.BT.node (hd.o_371 P) W.BT.nil W.BT.nil))) (W.BT.node (hd.o_111 P) (W.BT.node (hd.o_143 P) (W.BT.node (hd.o_287 P) W.BT.nil W.BT.nil) (W.BT.node (hd.o_353 P) W.BT.nil W.BT.nil)) (W.BT.node (hd.o_175 P) (W.BT.node (hd.o_321 P) W.BT.nil W.BT.nil) W.BT.nil)))))))
noncomputable def hd.heap_380 : Params → Heap := fun P => (Heap.mk #[(hd.o_41 P), (hd.o_42 P), (hd.o_43 P), (hd.o_357 P), (hd.o_45 P), (hd.o_46 P), (hd.o_47 P), (hd.o_48 P), (hd.o_49 P), (hd.o_50 P), (hd.o_51 P), (hd.o_52 P), (hd.o_53 P), (hd.o_54 P), (hd.o_55 P), (hd.o_56 P), (hd.o_57 P), (hd.o_58 P), (hd.o_59 P), (hd.o_60 P), (hd.o_61 P), (hd.o_62 P), (hd.o_63 P), (hd.o_64 P), (hd.o_65 P), (hd.o_66 P), (hd.o_67 P), (hd.o_68 P), (hd.o_69 P), (hd.o_358 P), (hd.o_71 P), (hd.o_72 P), (hd.o_77 P), (hd.o_78 P), (hd.o_79 P), (hd.o_80 P), (hd.o_81 P), (hd.o_82 P), (hd.o_83 P), (hd.o_84 P), (hd.o_85 P), (hd.o_86 P), (hd.o_87 P), (hd.o_88 P), (hd.o_89 P), (hd.o_90 P), (hd.o_91 P), (hd.o_92 P), (hd.o_93 P), (hd.o_94 P), (hd.o_95 P), (hd.o_96 P), (hd.o_97 P), (hd.o_102 P), (hd.o_103 P), (hd.o_104 P), (hd.o_105 P), (hd.o_106 P), (hd.o_107 P), (hd.o_108 P), (hd.o_109 P), (hd.o_110 P), (hd.o_111 P), (hd.o_112 P), (hd.o_113 P), (hd.o_114 P), (hd.o_115 P), (hd.o_116 P), (hd.o_117 P), (hd.o_118 P), (hd.o_119 P), (hd.o_120 P), (hd.o_121 P), (hd.o_122 P), (hd.o_123 P), (hd.o_124 P), (hd.o_125 P), (hd.o_126 P), (hd.o_127 P), (hd.o_128 P), (hd.o_129 P), (hd.o_130 P), (hd.o_131 P), (hd.o_132 P), (hd.o_133 P), (hd.o_134 P), (hd.o_135 P), (hd.o_136 P), (hd.o_137 P), (hd.o_138 P), (hd.o_139 P), (hd.o_140 P), (hd.o_141 P), (hd.o_142 P), (hd.o_143 P), (hd.o_144 P), (hd.o_145 P), (hd.o_146 P), (hd.o_147 P), (hd.o_148 P), (hd.o_149 P), (hd.o_150 P), (hd.o_151 P), (hd.o_152 P), (hd.o_153 P), (hd.o_154 P), (hd.o_155 P), (hd.o_156 P), (hd.o_157 P), (hd.o_158 P), (hd.o_159 P), (hd.o_160 P), (hd.o_161 P), (hd.o_162 P), (hd.o_163 P), (hd.o_164 P), (hd.o_165 P), (hd.o_166 P), (hd.o_167 P), (hd.o_168 P), (hd.o_169 P), (hd.o_170 P), (hd.o_171 P), (hd.o_172 P), (hd.o_173 P), (hd.o_174 P), (hd.o_175 P), (hd.o_176 P), (hd.o_177 P), (hd.o_178 P), (hd.o_179 P), (hd.o_180 P), (hd.o_181 P), (hd.o_182 P), (hd.o_183 P), (hd.o_184 P), (hd.o_185 P), (hd.o_186 P), (hd.o_187 P), (hd.o_188 P), (hd.o_189 P), (hd.o_190 P), (hd.o_191 P), (hd.o_192 P), (hd.o_193 P), (hd.o_194 P), (hd.o_195 P), (hd.o_196 P), (hd.o_197 P), (hd.o_198 P), (hd.o_199 P), (hd.o_200 P), (hd.o_201 P), (hd.o_202 P), (hd.o_203 P), (hd.o_284 P), (hd.o_285 P), (hd.o_286 P), (hd.o_287 P), (hd.o_288 P), (hd.o_289 P), (hd.o_290 P), (hd.o_291 P), (hd.o_292 P), (hd.o_293 P), (hd.o_294 P), (hd.o_295 P), (hd.o_296 P), (hd.o_297 P), (hd.o_300 P), (hd.o_301 P), (hd.o_302 P), (hd.o_303 P), (hd.o_304 P), (hd.o_305 P), (hd.o_306 P), (hd.o_307 P), (hd.o_308 P), (hd.o_309 P), (hd.o_310 P), (hd.o_311 P), (hd.o_312 P), (hd.o_313 P), (hd.o_314 P), (hd.o_315 P), (hd.o_316 P), (hd.o_317 P), (hd.o_318 P), (hd.o_319 P), (hd.o_320 P), (hd.o_321 P), (hd.o_322 P), (hd.o_323 P), (hd.o_324 P), (hd.o_325 P), (hd.o_326 P), (hd.o_327 P), (hd.o_328 P), (hd.o_329 P), (hd.o_330 P), (hd.o_331 P), (hd.o_332 P), (hd.o_333 P), (hd.o_334 P), (hd.o_335 P), (hd.o_336 P), (hd.o_337 P), (hd.o_338 P), (hd.o_339 P), (hd.o_340 P), (hd.o_341 P), (hd.o_342 P), (hd.o_343 P), (hd.o_344 P), (hd.o_345 P), (hd.o_346 P), (hd.o_347 P), (hd.o_348 P), (hd.o_349 P), (hd.o_350 P), (hd.o_351 P), (hd.o_352 P), (hd.o_353 P), (hd.o_354 P), (hd.o_355 P), (hd.o_356 P), (hd.o_359 P), (hd.o_360 P), (hd.o_361 P), (hd.o_362 P), (hd.o_363 P), (hd.o_364 P), (hd.o_365 P), (hd.o_366 P), (hd.o_367 P), (hd.o_368 P), (hd.o_369 P), (hd.o_370 P), (hd.o_371 P), (hd.o_372 P), (hd.o_373 P), (hd.o_374 P), (hd.o_375 P), (hd.o_376 P), (hd.o_377 P), (hd.o_378 P), (hd.o_379 P)] (Life.mk [] [] [] 0 [] [] false #[] [] 0 false false false 0 [2000, 10, 10] false 0 true [] [] 0 false))
noncomputable def hd.tree_op : Params → BT := fun P => (BT.node (hd.o_41 P) (BT.node (hd.o_42 P) (BT.node (hd.o_44 P) (BT.node (hd.o_48 P) (BT.node (hd.o_56 P) BT.nil BT.nil) (BT.node (hd.o_64 P) BT.nil BT.nil)) (BT.node (hd.o_442 P) (BT.node (hd.o_60 P) BT.nil BT.nil) (BT.node (hd.o_68 P) BT.nil BT.nil))) (BT.node (hd.o_46 P) (BT.node (hd.o_50 P) (BT.node (hd.o_58 P) BT.nil BT.nil) (BT.node (hd.o_66 P) BT.nil BT.nil)) (BT.node (hd.o_54 P) (BT.node (hd.o_62 P) BT.nil BT.nil) BT.nil))) (BT.node (hd.o_43 P) (BT.node (hd.o_45 P) (BT.node (hd.o_49 P) (BT.node (hd.o_57 P) BT.nil BT.nil) (BT.node (hd.o_65 P) BT.nil BT.nil)) (BT.node (hd.o_53 P) (BT.node (hd.o_61 P) BT.nil BT.nil) BT.nil)) (BT.node (hd.o_47 P) (BT.node (hd.o_51 P) (BT.node (hd.o_59 P) BT.nil BT.nil) (BT.node (hd.o_67 P) BT.nil BT.nil)) (BT.node (hd.o_55 P) (BT.node (hd.o_63 P) BT.nil BT.nil) BT.nil))))
abbrev p0 : Pos := ⟨0, 0, 0, 0⟩
noncomputable def hd.env : Env := { scope := tP.main.scope, locals := mainNs, globals := mainNs, cells := [], code := .ref 30, frame := some 31 }
noncomputable abbrev hd.code : Code := .body (behindTheImports tP) hd.env
noncomputable abbrev hd.sts (l : List Nat) : List Stmt := l.filterMap (kGet tP.main.body)
noncomputable abbrev hd.st (t : BT) (n k : Nat) (os : OsState) : SharedT := ⟨t, n, {}, #[], {}, k, os⟩
noncomputable abbrev hd.piece (l : List Nat) (q : Pos) : Thread := piecesOf (hd.sts l) hd.env hd.code q [topFrame p0]
theorem hd.sPre (w : World) : (fun os => topGo treeTable tP w 28 (some (.ref 6)) 12 ⟨hd.heap_68 w.params, #[], {}, 276, os⟩ (topStub tP)) = fun os => some (⟨hd.heap_72 w.params, #[], {}, 282, os⟩, ⟨denote treeTable hd.code, hd.code, p0, [topFrame p0]⟩) := by kernel_rfl
theorem hd.sBlock (w : World) : (fun os => segRun treeTable tP w 28 (some (.ref 6)) 1 1 ⟨hd.heap_72 w.params, #[], {}, 282, os⟩ (blockOf (behindTheImports tP) hd.env hd.code p0 [topFrame p0])) = fun os => some (Flow.next, (hd.st (hd.tree_73 w.params) 32 282 os).abs, hd.code, p0) := by kernel_rfl
def hd.IsA (run : (String → Option Builtin) → Program → World → Nat → Option Value → Nat → Nat → SharedT → Thread → Option (Flow × SharedT × Code × Pos)) (tb : String → Option Builtin) (w : World) : Prop := (fun os => run tb tP w 28 (some (.ref 6)) 1 291 (hd.st (hd.tree_73 w.params) 32 282 os) (hd.piece [1, 2, 3, 4, 5, 6] p0)) = fun os => some (Flow.next, hd.st (hd.tree_97 w.params) 53 360 os, hd.code, ⟨10, 0, 10, 23⟩)
theorem hd.sAf (w : World) : hd.IsA segRunT treeTable (w.withFollow "special-get-raises" false) := by
  rw [Fast.te10110043849684766642, Fast.te14364793385576792824]
  unfold hd.IsA
  kernel_rfl
theorem hd.sAt (w : World) : hd.IsA segRunT treeTable (w.withFollow "special-get-raises" true) := by
  rw [Fast.te10110043849684766642, Fast.te14364793385576792824]
  unfold hd.IsA
  kernel_rfl
theorem hd.sA (w : World) : hd.IsA segRunT treeTable w := by
  have e := World.withFollow_self w "special-get-raises"
  cases hb : w.params.followText "special-get-raises" <;> rw [hb] at e
  · rw [← e]; exact hd.sAf w
  · rw [← e]; exact hd.sAt w
theorem hd.sBQ (w : World) : (fun os => Fast.tw10110043849684766642 Fast.tw14364793385576792824 tP w 28 (some (.ref 6)) 1 661 (hd.st (hd.tree_97 w.params) 53 360 os) (hd.piece [7] ⟨10, 0, 10, 23⟩)) = fun os => some (Flow.next, hd.st (hd.tree_203 w.params) 155 525 os, hd.code, ⟨11, 0, 179, 16⟩) := by kernel_rfl
theorem hd.sB (w : World) : (fun os => segRunT treeTable tP w 28 (some (.ref 6)) 1 661 (hd.st (hd.tree_97 w.params) 53 360 os) (hd.piece [7] ⟨10, 0, 10, 23⟩)) = fun os => some (Flow.next, hd.st (hd.tree_203 w.params) 155 525 os, hd.code, ⟨11, 0, 179, 16⟩) := by
  have h := hd.sBQ w
  rw [← Fast.te10110043849684766642, ← Fast.te14364793385576792824] at h
  exact h
theorem hd.sCQ (w : World) : (fun os => Fast.tw10110043849684766642 Fast.tw14364793385576792824 tP w 28 (some (.ref 6)) 1 68 (hd.st (hd.tree_203 w.params) 155 525 os) (hd.piece [8, 9, 10] ⟨11, 0, 179, 16⟩)) = fun os => some (Flow.next, hd.st (hd.tree_297 w.params) 169 541 os, hd.code, ⟨210, 0, 210, 8⟩) := by kernel_rfl
theorem hd.sC (w : World) : (fun os => segRunT treeTable tP w 28 (some (.ref 6)) 1 68 (hd.st (hd.tree_203 w.params) 155 525 os) (hd.piece [8, 9, 10] ⟨11, 0, 179, 16⟩)) = fun os => some (Flow.next, hd.st (hd.tree_297 w.params) 169 541 os, hd.code, ⟨210, 0, 210, 8⟩) := by
  have h := hd.sCQ w
  rw [← Fast.te10110043849684766642, ← Fast.te14364793385576792824] at h
  exact h
theorem hd.sDQ (w : World) : (fun os => Fast.tw10110043849684766642 Fast.tw14364793385576792824 tP w 28 (some (.ref 6)) 1 401 (hd.st (hd.tree_297 w.params) 169 541 os) (hd.piece [11, 12, 13] ⟨210, 0, 210, 8⟩)) = fun os => some (Flow.next, hd.st (hd.tree_356 w.params) 226 622 os, hd.code, ⟨235, 0, 251, 16⟩) := by kernel_rfl
theorem hd.sD (w : World) : (fun os => segRunT treeTable tP w 28 (some (.ref 6)) 1 401 (hd.st (hd.tree_297 w.params) 169 541 os) (hd.piece [11, 12, 13] ⟨210, 0, 210, 8⟩)) = fun os => some (Flow.next, hd.st (hd.tree_356 w.params) 226 622 os, hd.code, ⟨235, 0, 251, 16⟩) := by
  have h := hd.sDQ w
  rw [← Fast.te10110043849684766642, ← Fast.te14364793385576792824] at h
  exact h
theorem hd.sEQ (w : World) : (fun os => Fast.tw10110043849684766642 Fast.tw14364793385576792824 tP w 28 (some (.ref 6)) 1 108 (hd.st (hd.tree_356 w.params) 226 622 os) (hd.piece [14, 15, 16] ⟨235, 0, 251, 16⟩)) = fun os => some (Flow.next, hd.st (hd.tree_379 w.params) 247 663 os, hd.code, ⟨265, 0, 286, 34⟩) := by kernel_rfl
theorem hd.sE (w : World) : (fun os => segRunT treeTable tP w 28 (some (.ref 6)) 1 108 (hd.st (hd.tree_356 w.params) 226 622 os) (hd.piece [14, 15, 16] ⟨235, 0, 251, 16⟩)) = fun os => some (Flow.next, hd.st (hd.tree_379 w.params) 247 663 os, hd.code, ⟨265, 0, 286, 34⟩) := by
  have h := hd.sEQ w
  rw [← Fast.te10110043849684766642, ← Fast.te14364793385576792824] at h
  exact h
theorem hd.sFin (w : World) : (fun os => topRun treeTable tP w 28 (some (.ref 6)) 2 (hd.st (hd.tree_379 w.params) 247 663 os).abs ⟨doneF Flow.next, hd.code, ⟨265, 0, 286, 34⟩, [topFrame p0]⟩) = fun os => some ⟨hd.heap_380 w.params, #[], {}, 663, os⟩ := by kernel_rfl
theorem hd.body : behindTheImports tP = hd.sts [1, 2, 3, 4, 5, 6] ++ (hd.sts [7] ++ (hd.sts [8, 9, 10] ++ (hd.sts [11, 12, 13] ++ (hd.sts [14, 15, 16] ++ [])))) := by kernel_rfl
theorem hd.run (w : World) (os : OsState) : topRun treeTable tP w 28 (some (.ref 6)) (12 + (1 + (291 + (661 + (68 + (401 + (108 + 2))))))) ⟨hd.heap_68 w.params, #[], {}, 276, os⟩ (topStub tP) = some ⟨hd.heap_380 w.params, #[], {}, 663, os⟩ := by
  refine go_top (congrFun (hd.sPre w) os) (piece_block (congrFun (hd.sBlock w) os) ?_)
  rw [show restOf (behindTheImports tP) hd.env hd.code p0 [topFrame p0] = restOf (hd.sts [1, 2, 3, 4, 5, 6] ++ (hd.sts [7] ++ (hd.sts [8, 9, 10] ++ (hd.sts [11, 12, 13] ++ (hd.sts [14, 15, 16] ++ []))))) hd.env hd.code p0 [topFrame p0] from congrArg (fun b => restOf b hd.env hd.code p0 [topFrame p0]) hd.body]
  exact piece_app (segRun_of (congrFun (hd.sA w) os)) (piece_app (segRun_of (congrFun (hd.sB w) os)) (piece_app (segRun_of (congrFun (hd.sC w) os)) (piece_app (segRun_of (congrFun (hd.sD w) os)) (piece_app (segRun_of (congrFun (hd.sE w) os)) (piece_nil (congrFun (hd.sFin w) os))))))
def impEnd (r : SharedT × Thread) : Option SharedT := match r.2.atExitBegin with
  | some [] => some r.1
  | _ => none
theorem impEnd_ends {tb : String → Option Builtin} {p : Program} {w : World} {r : SharedT × Thread} {s : SharedT} (h : impEnd r = some s) : importEnds tb p w 1 r.1.abs r.2 = some s.abs := by
  unfold impEnd at h
  unfold importEnds
  cases e : r.2.atExitBegin with
  | none => rw [e] at h; cases h
  | some l =>
    rw [e] at h
    cases l with
    | nil => cases h; rfl
    | cons _ _ => cases h
theorem hd.impQ (w : World) : (fun os => (Fast.tw14789777615569096658 Fast.tw14364793385576792824 (opening tP) w 798 (hd.st BT.nil 0 1 os) (Fast.tw1435165496053646825 (opening tP)).2).bind impEnd) = fun os => some (hd.st (hd.tree_op w.params) 28 276 os) := by kernel_rfl
theorem hd.imp (w : World) (os : OsState) : importEnds treeTable (opening tP) w (798 + 1) (hd.st BT.nil 0 1 os).abs (start (opening tP)).2 = some (hd.st (hd.tree_op w.params) 28 276 os).abs := by
  have h := congrFun (hd.impQ w) os
  rw [← Fast.te14789777615569096658, ← Fast.te14364793385576792824, ← Fast.te1435165496053646825] at h
  obtain ⟨r, h1, h2⟩ := Option.bind_eq_some_iff.mp h
  exact imp_go (impGo_of h1) (impEnd_ends h2)
theorem hd.start_eq : (start (opening tP)).1 = (hd.st BT.nil 0 1 (start (opening tP)).1.os).abs := by kernel_rfl
theorem hd.fence (w : World) : (fun os => (fenceModules? tP ⟨absHeap (hd.tree_op w.params) 28 {}, #[], {}, 276, os⟩).map (fun s => (s.heap, s.gens, s.drawn, s.toks))) = fun _ => some (hd.heap_68 w.params, #[], {}, 276) := by kernel_rfl
theorem hd.open_ (w : World) : (fencedOpening treeTable tP w 3174).map (fun s => (s.heap, s.gens, s.drawn, s.toks)) = some (hd.heap_68 w.params, #[], {}, 276) :=
  open_cut (M := 798 + 1) (He := fun P => absHeap (hd.tree_op P) 28 {}) (fun w => (congrArg (fun s => importEnds treeTable (opening tP) w (798 + 1) s (start (opening tP)).2) hd.start_eq).trans (hd.imp w (start (opening tP)).1.os)) (by decide) hd.fence w
theorem hd.size (w : World) : ((hd.heap_68 w.params).isNs mainGlobals && (#[] : Array GenState).size == 0, (hd.heap_68 w.params).objs.size, (hd.heap_68 w.params).nsMap mainGlobals "__annotations__") = (true, 28, some (.ref 6)) := by kernel_rfl
theorem hd.looks (w : World) : (fun os => ((staticsOk (importedModules tP.main.body) (hd.heap_68 w.params) (hd.heap_380 w.params) && namesBound tP (hd.heap_380 w.params) && gensDone ⟨hd.heap_380 w.params, #[], {}, 663, os⟩ && laidKept (hd.heap_68 w.params) (hd.heap_380 w.params)),
        openSeen hd.view_39 hd.loose (importedModules tP.main.body) hd.xt true ⟨hd.heap_380 w.params, #[], {}, 663, os⟩, hd.hook.obs ⟨hd.heap_380 w.params, #[], {}, 663, os⟩)) = fun _ => (true, openGood hd.view_39 hd.loose, hd.hook.val w) := by kernel_rfl
theorem hd.left : LeftO PySem.Challenge.rw_pg0323_01.row.prog hd.view_39 hd.loose hd.xt hd.hook.obs hd.hook.val 3174 :=
  LeftO.of_pieces hd.open_ hd.size hd.run (by decide) hd.looks
end Mine
end
section
open PySem PySem.W PyProof.Rows
set_option autoImplicit false
namespace Mine
set_option maxRecDepth 1000000
set_option maxHeartbeats 4000000
theorem hd.look_a : sreFenced tP.main = true := by kernel_rfl
theorem hd.look_b : ((moduleNames tP.main.body).isEmpty || lookedIntoSs (moduleNames tP.main.body) tP.main.body) = true := by kernel_rfl
theorem hd.look_cQ : Fast.tw8377067652309620493 tP = true := by kernel_rfl
theorem hd.look_c : namesResolve tP = true := (congrFun Fast.te8377067652309620493 _).trans hd.look_cQ
theorem hd.look_d : (tP.boundNames.all fun n => !worldNames.contains n) = true := by kernel_rfl
theorem hd.look_bare : List.filter (readsOut tP tP.main.body) [Str.ofString "vars", Str.ofString "dir", Str.ofString "locals"] = [] := by kernel_rfl
theorem hd.look_strict : (!(importedModules tP.main.body).all cThrough.contains) = false := by kernel_rfl
theorem hd.look_eQ : Fast.tw8326940854005059898 { strict := false, foot := none, bare := [] } tP.main.body = true := by kernel_rfl
theorem hd.look_e : noRoadLSs { strict := !(importedModules tP.main.body).all cThrough.contains, foot := none, bare := List.filter (readsOut tP tP.main.body) [Str.ofString "vars", Str.ofString "dir", Str.ofString "locals"] } tP.main.body = true := by
  rw [hd.look_bare, hd.look_strict]
  exact (congrFun (congrFun Fast.te8326940854005059898 _) _).trans hd.look_eQ
theorem hd.look_f : (namesMeet tP tP.main.body fun _ n => attrL n) = true := by kernel_rfl
theorem hd.look_looks : looksOpen tP = true := by
  unfold looksOpen
  exact look_both (look_both (look_both (look_both (look_both hd.look_a hd.look_b) hd.look_c) hd.look_d) hd.look_e) hd.look_f
theorem hd.look_part : PySem.Challenge.rw_pg0323_01.row.partSaid = true := by
  unfold OpenRow.partSaid
  rw [show looksOpen PySem.Challenge.rw_pg0323_01.row.prog = true from hd.look_looks]
  kernel_rfl
theorem hd.look_row : PySem.Challenge.rw_pg0323_01.row.wellSaid = true := by
  unfold OpenRow.wellSaid
  rw [hd.look_part]
  kernel_rfl
theorem hd.said : PySem.Challenge.rw_pg0323_01.wellSaid = true := by
  unfold OpenLaw.wellSaid
  rw [hd.look_row]
  kernel_rfl
theorem hd.bareOk : (chainsOk hd.view_39 && opensWell PySem.Challenge.rw_pg0323_01.row.prog && (frees PySem.Challenge.rw_pg0323_01.row.toRowW && PySem.Challenge.rw_pg0323_01.row.within.isEmpty)) = true := by
  kernel_rfl
theorem hd0 {d : DefRec} {kwd : List (Str × Expr)} (hdef : defOf hd.view_39 PySem.Challenge.rw_pg0323_01.row.name = some (d, kwd)) (hp : PySem.Challenge.rw_pg0323_01.row.prog.theDef PySem.Challenge.rw_pg0323_01.row.name = some (d.params, d.body, d.scope)) (hk : kwWritten? d.params.kwonlyargs d.params.kw_defaults = some kwd)
    (hw : PySem.Challenge.rw_pg0323_01.row.toRowW.promised)
    (call : WalkO hd.view_39 hd.loose (XL hd.view_39 []) hd.hook.says PySem.Challenge.rw_pg0323_01.row.toRowW d kwd fun f vs => PySem.call f vs) : PySem.Challenge.rw_pg0323_01.Holds := by
  refine holds_law hd.said fun said => ?_
  refine holds_open (q := hd.view_39) (loose := hd.loose) (Xt := hd.xt) (XP := XL hd.view_39 []) (Yf := hd.hook.obs) (Ya := hd.hook.val) (YP := hd.hook.says) (N := 3174) hd.left (Hook.of hd.hook) (Hook.keeps hd.hook) (fun s e => xl_of s (Bool.and_eq_true_iff.mp e).1) XL.keeps hdef hp hk (fun s e => recFacts_of (Bool.and_eq_true_iff.mp e).2) (by rfl) said hd.bareOk ⟨rfl, rfl, rfl, rfl, rfl, by decide +kernel⟩ hw call
end Mine
end
section
open PySem PySem.W PyProof.Rows
set_option autoImplicit false
namespace Mine
set_option maxRecDepth 100000
set_option maxHeartbeats 8000000
/-- what the law's call must come to -/
def EndTrue (tabs : List (Addr × Addr)) (s₁ : Shared) (r : Result) (s' : Shared) : Prop :=
  r = .ok (.ret (.bool true)) ∧ (∀ b o, (ghostOf s₁.heap tabs).get? b = some o → s'.heap.get? b = some o) ∧ s'.os = s₁.os ∧ AllBare s'.gens ∧ GrownAll tabs s'.heap
theorem post_true {M : Model} {A : Around} {cd : Code} {s s₁ : Shared} {cw : ClaimW} {cl : Str → Option Addr} {mean : ExcName → Option Value} {args : List WData} {tabs : List (Addr × Addr)} (hT : TabsAt tabs s₁.heap) (hr : ∀ x, cw.raises args x = false)
    (hp : cw.post args (.bool true) args = true) (h : codeAny M A cd (EndTrue tabs s₁) s) : codeAny M A cd (GoodWG cw cl mean args s₁) s := by
  refine codeAny_mono h fun r s' he => ?_
  obtain ⟨rfl, hk, hos, hg, hgr⟩ := he
  refine ⟨.inl ⟨.bool true, .bool true, [], rfl, hr, .bool _, hp, fun _ => ⟨List.nodup_nil, fun _ ha => nomatch ha⟩⟩, ⟨fun b o e => ?_, fun b o e => ?_⟩, hos, hg⟩
  · by_cases hb : b ∈ tabs.map (·.2)
    · obtain ⟨q, hq, rfl⟩ := List.mem_map.mp hb
      obtain ⟨ps, hP⟩ := hgr.get q hq
      have e2 := (hT q hq).2
      rw [e] at e2
      cases e2
      exact .inr (.inl ⟨((hT q hq).1.tab (hT q hq).2).isCodeTable, rfl, #[], ps, rfl, by rw [Array.empty_append]; exact hP⟩)
    · exact .inl (hk b o (ghost_ne e hb))
  · by_cases hb : b ∈ tabs.map (·.2)
    · obtain ⟨q, hq, rfl⟩ := List.mem_map.mp hb
      obtain ⟨ps, hP⟩ := hgr.get q hq
      exact ⟨_, hP⟩
    · exact ⟨o, hk b o (ghost_ne e hb)⟩
end Mine
end
section
open PySem PySem.W PyProof.Rows PySem.W.X
set_option pp.deepTerms false
set_option pp.proofs false
namespace Mine
set_option maxRecDepth 100000
set_option maxHeartbeats 8000000
abbrev lawProg : Program := PySem.Challenge.rw_pg0323_01.row.prog
abbrev LM (w : World) : Model := model lawProg w
section
variable {w : World} {A : Around} {c : Code} {fs : List Frame} {P : End → Shared → Prop} {s : Shared}
theorem sx_wrap {α : Type} {m : Sem α} {K : α → Sem Fin} {H : Value → Sem Fin} {gd lv}
    (h : wpAny (LM w) (A.over c fs) m (fun a s' => SegX (LM w) A c (K a) fs s' P) (fun x s' => SegX (LM w) A c (H x) fs s' P) s) :
    SegX (LM w) A c (m.wrap K H gd lv) fs s P := by
  rintro Γ p rfl hΓ
  obtain ⟨e, s', hr, hq⟩ := runs_wrap_of_wp (Φ := fun e s' => e.quiet = true ∧ P e s') K H gd lv m (h (Γ.over fs) p (hΓ.over fs)) (fun a p' s' h' => h' Γ p' rfl hΓ) (fun x p' s' h' => h' Γ p' rfl hΓ)
  exact ⟨e, s', hr, hq⟩
theorem sx_bind {α β : Type} {m : Sem α} {f : α → Sem β} {K : β → Sem Fin} {H : Value → Sem Fin} {gd lv}
    (h : wpAny (LM w) (A.over c fs) m (fun a s' => SegX (LM w) A c ((f a).wrap K H gd lv) fs s' P) (fun x s' => SegX (LM w) A c (H x) fs s' P) s) :
    SegX (LM w) A c ((m >>= f).wrap K H gd lv) fs s P := by
  rw [Sem.bind_eq_wrap', Sem.wrap_wrap]
  exact sx_wrap h
theorem sx_bind0 {α : Type} {m : Sem α} {f : α → Sem Fin}
    (h : wpAny (LM w) (A.over c fs) m (fun a s' => SegX (LM w) A c (f a) fs s' P) (fun x s' => SegX (LM w) A c (.raise x) fs s' P) s) :
    SegX (LM w) A c (m >>= f) fs s P := by
  rw [Sem.bind_eq_wrap']
  exact sx_wrap h
theorem sx_at {p' : Pos} {k : Unit → Sem Fin} (h : SegX (LM w) A c (k ()) fs s P) : SegX (LM w) A c (.at p' k) fs s P :=
  sx_wrap (m := standAt p') (K := k) (H := .raise) (gd := id) (lv := id) (wpAny_standAt h)
theorem sx_point {l : List Value} {k : Unit → Sem Fin} (h : SegX (LM w) A c (k ()) fs s P) : SegX (LM w) A c (.point l k) fs s P :=
  sx_wrap (m := point) (K := k) (H := .raise) (gd := id) (lv := fun _ => l) (wpAny_point h)
theorem sx_call {c' : Code} {h g l} {k : Result → Sem Fin} (hc : ∀ p, SegX (LM w) A c' ((LM w).den c') (.ret k h g l c p [] :: fs) s P) :
    SegX (LM w) A c (.call c' h g l k) fs s P := s_call lawProg w A c fs P s c' h g l k hc
theorem sx_leaf {k h g l c₁ p₁ kp} (r : Result) (hk : SegX (LM w) A c₁ (k r) fs s P) : SegX (LM w) A c (leafOf r) (.ret k h g l c₁ p₁ kp :: fs) s P := by
  rintro Γ p rfl hΓ
  obtain ⟨e, s', hr, hq⟩ := hk (Γ.goto c₁) p₁ rfl (hΓ.goto c₁)
  exact ⟨e, s', Runs.pop r hr, hq⟩
theorem sx_again {c' : Code} (hq : c'.quiet = true) (hc : SegX (LM w) A c' ((LM w).den c') fs s P) : SegX (LM w) A c (.pure (.again c')) fs s P := by
  rintro Γ p rfl hΓ
  obtain ⟨e, s', hr, he⟩ := hc (Γ.goto c') p rfl (hΓ.goto c')
  exact ⟨e, s', Runs.head (c₁ := c') (fun _ _ x => .again hq x) hr, he⟩
theorem sx_end (r : Result) (h : P (.ret r) s) : SegX (LM w) A c (leafOf r) [] s P := by
  rintro Γ p rfl _
  exact ⟨.ret r, s, Runs.leaf r, rfl, h⟩
theorem sx_yield {v l} {k : Resume → Sem Fin} (hfs : splitAtGen fs = none) (hfg : fs.any Frame.guarded = false)
    (h : ∀ p, P (.susp v false l k c p fs) s) : SegX (LM w) A c (.yield v false l k) fs s P := by
  rintro Γ p rfl _
  exact ⟨_, s, Runs.yield' fs hfs, by simp [End.quiet, hfg], h p⟩
theorem sx_runOwn {code : Code} {env : Env} {K : Flow → Sem Fin} {H : Value → Sem Fin} {gd lv}
    (h : ∀ p, SegX (LM w) A code ((LM w).den code) (.ret (fun r => ((match r with | .ok f => (.pure f : Sem Flow) | .error e => .raise e).onRaise fun (x : Value) => do
        if (← field x 1) == Value.none then unsupported "frame.own-activation:exception-without-traceback"
        setFlight x env.frame).wrap K H gd lv) none (gd false) (lv []) c p [] :: fs) s P) :
    SegX (LM w) A c ((runOwn code env).wrap K H gd lv) fs s P := sx_call h
theorem sx_runValue {code : Code} {K : Value → Sem Fin} {H : Value → Sem Fin} {gd lv}
    (h : ∀ p, SegX (LM w) A code ((LM w).den code) (.ret (fun r => (((match r with | .ok f => (.pure f : Sem Flow) | .error e => .raise e) >>= fun (f : Flow) => match f with | .ret v => (pure v : Sem Value) | _ => unsupported "internal:call-without-return-value")).wrap K H gd lv) none (gd false) (lv []) c p [] :: fs) s P) :
    SegX (LM w) A c ((runValue code).wrap K H gd lv) fs s P := sx_call h
/-- the state of a generator, woken -/
def GoesX (w : World) (A : Around) (gs : GenState) (s : Shared) (P : End → Shared → Prop) : Prop :=
  match gs with
  | .fresh c => SegX (LM w) A c ((LM w).den c) [] s P
  | .suspended k _ c _ fs _ => SegX (LM w) A c (k (.send .none)) fs s P
  | _ => False
theorem wpAny_resumeX {α : Type} {Q : α → Shared → Prop} {E : Value → Shared → Prop} {g : Nat} {gs : GenState} {l : List Value} {k : GenResult → Sem α}
    (hg : s.gens[g]? = some gs) (h : GoesX w A gs (s.setGen g .running) (fun e s₁ => wpAny (LM w) A (k e.result) Q E (s₁.setGen g e.genState))) :
    wpAny (LM w) A (.resume g (.send .none) l k) Q E s := by
  cases gs with
  | fresh c => exact fun Γ p hΓ => wake_any α lawProg w hg (.inl ⟨rfl, rfl, rfl, rfl⟩) (fun Γ => Γ.In A) (fun _ h => h) h Γ p hΓ
  | suspended k₀ l₀ c₀ p₀ fs₀ cl => exact fun Γ p hΓ => wake_any α lawProg w hg (.inr ⟨k₀, l₀, p₀, cl, rfl, rfl⟩) (fun Γ => Γ.In A) (fun _ h => h) h Γ p hΓ
  | running => exact h.elim
  | finished => exact h.elim
theorem wpAny_pyNext_genX {a : Addr} {g : Nat} {gs : GenState} {Q : Option Value → Shared → Prop} {E : Value → Shared → Prop} (hh : A.handled = none)
    (hl : s.heap.NoLimit) (hroom : A.depth < recursionLimit)
    (hg : s.heap.IsGen a g) (hgs : s.gens[g]? = some gs)
    (hgo : GoesX w A.in1 gs (s.setGen g .running) (fun e s₁ => match e with
      | .ret r => r = .ok (.ret .none) ∧ ∀ h', (∀ b o, s₁.heap.get? b = some o → h'.get? b = some o) → Q none { s₁.setGen g .finished with heap := h' }
      | .susp v gd l k c p fs => Q (some v) (s₁.setGen g (End.susp v gd l k c p fs).genState))) :
    wpAny (LM w) A (pyNext (.ref a)) Q E s := by
  unfold pyNext
  refine wpAny_bind (wpAny_attempt (wpAny_callSpecial?_slot (name := Str.ofString "__next__") hg.typeIs slot_gen_next
    (wpAny_call_entry slot_gen_next hg.typeIs entry_gen_next ?_ (args_gen_next _))))
  show wpAny _ A.in1 (Builtin.Generator.genWake (.ref a) (.send .none)) _ _ s
  unfold Builtin.Generator.genWake
  refine wpAny_bind (wpAny_holding (wpAny_genNumber hg (wpAny_bind (wpAny_genState hgs ?_))))
  cases gs with
  | running => exact hgo.elim
  | finished => exact hgo.elim
  | _ =>
    refine wpAny_bind (wpAny_roomToWake hl hroom ?_)
    show wpAny _ A.in1 (.resume g (.send .none) [] _) _ _ s
    refine wpAny_resumeX hgs ?_
    refine SegX.mono hgo fun e s₁ he => ?_
    cases e with
    | ret r =>
      obtain ⟨rfl, hp⟩ := he
      show wpAny _ A.in1 (newExc (.type "StopIteration") [] >>= _) _ _ _
      refine wpAny_bind ?_
      simp only [newExc, newTuple]
      refine wpAny_bind (wpAny_newObj_type ?_ (by size_fits))
      refine wpAny_bind (m := firstArgMember _ _) (wpAny_of_eq (a := Value.none) (by first | rfl | (simp only [firstArgMember]; rfl)) ?_)
      refine wpAny_newObj_type ?_ (by size_fits)
      simp only [raiseNew]
      refine wpAny_bind (wpAny_bind (wpAny_handled ?_))
      first | rw [show A.in1.handled = none from hh] | rw [hh]
      refine wpAny_throw ?_
      refine wpAny_bind (wpAny_isInstance (T := "StopIteration") (b := true) ⟨_, Heap.get?_push_size _ rfl, rfl⟩ isSubtype_stop ?_)
      exact wpAny_pure (hp _ fun b o hb => Heap.get?_push_of_some _ (Heap.get?_push_of_some _ hb))
    | susp v gd l k c p fs => exact wpAny_pure ⟨v, rfl, wpAny_pure he⟩
end
end Mine
end
section
open PySem PySem.W PyProof.Rows PySem.W.X
set_option pp.deepTerms false
set_option pp.proofs false
namespace Mine
set_option maxRecDepth 100000
set_option maxHeartbeats 8000000
theorem entry_yf : entryFor table "proto.yield_from" = some Builtin.«proto.yield_from» := entryFor_of_tree (by kernel_rfl)
abbrev yfC (I : Addr) : Code := .builtin "proto.yield_from" ⟨[.ref I, .bool false, .none], []⟩
theorem den_b (w : World) {id : String} {args : Args} {b : Builtin} (h : entryFor table id = some b) : (LM w).den (.builtin id args) = b args := by
  show (match entryFor table id with | some b => b args | none => unsupported ((withoutEnding? id "#data").getD id)) = _
  rw [h]
theorem den_yf (w : World) (I : Addr) : (LM w).den (yfC I) = Builtin.«proto.yield_from» ⟨[.ref I, .bool false, .none], []⟩ := den_b w entry_yf
section
variable {w : World} {A : Around} {E : Value → Shared → Prop} {s : Shared}
theorem callNext_item {it l : Addr} {i : Nat} {items} {x : Value} {Q : Option Value → Shared → Prop} (hit : s.heap.IsListIter it l i)
    (hl : s.heap.IsList l items) (hx : items[i]? = some x)
    (hQ : ∀ h', h'.IsListIter it l (i + 1) → Heap.SameBut it s.heap h' → Q (some x) { s with heap := h' }) :
    wpAny (LM w) A (callSpecial? (.ref it) (Str.ofString "__next__")) Q E s := by
  obtain ⟨o, ho, hc, hd⟩ := id hit
  obtain ⟨ol, hol, _, nl, hdl⟩ := hl
  refine wpAny_callSpecial?_slot (name := Str.ofString "__next__") hit.typeIs slot_listiter_next
    (wpAny_call_entry slot_listiter_next hit.typeIs entry_listiter_next ?_ (args_listiter_next _))
  show wpAny _ _ (field (.ref it) 0 >>= _) _ _ s
  refine wpAny_bind (wpAny_field ho hd (x := .ref l) rfl ?_)
  show wpAny _ _ (if (Value.ref l == Value.none) = true then _ else _) _ _ s
  rw [if_neg (show ¬ ((Value.ref l == Value.none) = true) from Bool.false_ne_true)]
  show wpAny _ _ (field (.ref it) 1 >>= _) _ _ s
  refine wpAny_bind (wpAny_field ho hd (x := .int i 0) rfl ?_)
  show wpAny _ _ (seqItems? (.ref l) >>= _) _ _ s
  refine wpAny_bind (wpAny_seqItems hol hdl ?_)
  simp only [Int.toNat_natCast, hx]
  refine wpAny_bind (wpAny_setField ho hd (by simp) (wpAny_pure ⟨x, rfl, hQ _ ?_ (Heap.SameBut.update ..)⟩))
  exact ⟨_, Heap.get?_update_self _ ho (Obj.isFreed_of_fields (Obj.data_mapFields hd _)), (Obj.cls_mapFields ..).trans hc, by
    rw [Obj.data_mapFields hd]; simp [rawInt]⟩
theorem callNext_end {it l : Addr} {i : Nat} {items} {Q : Option Value → Shared → Prop} (hh : A.handled = none)
    (hit : s.heap.IsListIter it l i) (hl : s.heap.IsList l items) (hx : items[i]? = none)
    (hE : ∀ h' e o vs, Heap.ExtBut it s.heap h' → h'.get? e = some o → o.cls = .type "StopIteration" → o.data = .fields vs → vs[5]? = some .none → E (.ref e) { s with heap := h' }) :
    wpAny (LM w) A (callSpecial? (.ref it) (Str.ofString "__next__")) Q E s := by
  obtain ⟨o, ho, hc, hd⟩ := id hit
  obtain ⟨ol, hol, _, nl, hdl⟩ := hl
  refine wpAny_callSpecial?_slot (name := Str.ofString "__next__") hit.typeIs slot_listiter_next
    (wpAny_call_entry slot_listiter_next hit.typeIs entry_listiter_next ?_ (args_listiter_next _))
  show wpAny _ _ (field (.ref it) 0 >>= _) _ _ s
  refine wpAny_bind (wpAny_field ho hd (x := .ref l) rfl ?_)
  show wpAny _ _ (if (Value.ref l == Value.none) = true then _ else _) _ _ s
  rw [if_neg (show ¬ ((Value.ref l == Value.none) = true) from Bool.false_ne_true)]
  show wpAny _ _ (field (.ref it) 1 >>= _) _ _ s
  refine wpAny_bind (wpAny_field ho hd (x := .int i 0) rfl ?_)
  show wpAny _ _ (seqItems? (.ref l) >>= _) _ _ s
  refine wpAny_bind (wpAny_seqItems hol hdl ?_)
  simp only [Int.toNat_natCast, hx]
  refine wpAny_bind (wpAny_rule (wpAny_bind (wpAny_setField ho hd (by simp) ?_)))
  show wpAny _ _ (newExc (.type "StopIteration") [] >>= _) _ _ _
  refine wpAny_bind ?_
  simp only [newExc, newTuple]
  refine wpAny_bind (wpAny_newObj_type ?_ (by size_fits))
  refine wpAny_bind (m := firstArgMember _ _) (wpAny_of_eq (a := Value.none) (by first | rfl | (simp only [firstArgMember]; rfl)) ?_)
  refine wpAny_newObj_type ?_ (by size_fits)
  simp only [raiseNew]
  refine wpAny_bind (wpAny_handled ?_)
  rw [show A.in1.handled = none from hh]
  refine wpAny_bind (wpAny_pure (wpAny_throw ?_))
  exact hE _ _ _ _ (((Heap.SameBut.update ..).extBut.push _).push _) (Heap.get?_push_size _ rfl) rfl rfl rfl
end
def Agree (C : Nat) (D : List Nat) (h h' : Heap) : Prop := ∀ (a : Nat) o, (C ≤ a ∨ a ∈ D) → h.get? a = some o → h'.get? a = some o
def Moved (C : Nat) (s s' : Shared) : Prop := ∃ h' tk, s' = { s with heap := h', toks := tk } ∧ ∀ (a : Nat) o, a ≠ C → a ≤ C + 1 → s.heap.get? a = some o → h'.get? a = some o
noncomputable def Cont (w : World) (A : Around) (C : Nat) (D : List Nat) : List Value → Shared → (End → Shared → Prop) → Prop
  | [], s, P => ∀ s', Moved C s s' → P (.ret (.ok (.ret .none))) s'
  | v :: rem, s, P => ∀ s' l k c p fs, Moved C s s' → fs.any Frame.guarded = false →
      (∀ s'' P', Agree C D s'.heap s''.heap → Cont w A C D rem s'' P' → SegX (LM w) A c (k (.send .none)) fs s'' P') → P (.susp v false l k c p fs) s'
theorem Moved.trans {C : Nat} {a b c : Shared} (x : Moved C a b) (y : Moved C b c) : Moved C a c := by
  obtain ⟨h1, t1, rfl, k1⟩ := x
  obtain ⟨h2, t2, rfl, k2⟩ := y
  exact ⟨h2, t2, rfl, fun p o n1 n2 e => k2 p o n1 n2 (k1 p o n1 n2 e)⟩
theorem Moved.refl (C : Nat) (a : Shared) : Moved C a a := ⟨a.heap, a.toks, rfl, fun _ _ _ _ e => e⟩
theorem Cont.moved {w : World} {A : Around} {C : Nat} {D : List Nat} : ∀ {l : List Value} {s s' : Shared} {P}, Moved C s s' → Cont w A C D l s P → Cont w A C D l s' P
  | [], _, _, _, m, h => fun s'' m' => h s'' (m.trans m')
  | _ :: _, _, _, _, m, h => fun s'' l k c p fs m' g r => h s'' l k c p fs (m.trans m') g r
theorem li_close : typeLookup (.type "list_iterator") (Str.ofString "close") = pure none := by rw [typeLookup_type, builtinLookup_eq_fast]; kernel_rfl
theorem sleptOver_li {w : World} {A : Around} {s : Shared} {E : Value → Shared → Prop} {I l : Addr} {j : Nat} {b : Bool} {Q : Unit → Shared → Prop} (hit : s.heap.IsListIter I l j) (h : Q () s) :
    wpAny (LM w) A (Builtin.Generator.sleptOver (.ref I) b) Q E s := by
  obtain ⟨o, ho, hc, hd⟩ := hit
  unfold Builtin.Generator.sleptOver
  refine wpAny_bind (wpAny_load ho ?_)
  rw [if_pos (by rw [hc]; rfl)]
  exact wpAny_pure h
theorem sx_bind0y {w : World} {A : Around} {c : Code} {fs : List Frame} {P : End → Shared → Prop} {s : Shared} {v : Value} {f : Resume → Sem Fin} (hfs : splitAtGen fs = none) (hfg : fs.any Frame.guarded = false)
    (h : ∀ p, P (.susp v false [] f c p fs) s) : SegX (LM w) A c (suspend v false >>= f) fs s P := sx_yield hfs hfg h
section
variable {w : World} {A : Around}
theorem yf_head {C : Nat} {D : List Nat} {I l : Nat} {fs : List Frame} {items : List Value} {rest : List Value}
    (hov : ∀ c, (A.over c fs).handled = none) (hfs : splitAtGen fs = none) (hfg : fs.any Frame.guarded = false)
    (hI : C + 1 < I) (hl : l ∈ D) (hIl : l ≠ I)
    (J : Heap → Prop) (hJ1 : ∀ h h', J h → Agree C D h h' → J h') (hJ2 : ∀ h h', J h → Heap.ExtBut I h h' → J h')
    (after : ∀ s P, J s.heap → Cont w A C D rest s P → ∀ c, SegX (LM w) A c (leafOf (.ok (.ret .none))) fs s P) :
    ∀ n j, items.length - j = n → ∀ s P, s.heap.IsListIter I l j → s.heap.IsList l items.toArray → J s.heap → Cont w A C D (items.drop j ++ rest) s P →
      SegX (LM w) A (yfC I) ((LM w).den (yfC I)) fs s P := by
  intro n
  induction n with
  | zero =>
    intro j hn s P hit hls hJ hC
    have hge : items.length ≤ j := by omega
    rw [List.drop_eq_nil_of_le hge, List.nil_append] at hC
    rw [den_yf]
    unfold Builtin.«proto.yield_from»
    dsimp only
    refine sx_bind0 (wpAny_pure ?_)
    refine sx_bind0 (wpAny_attempt (wpAny_holding ?_))
    rw [if_neg Bool.false_ne_true, if_pos (by rfl)]
    refine wpAny_bind (wpAny_rule ?_)
    refine wpAny_bind (callNext_end (hov _) hit hls (by simp [hge]) fun h' e o vs hx he hc hd h5 => ?_)
    dsimp only
    refine sx_bind0 (m := Builtin.Generator.endsTheTurnAsAValue false (.ref e)) ?_
    unfold Builtin.Generator.endsTheTurnAsAValue Builtin.Generator.isStopAndMetaclass
    refine wpAny_bind (wpAny_bind (wpAny_typeOf (T := "StopIteration") ⟨_, he, hc⟩ ?_))
    refine wpAny_bind (wpAny_of_eq isSubtype_stop ?_)
    refine wpAny_bind (wpAny_of_eq (a := .type "type") (by first | rfl | kernel_rfl) (wpAny_pure ?_))
    dsimp only
    rw [if_neg Bool.false_ne_true]
    refine wpAny_pure ?_
    rw [if_pos rfl, if_neg Bool.false_ne_true]
    refine sx_bind0 (wpAny_rule ?_)
    refine sx_bind0 (wpAny_field he hd h5 ?_)
    have hmv : Moved C s { s with heap := h' } := ⟨h', s.toks, rfl, fun a o h1 h2 e => hx a o (show (a : Nat) ≠ I by omega) e⟩
    exact after { s with heap := h' } P (hJ2 _ _ hJ hx) (hC.moved hmv) _
  | succ n ih =>
    intro j hn s P hit hls hJ hC
    have hlt : j < items.length := by omega
    have hd : items.drop j = items[j] :: items.drop (j + 1) := List.drop_eq_getElem_cons hlt
    rw [hd] at hC
    rw [den_yf]
    unfold Builtin.«proto.yield_from»
    dsimp only
    refine sx_bind0 (wpAny_pure ?_)
    refine sx_bind0 (wpAny_attempt (wpAny_holding ?_))
    rw [if_neg Bool.false_ne_true, if_pos (by rfl)]
    refine wpAny_bind (wpAny_rule ?_)
    refine wpAny_bind (callNext_item hit hls (by simp [hlt]; rfl) fun h' hit' hs' => ?_)
    refine wpAny_pure ?_
    dsimp only
    refine sx_bind0 (wpAny_typeOf (T := "list_iterator") hit'.typeIs ?_)
    dsimp only
    refine sx_bind0 (wpAny_of_eq li_close ?_)
    refine sx_bind0 (wpAny_pure ?_)
    refine sx_bind0 (sleptOver_li hit' ?_)
    refine sx_bind0y hfs hfg fun p => ?_
    have hmv : Moved C s { s with heap := h' } := ⟨h', s.toks, rfl, fun a o h1 h2 e => (hs'.2 a (show (a : Nat) ≠ I by omega)).trans e⟩
    refine hC _ _ _ _ _ _ hmv hfg fun s'' P' hag hC' => ?_
    refine sx_bind0 (sleptOver_li (hit'.at fun o e => hag _ _ (.inl (by omega)) e) ?_)
    dsimp only
    refine sx_bind0 (wpAny_of_eq (a := Value.none) (by rfl) ?_)
    refine sx_again (Code.quiet_builtin _ (by decide +kernel)) ?_
    exact ih (j + 1) (by omega) s'' P' (hit'.at fun o e => hag _ _ (.inl (by omega)) e) (hls.at fun o e => hag _ _ (.inr hl) ((hs'.2 l hIl).trans e)) (hJ1 _ _ (hJ2 _ _ hJ hs'.extBut) hag) hC'
end
section
variable {w : World} {A : Around} {c : Code} {fs : List Frame} {P : End → Shared → Prop} {s : Shared}
theorem sx_push {α β : Type} {m : Sem α} {f : α → Sem β} {K : β → Sem Fin} {H : Value → Sem Fin} {gd lv}
    (h : SegX (LM w) A c (m.wrap (fun a => (f a).wrap K H gd lv) H gd lv) fs s P) : SegX (LM w) A c ((m >>= f).wrap K H gd lv) fs s P := by
  rw [Sem.bind_eq_wrap', Sem.wrap_wrap]
  exact h
noncomputable def allNone : List Frame → Bool
  | [] => true
  | .ret _ none _ _ _ _ _ :: r => allNone r
  | _ => false
end
section
variable {w : World} {A : Around} {C NS R : Nat} {lists : List (Nat × List Value)} {env : Env} {fs0 : List Frame} {p1 p2 p3 p4 p5 p6 : Pos}
abbrev ifBody (p2 p3 p4 p5 p6 : Pos) : List Stmt := [Stmt.If (Expr.Name (Str.ofString "namespaces") p2) [Stmt.Expr (Expr.YieldFrom (Expr.Name (Str.ofString "namespaces") p3) p4) p5] [] p6]
abbrev forC (p1 p2 p3 p4 p5 p6 : Pos) (R : Nat) (env : Env) : Code := .forLoop (Expr.Name (Str.ofString "namespaces") p1) (.ref R) (ifBody p2 p3 p4 p5 p6) [] env
def Facts (NS : Nat) (lists : List (Nat × List Value)) (h : Heap) : Prop := h.IsList NS (lists.map fun p => Value.ref p.1).toArray ∧ ∀ p ∈ lists, h.IsList p.1 p.2.toArray
def flat (lists : List (Nat × List Value)) (i : Nat) : List Value := ((lists.take i).reverse).flatMap (·.2)
abbrev dats (NS : Nat) (lists : List (Nat × List Value)) : List Nat := NS :: lists.map (·.1)
theorem fh (hk : env.scope.kind = .function) (hl : env.kindOf (Str.ofString "namespaces") = some .local) (hi : interactive env = false) (hC : env.locals = C)
    (hlow : ∀ d ∈ dats NS lists, d < C) (hR : C + 1 < R) (hsz : ∀ p ∈ lists, p.2.length < 2 ^ 62)
    (hpop : ∀ s P c, P (.ret (.ok (.ret .none))) s → SegX (LM w) A c (leafOf (.ok .next)) fs0 s P)
    (hov : ∀ c, (A.over c fs0).handled = none) (hfs : splitAtGen fs0 = none) (hfg : fs0.any Frame.guarded = false) :
    ∀ i, i ≤ lists.length → ∀ s P, s.heap.IsRevIter R NS ((i : Int) - 1) → (∃ m, s.heap.Ns C m) → Facts NS lists s.heap → Cont w A C (dats NS lists) (flat lists i) s P →
      SegX (LM w) A (forC p1 p2 p3 p4 p5 p6 R env) ((LM w).den (forC p1 p2 p3 p4 p5 p6 R env)) fs0 s P := by
  intro i
  induction i with
  | zero =>
    intro _ s P hit hns hf hc
    show SegX _ _ _ ((forTurn _ _ _ _ _).onRaise _) _ _ _
    rw [Sem.onRaise_eq_wrap]
    unfold forTurn
    refine sx_bind (wpAny_standAt ?_)
    refine sx_bind (wpAny_onRaise (wpAny_pyNext_rev_end (hov _) hit fun h' hx => ?_))
    dsimp only
    refine sx_again (by rfl) ?_
    refine hpop _ _ _ ?_
    refine hc _ ⟨h', s.toks, rfl, fun a o h1 h2 e => hx a o (show (a : Nat) ≠ R by omega) e⟩
  | succ i ih =>
    intro hile s P hit hns hf hc
    have hlt : i < lists.length := hile
    obtain ⟨m, hns⟩ := hns
    have hmem : lists[i] ∈ lists := List.getElem_mem hlt
    have hl0 : lists[i].1 < C := hlow _ (List.mem_cons_of_mem _ (List.mem_map_of_mem hmem))
    have hNS0 : NS < C := hlow _ (List.mem_cons_self ..)
    have hflat : flat lists (i + 1) = lists[i].2 ++ flat lists i := by
      unfold flat
      rw [List.take_succ_eq_append_getElem hlt, List.reverse_append, List.flatMap_append]
      simp
    rw [hflat] at hc
    have hit' : s.heap.IsRevIter R NS (i : Int) := by
      have e : ((i + 1 : Nat) : Int) - 1 = (i : Int) := by omega
      rw [e] at hit; exact hit
    show SegX _ _ _ ((forTurn _ _ _ _ _).onRaise _) _ _ _
    rw [Sem.onRaise_eq_wrap]
    unfold forTurn
    refine sx_bind (wpAny_standAt ?_)
    refine sx_bind (wpAny_onRaise (wpAny_pyNext_rev_item (x := .ref lists[i].1) hit' hf.1 (by simp [hlt]) fun h₁ hit₁ hs₁ => ?_))
    dsimp only
    refine sx_bind (wpAny_pure ?_)
    have hns₁ : h₁.Ns env.locals m := by
      rw [hC]; exact hns.at' fun o e => (hs₁.2 C (show (C : Nat) ≠ R by omega)).trans e
    refine sx_bind (wpAny_assign_Name (wpAny_storeName_local hl hns₁ (fun h₂ hns₂ hs₂ => ?_) (by rw [hk]; rfl)))
    rw [hC] at hns₂ hs₂
    have k₂ : ∀ (a : Nat) o, a ≠ C → a ≠ R → s.heap.get? a = some o → h₂.get? a = some o := fun a o n1 n2 e => (hs₂.2 a n1).trans ((hs₁.2 a n2).trans e)
    have hlist : h₂.IsList lists[i].1 lists[i].2.toArray := (hf.2 _ hmem).at fun o e => k₂ _ o (by omega) (by omega) e
    refine sx_push ?_
    rw [execs_cons_wrap]
    generalize hK : (fun f : Flow => _) = K
    have hKn : K .next = .pure (.again (forC p1 p2 p3 p4 p5 p6 R env)) := by rw [← hK]; rfl
    generalize (fun e : Value => _) = H
    have goOn : ∀ s' P' c, s'.heap.IsRevIter R NS ((i : Int) - 1) → (∃ m, s'.heap.Ns C m) → (∀ (a : Nat) o, a ∈ dats NS lists → s.heap.get? a = some o → s'.heap.get? a = some o) → Cont w A C (dats NS lists) (flat lists i) s' P' →
        SegX (LM w) A c (K .next) fs0 s' P' := fun s' P' c r1 r2 r3 r4 => by
      rw [hKn]
      exact sx_again rfl (ih (by omega) s' P' r1 r2 ⟨hf.1.at fun o e => r3 _ o (List.mem_cons_self ..) e, fun p hp => (hf.2 p hp).at fun o e => r3 _ o (List.mem_cons_of_mem _ (List.mem_map_of_mem hp)) e⟩ r4)
    rw [exec_If]
    refine sx_bind (wpAny_standAt ?_)
    refine sx_bind (isTrue_plain (wpAny_Name (wpAny_loadName_local hk hl (by rw [hC]; exact hns₂) (if_pos rfl) (wpAny_truthy_list hlist (by have := hsz _ hmem; simp; omega) ?_))))
    have hit₂ : h₂.IsRevIter R NS ((i : Int) - 1) := hit₁.at fun o e => (hs₂.2 R (show (R : Nat) ≠ C by omega)).trans e
    cases hitems : lists[i].2 with
    | nil =>
      rw [hitems, List.nil_append] at hc
      simp only [List.isEmpty_toArray, List.isEmpty_nil, Bool.not_true, Bool.false_eq_true, if_false]
      have hmv : ∀ tk, Moved C s { s with heap := h₂, toks := tk } := fun tk => ⟨h₂, tk, rfl, fun a o n1 n2 e => k₂ a o n1 (by omega) e⟩
      refine goOn _ P _ hit₂ ⟨_, hns₂⟩ (fun a o ha e => k₂ a o ?_ ?_ e) (hc.moved (hmv _))
      · have := hlow a ha; omega
      · have := hlow a ha; omega
    | cons x rest =>
      simp only [List.isEmpty_toArray, List.isEmpty_cons, Bool.not_false, if_true]
      rw [execs_cons_wrap, exec_Expr env (Expr.YieldFrom (Expr.Name (Str.ofString "namespaces") p3) p4) p5 hi rfl]
      refine sx_bind (wpAny_standAt ?_)
      refine sx_push ?_
      show SegX _ _ _ (Sem.wrap _ H id id (eval (Expr.Name (Str.ofString "namespaces") p3) env >>= fun v => standAt p4 >>= fun _ => yieldFrom env v)) _ _ _
      refine sx_bind (wpAny_Name (wpAny_loadName_local hk hl (by rw [hC]; exact hns₂) (if_pos rfl) ?_))
      refine sx_bind (wpAny_standAt ?_)
      unfold yieldFrom
      refine sx_bind (wpAny_typeOf (T := "list") hlist.typeIs ?_)
      rw [if_neg (by decide)]
      refine sx_bind (wpAny_holding (wpAny_pyIter_list hlist ?_))
      refine sx_runValue fun p => ?_
      have hRlt : R < h₂.objs.size := let ⟨o, ho, _⟩ := hit₂; Heap.lt_size ho
      have hk₃ : ∀ (a : Nat) o, h₂.get? a = some o → (h₂.push { cls := .type "list_iterator", data := .fields #[.ref lists[i].1, .int 0 0] }).get? a = some o := fun a o e => Heap.get?_push_of_some _ e
      rw [hitems] at hlist
      have hfall : ∀ d ∈ dats NS lists, d ≠ C ∧ d ≠ R := fun d hd => by have := hlow d hd; omega
      refine yf_head (w := w) (fs := Frame.ret _ none (id false) (id []) _ p [] :: fs0) (C := C) (D := dats NS lists) (I := h₂.objs.size) (l := lists[i].1) (items := x :: rest) (rest := flat lists i) ?_ ?_ ?_ (by omega)
        (List.mem_cons_of_mem _ (List.mem_map_of_mem hmem)) (by omega)
        (fun h => h.IsRevIter R NS ((i : Int) - 1) ∧ (∃ m, h.Ns C m) ∧ ∀ (a : Nat) o, a ∈ dats NS lists → s.heap.get? a = some o → h.get? a = some o) ?_ ?_ ?_ _ 0 rfl _ P
        ?_ ?_ ?_ ?_
      · exact fun c => hov c
      · simp [splitAtGen, hfs]
      · simp [Frame.guarded, hfg]
      · rintro h h' ⟨j1, ⟨m', j2⟩, j3⟩ ag
        exact ⟨j1.at fun o e => ag _ _ (.inl (by omega)) e, ⟨m', j2.at' fun o e => ag _ _ (.inl (Nat.le_refl _)) e⟩, fun a o ha e => ag a o (.inr ha) (j3 a o ha e)⟩
      · rintro h h' ⟨j1, ⟨m', j2⟩, j3⟩ ag
        exact ⟨j1.at fun o e => ag _ _ (show (R : Nat) ≠ _ by omega) e, ⟨m', j2.at' fun o e => ag _ _ (show (C : Nat) ≠ _ by omega) e⟩, fun a o ha e => ag a o (show (a : Nat) ≠ _ by have := hlow a ha; omega) (j3 a o ha e)⟩
      · rintro s' P' ⟨j1, j2, j3⟩ hc' c
        refine sx_leaf _ ?_
        show SegX _ _ _ (K .next) _ _ _
        exact goOn s' P' _ j1 j2 j3 hc'
      · exact ⟨_, Heap.get?_push_size _ rfl, rfl, rfl⟩
      · exact hlist.at fun o e => hk₃ _ o e
      · exact ⟨hit₂.at fun o e => hk₃ _ o e, ⟨_, hns₂.at' fun o e => hk₃ _ o e⟩, fun a o ha e => hk₃ a o (k₂ a o (hfall a ha).1 (hfall a ha).2 e)⟩
      · rw [hitems] at hc
        have hmv : ∀ tk, Moved C s { s with heap := h₂.push { cls := .type "list_iterator", data := .fields #[.ref lists[i].1, .int 0 0] }, toks := tk } := fun tk => ⟨_, tk, rfl, fun a o n1 n2 e => hk₃ a o (k₂ a o n1 (by omega) e)⟩
        exact hc.moved (hmv _)
end
end Mine
end
section
open PySem PySem.W PyProof.Rows PySem.W.X
set_option pp.deepTerms false
set_option pp.proofs false
namespace Mine
set_option maxRecDepth 100000
set_option maxHeartbeats 8000000
section
variable {w : World} {A : Around} {C NS : Nat} {lists : List (Nat × List Value)} {env : Env} {p0 p1 p2 p3 p4 p5 p6 q1 q2 q3 : Pos}
abbrev genBody (p0 p1 p2 p3 p4 p5 p6 q1 q2 q3 : Pos) : List Stmt :=
  [Stmt.For (Expr.Name (Str.ofString "namespaces") p1) (Expr.Call (Expr.Name (Str.ofString "_reversed") q1) [Expr.Name (Str.ofString "ns_stack") q2] [] q3) (ifBody p2 p3 p4 p5 p6) [] p0]
theorem gfresh {m : Str → Option Value} (hk : env.scope.kind = .function) (hl : env.kindOf (Str.ofString "namespaces") = some .local) (hl1 : env.kindOf (Str.ofString "_reversed") = some .local) (hl2 : env.kindOf (Str.ofString "ns_stack") = some .local)
    (hi : interactive env = false) (hC : env.locals = C) (hlow : ∀ d ∈ dats NS lists, d < C) (hh : A.handled = none) (hsz : ∀ p ∈ lists, p.2.length < 2 ^ 62)
    {s : Shared} {P : End → Shared → Prop} (hns : s.heap.Ns C m) (hm1 : m (Str.ofString "_reversed") = some (.type "reversed")) (hm2 : m (Str.ofString "ns_stack") = some (.ref NS))
    (hsize : C + 1 < s.heap.objs.size) (hf : Facts NS lists s.heap) (hc : Cont w A C (dats NS lists) (flat lists lists.length) s P) :
    SegX (LM w) A (.func (genBody p0 p1 p2 p3 p4 p5 p6 q1 q2 q3) env) ((LM w).den (.func (genBody p0 p1 p2 p3 p4 p5 p6 q1 q2 q3) env)) [] s P := by
  show SegX _ _ _ (.point [] fun _ => ((execs (genBody p0 p1 p2 p3 p4 p5 p6 q1 q2 q3) env).onRaise (leaving env)) >>= _) _ _ _
  refine sx_point ?_
  rw [Sem.onRaise_eq_wrap, Sem.bind_eq_wrap', Sem.wrap_wrap, execs_cons_wrap]
  generalize hK : (fun f : Flow => _) = K
  have hKn : K .next = leafOf (.ok (.ret .none)) := by rw [← hK]; rfl
  generalize (fun e : Value => _) = H
  rw [exec_For]
  refine sx_bind (wpAny_standAt ?_)
  refine sx_bind (Call_name1 rfl (wpAny_Name (wpAny_loadName_local hk hl1 (by rw [hC]; exact hns) hm1 (PySem.callWith_type1 (wpAny_Name (wpAny_loadName_local hk hl2 (by rw [hC]; exact hns) hm2 (call_reversed_list hf.1 ?_)))))))
  refine sx_bind (wpAny_of_eq (a := .ref s.heap.objs.size) rfl ?_)
  refine sx_bind (wpAny_standAt ?_)
  have hk₁ : ∀ (a : Nat) o, s.heap.get? a = some o → (s.heap.push (revObj NS (((lists.map fun p => Value.ref p.1).toArray.size : Int) - 1))).get? a = some o := fun a o e => Heap.get?_push_of_some _ e
  refine sx_bind (wpAny_holding (wpAny_pyIter_revIter (l := NS) (i := ((lists.map fun p => Value.ref p.1).toArray.size : Int) - 1) ⟨_, Heap.get?_push_size _ rfl, rfl, rfl⟩ ?_))
  refine sx_runOwn fun p => ?_
  refine fh (fs0 := [_]) hk hl hi hC hlow (R := s.heap.objs.size) hsize hsz ?_ ?_ ?_ ?_ lists.length (Nat.le_refl _) _ P ?_ ?_ ?_ ?_
  · intro s' P' c hp
    refine sx_leaf _ ?_
    show SegX _ _ _ (K .next) _ _ _
    rw [hKn]
    exact sx_end _ hp
  · exact fun c => hh
  · rfl
  · rfl
  · exact ⟨_, Heap.get?_push_size _ rfl, rfl, by simp [revObj]⟩
  · exact ⟨m, hns.at' fun o e => hk₁ _ o e⟩
  · exact ⟨hf.1.at fun o e => hk₁ _ o e, fun q hq => (hf.2 q hq).at fun o e => hk₁ _ o e⟩
  · exact hc.moved ⟨_, _, rfl, fun a o _ _ e => hk₁ a o e⟩
end
/-- a woken fresh generator of _iter_namespaces tells the lists from behind -/
def Tells75 (w : World) (C : Nat) (NS : Nat) (lists : List (Nat × List Value)) (h₁ : Heap) (gs : GenState) : Prop :=
  ∀ (A' : Around) (s'' : Shared) (P : End → Shared → Prop), A'.handled = none → Agree C (dats NS lists) h₁ s''.heap → Cont w A' C (dats NS lists) (flat lists lists.length) s'' P → GoesX w A' gs s'' P
theorem isGen_of {h : Heap} {a : Addr} {g : Nat} {o : Obj} {nm qn : Value} (e : h.get? a = some o) (h1 : o.cls = .type "generator") (h2 : o.data = .fields #[.int g 0, nm, qn]) (h3 : o.slots = #[]) : h.IsGen a g := ⟨o, nm, qn, e, h1, h2, h3⟩
theorem iter_call {w : World} {A : Around} {s : Shared} {NS : Nat} {lists : List (Nat × List Value)} {vself : Value} {Q E : Value → Shared → Prop}
    (X : (hd.heap_39 w.params).In s.heap) (hlim : s.heap.NoLimit) (hroom : A.depth < recursionLimit)
    (hf : Facts NS lists s.heap) (hsz : ∀ p ∈ lists, p.2.length < 2 ^ 62)
    (hQ : ∀ h' tk gs, (∀ b o, s.heap.get? b = some o → h'.get? b = some o) → h'.objs.size = s.heap.objs.size + 2 → h'.IsGen (s.heap.objs.size + 1) s.gens.size → gs.bare = true →
      Tells75 w s.heap.objs.size NS lists h' gs → Q (.ref (s.heap.objs.size + 1)) { s with heap := h', gens := s.gens.push gs, toks := tk }) :
    wpAny (LM w) A (call (.ref 75) [vself, .ref NS]) Q E s := by
  have ho := X 75 _ (by k_is)
  have hT := X 68 _ (by k_is)
  refine wpAny_call (codeAny_call_generator hroom ho rfl rfl rfl rfl (codeRec_of X (by k_is)) ?_)
  refine (BindsTo.of_defaults rfl hT rfl rfl rfl) _ _ _ _ ?_
  refine wpAny_newFunctionEnv (by decide) (locs rfl) (fun h₁ hns hsb => ?_) rfl
  have hsz₁ : h₁.objs.size = s.heap.objs.size + 1 := by rw [hsb.1, Heap.size_push]
  have k₁ : ∀ b o, s.heap.get? b = some o → h₁.get? b = some o := fun b o e => hsb.extBut b o (Nat.ne_of_lt (Heap.lt_size e)) (Heap.get?_push_of_some _ e)
  refine ⟨hlim.keeps k₁, ?_⟩
  dsimp only
  rw [hsz₁]
  refine hQ _ _ _ (fun b o e => Heap.get?_push_of_some _ (k₁ b o e)) (by rw [Heap.size_push, hsz₁]) ?_ rfl ?_
  · refine isGen_of (o := ?o) (nm := ?nm) (qn := ?qn) ?a ?b ?c ?d
    case a => rw [← hsz₁]; exact Heap.get?_push_size _ rfl
    case b => rfl
    case c => rfl
    case d => rfl
  · intro A' s'' P hh hag hc
    have hlow : ∀ d ∈ dats NS lists, d < s.heap.objs.size := by
      intro d hd
      rcases List.mem_cons.mp hd with rfl | hd
      · obtain ⟨o, ho, _⟩ := hf.1; exact Heap.lt_size ho
      · obtain ⟨q, hq, rfl⟩ := List.mem_map.mp hd
        obtain ⟨o, ho, _⟩ := hf.2 q hq; exact Heap.lt_size ho
    have hag' : ∀ (a : Nat) o, (s.heap.objs.size ≤ a ∨ a ∈ dats NS lists) → h₁.get? a = some o → s''.heap.get? a = some o := fun a o ha e => hag a o ha (Heap.get?_push_of_some _ e)
    show SegX (LM w) A' (.func _ _) ((LM w).den (.func _ _)) [] s'' P
    refine gfresh (m := _) rfl rfl rfl rfl rfl rfl hlow hh hsz ((hns.at' fun o e => hag' _ o (.inl (Nat.le_refl _)) e)) rfl rfl ?_ ?_ hc
    · have hg := hag (s.heap.objs.size + 1) _ (.inl (Nat.le_succ _)) (by rw [← hsz₁]; exact Heap.get?_push_size _ rfl)
      exact Heap.lt_size hg
    · exact ⟨hf.1.at fun o e => hag' _ o (.inr (List.mem_cons_self ..)) (k₁ _ o e), fun q hq => (hf.2 q hq).at fun o e => hag' _ o (.inr (List.mem_cons_of_mem _ (List.mem_map_of_mem hq))) (k₁ _ o e)⟩
end Mine
end
section
open PySem PySem.W PyProof.Rows
set_option pp.deepTerms false
set_option pp.proofs false
namespace Mine
set_option maxRecDepth 100000
set_option maxHeartbeats 8000000
theorem mdg_slot : Slot "method_descriptor" "__get__" "method_descriptor.__get__" :=
  .of (owner := "method_descriptor") (n := "__get__") (by rw [typeLookup_type, builtinLookup_eq_fast]; kernel_rfl) (by decide +kernel) (by decide +kernel) (by decide +kernel)
    (by first | exact .inl (by decide +kernel) | exact .inr (by decide +kernel)) (by rw [isSubtype_type]; kernel_rfl)
theorem mdg_entry : entryFor table "method_descriptor.__get__" = some Builtin.«method_descriptor.__get__» := entryFor_of_tree (by kernel_rfl)
theorem mdg_args (a b c : Value) : argsOk "method_descriptor.__get__" ⟨[a, b, c], []⟩ := by unfold argsOk; kernel_rfl
abbrev bmO (l : Addr) : Obj := { cls := .type "builtin_function_or_method", data := .fields #[.builtin "list.append", .ref l] }
theorem mdg_run {w : World} {A : Around} {s : Shared} {l : Addr} {Q : Fin → Shared → Prop} {E : Value → Shared → Prop} {vs : Array Value} {n : Nat} 
    (hl : s.heap.get? l = some ⟨.type "list", none, .seq vs n, #[]⟩) (h : Q (.done (.ret (.ref s.heap.objs.size))) { s with heap := s.heap.push (bmO l) }) :
    wpAny (model lawProg w) A (Builtin.«method_descriptor.__get__» ⟨[.builtin "list.append", .ref l, .type "list"], []⟩) Q E s := by
  have hT : s.TypeIs (.ref l) "list" := ⟨_, hl, rfl⟩
  unfold Builtin.«method_descriptor.__get__»
  refine wpAny_bind (wpAny_of_eq (a := (.builtin "list.append", some (.ref l), some (.type "list"))) (by first | rfl | kernel_rfl) ?_)
  dsimp only
  have e1 : Manifest.toldItsClass.contains "list.append" = false := by decide +kernel
  simp only [e1, Bool.false_eq_true, if_false]
  have f1 : isSubtype (.type "list") (.type (".".intercalate ("list.append".cutAt '.').dropLast)) = pure true := by
    rw [show ".".intercalate ("list.append".cutAt '.').dropLast = "list" from by decide +kernel, isSubtype_type]; kernel_rfl
  repeat (any_goals (first | assumption | wp_step))
theorem get_append {w : World} {A : Around} {s : Shared} {l : Addr} {Q E : Value → Shared → Prop} {vs : Array Value} {n : Nat} 
    (hl : s.heap.get? l = some ⟨.type "list", none, .seq vs n, #[]⟩)
    (hret : Q (.ref s.heap.objs.size) { s with heap := s.heap.push (bmO l), toks := s.toks + 1 }) :
    wpAny (model lawProg w) A (getAttr (.ref l) (Str.ofString "append") true) Q E s := by
  obtain ⟨hp, g, d, tk, os⟩ := s
  have hT : ∀ tk', (⟨hp, g, d, tk', os⟩ : Shared).TypeIs (.ref l) "list" := fun _ => ⟨_, hl, rfl⟩
  have f3 := F.slot_list_getattribute.lookup
  have f4 := F.slot_list_getattribute.bind (.ref l)
  have f5 := am_list_getattr_none
  have f6 := F.slot_list_append.lookup
  have f7 := F.type_list_append
  have f8 := mdg_slot.lookup
  have f9 : typeLookup (.type "method_descriptor") (Str.ofString "__set__") = pure none := by rw [typeLookup_type, builtinLookup_eq_fast]; kernel_rfl
  have f10 : typeLookup (.type "method_descriptor") (Str.ofString "__delete__") = pure none := by rw [typeLookup_type, builtinLookup_eq_fast]; kernel_rfl
  unfold getAttr getAttrBy
  repeat (any_goals (first | assumption | exact hT _ | ((with_reducible show wpAny _ _ (call (Value.builtin "list.__getattribute__") _ _) _ _ _); refine wpAny_call_entry F.slot_list_getattribute (hT _) am_entry_list_getattribute ?_ (F.args_list_getattribute_2 _ _)) | ((with_reducible show wpAny _ _ (call (Value.builtin "method_descriptor.__get__") _ _) _ _ _); refine wpAny_call_entry mdg_slot f7 mdg_entry (mdg_run hl ?_) (mdg_args _ _ _)) | wp_step))
  exact ⟨_, rfl, wpAny_pure ⟨_, rfl, wpAny_pure hret⟩⟩
theorem getAppend_K {w : World} {A : Around} {s : Shared} {l : Addr} {Q E : Value → Shared → Prop} {vs : Array Value} {n : Nat} {h₀ : Heap} {L : Addr} {m : Str → Option Value} {news : List (Addr × Obj)}
    (F : Fr h₀ L s.heap m) (N : News h₀ L s.heap news) (hm : (l, ({ cls := .type "list", data := .seq vs n } : Obj)) ∈ news)
    (h : ∀ x h', Fr h₀ L h' m → News h₀ L h' ((x, bmO l) :: news) → (∀ p ∈ news, p.1 < x) → Q (.ref x) { s with heap := h', toks := s.toks + 1 }) :
    wpAny (model lawProg w) A (getAttr (.ref l) (Str.ofString "append") true) Q E s :=
  get_append (N.get hm) (h _ _ (F.push _) (News.push F N _) fun p hp => Heap.lt_size (N p hp).1)
end Mine
end
section
open PySem PySem.W PyProof.Rows PySem.W.X PySem.Calls
set_option pp.deepTerms false
set_option pp.proofs false
namespace Mine
set_option maxRecDepth 100000
set_option maxHeartbeats 8000000
def Keeps (h h' : Heap) : Prop := ∀ b o, h.get? b = some o → h'.get? b = some o
abbrev liO (l : Addr) (i : Nat) : Obj := { cls := .type "list_iterator", data := .fields #[.ref l, .int i 0] }
abbrev tupO (vs : List Value) : Obj := { cls := .type "tuple", data := .seq vs.toArray }
section
variable {h₀ : Heap} {L : Addr} {m : Str → Option Value} {news : List (Addr × Obj)}
theorem Fr.kept {h h' : Heap} (F : Fr h₀ L h m) (k : Keeps h h') : Fr h₀ L h' m := ⟨F.ns.keeps k, fun b o e => k b o (F.keep b o e), F.above⟩
theorem News.kept {h h' : Heap} (N : News h₀ L h news) (k : Keeps h h') : News h₀ L h' news := fun p hp => ⟨k _ _ (N p hp).1, (N p hp).2⟩
theorem Fr.congr {h : Heap} {m' : Str → Option Value} (F : Fr h₀ L h m) (e : ∀ x, m x = m' x) : Fr h₀ L h m' := by
  have : m = m' := funext e
  rw [← this]; exact F
end
theorem Fr.but {h₀ h h' : Heap} {L it : Addr} {m : Str → Option Value} (F : Fr h₀ L h m) (k : ∀ b o, b ≠ it → h.get? b = some o → h'.get? b = some o) (h1 : it ≠ L) (h2 : h₀.get? it = none) : Fr h₀ L h' m :=
  ⟨F.ns.at' fun o e => k L o (Ne.symm h1) e, fun b o e => k b o (fun q => by rw [q, h2] at e; cases e) (F.keep b o e), F.above⟩
theorem News.but {h₀ h h' : Heap} {L it : Addr} {news : List (Addr × Obj)} (N : News h₀ L h news) (k : ∀ b o, b ≠ it → h.get? b = some o → h'.get? b = some o) (h1 : ∀ p ∈ news, p.1 ≠ it) : News h₀ L h' news :=
  fun p hp => ⟨k _ _ (h1 p hp) (N p hp).1, (N p hp).2⟩
def IsLi (o : Obj) (l : Addr) (i : Nat) : Prop := o.cls = .type "list_iterator" ∧ o.data = .fields #[.ref l, .int i 0]
/-- what a turn's end must show -/
def TurnEnd (base : Heap) (L : Addr) (p : Addr × Obj) (J : Nat → (Str → Option Value) → List (Addr × Obj) → Array GenState → Prop) (i : Nat) (d : Drawn) (os : OsState) (s₃ : Shared) : Prop :=
  ∃ m' news', Fr base L s₃.heap m' ∧ News base L s₃.heap (p :: news') ∧ J i m' news' s₃.gens ∧ s₃.drawn = d ∧ s₃.os = os
def TurnPost (base : Heap) (L : Addr) (p : Addr × Obj) (J : Nat → (Str → Option Value) → List (Addr × Obj) → Array GenState → Prop) (i : Nat) (d : Drawn) (os : OsState) (Rr : Result → Shared → Prop) (f : Flow) (s₃ : Shared) : Prop :=
  match f with
  | .next | .cont => TurnEnd base L p J i d os s₃
  | .brk => Rr (.ok .next) s₃
  | .ret v => Rr (.ok (.ret v)) s₃
section
variable {w : World} {A : Around} {E : Value → Shared → Prop} {s : Shared} {env : Env} {base : Heap} {m₀ : Str → Option Value} {news₀ : List (Addr × Obj)} {l : Addr} {items : Array Value}
theorem for_K {target : Expr} {body : List Stmt} {Rr : Result → Shared → Prop} (J : Nat → (Str → Option Value) → List (Addr × Obj) → Array GenState → Prop) (hh : A.handled = none)
    (F : Fr base env.locals s.heap m₀) (N : News base env.locals s.heap news₀) (hj : J 0 m₀ news₀ s.gens)
    (hsep : ∀ i m news g, J i m news g → news.map (·.1) = news₀.map (·.1))
    (hlist : ∀ i m news g h, J i m news g → Fr base env.locals h m → News base env.locals h news → h.IsList l items)
    (turn : ∀ (it : Addr) oit i v m news g h tk, items[i]? = some v → J i m news g → Fr base env.locals h m → News base env.locals h ((it, oit) :: news) → IsLi oit l (i + 1) → (∀ p ∈ news, p.1 ≠ it) →
      wpAny (LM w) A (letOwnedTupleGo target (.ref it) v) (fun _ s₁ => wpAny (LM w) A (assign target env v) (fun _ s₂ => wpAny (LM w) A (execs body env) (TurnPost base env.locals (it, oit) J (i + 1) s.drawn s.os Rr)
        (notedBy (LM w) A env fun e s' => Rr (.error e) s') s₂) (notedBy (LM w) A env fun e s' => Rr (.error e) s') s₁) (notedBy (LM w) A env fun e s' => Rr (.error e) s') ⟨h, g, s.drawn, tk, s.os⟩)
    (done : ∀ m news g h tk, J items.size m news g → Fr base env.locals h m → News base env.locals h news → Rr (.ok .next) ⟨h, g, s.drawn, tk, s.os⟩) :
    wpAny (LM w) A (pyIter (.ref l)) (fun it s₂ => codeAny (LM w) A (.forLoop target it body [] env) Rr s₂) E s := by
  have hls := hlist 0 m₀ news₀ s.gens s.heap hj F N
  refine wpAny_pyIter_list hls ?_
  have hne : ∀ p ∈ news₀, p.1 ≠ s.heap.objs.size := fun p hp e => absurd (Heap.lt_size (N p hp).1) (by rw [e]; exact Nat.lt_irrefl _)
  have hLt : env.locals < s.heap.objs.size := F.ns.lt
  refine codeAny_forLoop_any (fun n s₁ => ∃ i m news oit, n = items.size - i ∧ i ≤ items.size ∧ IsLi oit l i ∧ Fr base env.locals s₁.heap m ∧ News base env.locals s₁.heap ((s.heap.objs.size, oit) :: news) ∧ J i m news s₁.gens ∧ s₁.drawn = s.drawn ∧ s₁.os = s.os)
    (fun n s₁ hI => ?_) items.size ⟨0, m₀, news₀, liO l 0, rfl, Nat.zero_le _, ⟨rfl, rfl⟩, F.push _, News.push F N _, hj, rfl, rfl⟩
  obtain ⟨i, m, news, oit, rfl, hi, hli, F₁, N₁, hJ, hd, ho⟩ := hI
  obtain ⟨h₁, g₁, d₁, t₁, os₁⟩ := s₁
  cases hd; cases ho
  have N₂ : News base env.locals h₁ news := fun p hp => N₁ p (.tail _ hp)
  have hls₁ := hlist i m news g₁ h₁ hJ F₁ N₂
  have hit₁ : h₁.IsListIter s.heap.objs.size l i := ⟨_, (N₁ _ (.head _)).1, hli.1, hli.2⟩
  have hoff : ∀ p ∈ news, p.1 ≠ s.heap.objs.size := fun p hp => by
    have : p.1 ∈ news.map (·.1) := List.mem_map_of_mem hp
    rw [hsep i m news g₁ hJ] at this
    obtain ⟨q, hq, e⟩ := List.mem_map.mp this
    rw [← e]; exact hne q hq
  have hI2 := (N₁ _ (.head _)).2
  by_cases hlt : i < items.size
  · refine wpAny_pyNext_list_item hit₁ hls₁ (x := items[i]) (by simp [hlt]) fun h₂ hit₂ hs₂ => ?_
    obtain ⟨o₂, ho₂, hc₂, hd₂⟩ := hit₂
    have F₂ := Fr.but F₁ (fun b o hb e => (hs₂.2 b hb).trans e) hI2.1 hI2.2
    have N₃ := News.but N₂ (fun b o hb e => (hs₂.2 b hb).trans e) hoff
    refine wpAny_mono (turn s.heap.objs.size o₂ i items[i] m news g₁ h₂ t₁ (by simp [hlt]) hJ F₂ (fun p hp => ?_) ⟨hc₂, hd₂⟩ hoff) (fun _ s₂ h₂ => wpAny_mono h₂ (fun _ s₃ h₃ => wpAny_mono h₃ (fun f s₄ h₄ => ?_) fun _ _ x => x) fun _ _ x => x) fun _ _ x => x
    · rcases List.mem_cons.mp hp with rfl | hp
      · exact ⟨ho₂, hI2⟩
      · exact N₃ p hp
    · have fin : TurnEnd base env.locals (s.heap.objs.size, o₂) J (i + 1) s.drawn s.os s₄ → ∃ n', n' < items.size - i ∧ ∃ i m news oit, n' = items.size - i ∧ i ≤ items.size ∧ IsLi oit l i ∧ Fr base env.locals s₄.heap m ∧ News base env.locals s₄.heap ((s.heap.objs.size, oit) :: news) ∧ J i m news s₄.gens ∧ s₄.drawn = s.drawn ∧ s₄.os = s.os := by
        rintro ⟨m', news', F', N', hJ', hd', ho'⟩
        exact ⟨items.size - (i + 1), by omega, i + 1, m', news', o₂, rfl, hlt, ⟨hc₂, hd₂⟩, F', N', hJ', hd', ho'⟩
      cases f with
      | next => exact fin h₄
      | cont => exact fin h₄
      | brk => exact h₄
      | ret v => exact h₄
  · have hie : i = items.size := Nat.le_antisymm hi (Nat.le_of_not_lt hlt)
    refine wpAny_pyNext_list_end hh hit₁ hls₁ (by simp [hie]) fun h' hx => ?_
    refine wpAny_pure ?_
    exact done m news g₁ h' t₁ (hie ▸ hJ) (Fr.but F₁ hx hI2.1 hI2.2) (News.but N₂ hx hoff)
end
theorem goTup {w : World} {A : Around} {E : Value → Shared → Prop} {s : Shared} {it a : Addr} {o : Obj} {elts : List Expr} {x1} {pos : Pos} {Q : Unit → Shared → Prop} (ho : s.heap.get? it = some o) (hc : o.cls = .type "list_iterator" ∨ o.cls = .type "generator") (h : Q () s) :
    wpAny (LM w) A (letOwnedTupleGo (.Tuple elts x1 pos) (.ref it) (.ref a)) Q E s := by
  unfold letOwnedTupleGo
  refine wpAny_bind (wpAny_load ho ?_)
  rcases hc with hc | hc <;> rw [hc] <;> (cases o.data <;> first | exact wpAny_pure h | (dsimp only; rw [if_neg (by simp)]; exact wpAny_pure h))
section
variable {w : World} {A : Around} {E : Value → Shared → Prop} {s : Shared} {env : Env} {base : Heap} {m : Str → Option Value} {news : List (Addr × Obj)} {x y z : Str} {p1 p2 p3 p4 : Pos} {k : Nat}
theorem assign3 {t : Addr} {va vb vc : Value} {Q : Unit → Shared → Prop} (hk : env.scope.kind = .function) (hx : env.kindOf x = some .local) (hy : env.kindOf y = some .local) (hz : env.kindOf z = some .local) (hh : A.handled = none)
    (F : Fr base env.locals s.heap m) (N : News base env.locals s.heap news) (ht : IsTup s.heap t #[va, vb, vc])
    (hQ : ∀ h' tk, Fr base env.locals h' (fun q => if q = z then some vc else if q = y then some vb else if q = x then some va else m q) → News base env.locals h' news → Q () { s with heap := h', toks := tk }) :
    wpAny (LM w) A (assign (.Tuple [.Name x p1, .Name y p2, .Name z p3] k p4) env (.ref t)) Q E s := by
  have hp : (env.scope.kind == .class || (env.scope.kind == .module && env.locals != env.globals)) = false := by rw [hk]; rfl
  refine assign_Tuple_tuple hh ht rfl rfl fun h₁ he => ?_
  have F₁ := F.extBut he (Nat.le_refl _)
  have N₁ : News base env.locals h₁ news := fun p hp => ⟨he _ _ (Nat.ne_of_lt (Heap.lt_size (N p hp).1)) (N p hp).1, (N p hp).2⟩
  refine assignInOrder_cons (wpAny_assign_Name (wpAny_storeName_local hx F₁.ns (fun h₂ hn₂ hs₂ => ?_) hp))
  have F₂ := F₁.set hn₂ hs₂
  refine assignInOrder_cons (wpAny_assign_Name (wpAny_storeName_local hy F₂.ns (fun h₃ hn₃ hs₃ => ?_) hp))
  have F₃ := F₂.set hn₃ hs₃
  refine assignInOrder_cons (wpAny_assign_Name (wpAny_storeName_local hz F₃.ns (fun h₄ hn₄ hs₄ => ?_) hp))
  exact assignInOrder_nil (hQ h₄ _ (F₃.set hn₄ hs₄) (((N₁.set hs₂).set hs₃).set hs₄))
theorem assign2 {t : Addr} {va vb : Value} {Q : Unit → Shared → Prop} (hk : env.scope.kind = .function) (hx : env.kindOf x = some .local) (hy : env.kindOf y = some .local) (hh : A.handled = none)
    (F : Fr base env.locals s.heap m) (N : News base env.locals s.heap news) (ht : IsTup s.heap t #[va, vb])
    (hQ : ∀ h' tk, Fr base env.locals h' (fun q => if q = y then some vb else if q = x then some va else m q) → News base env.locals h' news → Q () { s with heap := h', toks := tk }) :
    wpAny (LM w) A (assign (.Tuple [.Name x p1, .Name y p2] k p4) env (.ref t)) Q E s := by
  have hp : (env.scope.kind == .class || (env.scope.kind == .module && env.locals != env.globals)) = false := by rw [hk]; rfl
  refine assign_Tuple_tuple hh ht rfl rfl fun h₁ he => ?_
  have F₁ := F.extBut he (Nat.le_refl _)
  have N₁ : News base env.locals h₁ news := fun p hp => ⟨he _ _ (Nat.ne_of_lt (Heap.lt_size (N p hp).1)) (N p hp).1, (N p hp).2⟩
  refine assignInOrder_cons (wpAny_assign_Name (wpAny_storeName_local hx F₁.ns (fun h₂ hn₂ hs₂ => ?_) hp))
  have F₂ := F₁.set hn₂ hs₂
  refine assignInOrder_cons (wpAny_assign_Name (wpAny_storeName_local hy F₂.ns (fun h₃ hn₃ hs₃ => ?_) hp))
  exact assignInOrder_nil (hQ h₃ _ (F₂.set hn₃ hs₃) ((N₁.set hs₂).set hs₃))
end
section
variable {prog : Program} {w : World} {A₀ A : Around} {s : Shared} {base h₀ : Heap} {L : Addr} {m mg mb : Str → Option Value} {news : List (Addr × Obj)} {K : Frag} {p : Program} {loose : List Str} {mean : ExcName → Option Value}
theorem code_defH {env : Env} {outer : List Env} {R : Result → Shared → Prop} {name qual : Str} {params : Arguments} {body : List Stmt} {scope : Scope} {dV kV doc pm cdv ct oc : Value} {an od : Option Addr} {osl : Array (Option Value)} {f : Addr} {args : Args} {binds : List (Str × Value)}
    (B : Below A₀ base outer h₀) (F : Fr h₀ L s.heap m) (X₀ : K.In h₀) (N : News h₀ L s.heap news) (T : Top p loose mean mg mb h₀) (hA : A.frames = some (env :: outer)) (hf : env.frame = some L) (hke : env.scope.kind = .function)
    (ho : K.lookup f = some ⟨oc, od, .func (fnOf name qual params body scope dV kV doc pm an cdv ct), osl⟩) (hcd : codeIn K cdv qual = true) (hroom : A.depth < recursionLimit)
    (hbind : BindsTo s (fnOf name qual params body scope dV kV doc pm an cdv ct) args binds) (hloc : ∀ y ∈ binds, scope.names.lookup y.1 = some .local)
    (h : ∀ g L' h₁, (∀ b o, s.heap.get? b = some o → b ∉ news.map (·.1) → g.get? b = some o) → Fr h₀ L g m → Fr g L' h₁ (fun y => binds.reverse.lookup y) → News g L' h₁ news → Below A base (env :: outer) g → K.In g → Top p loose mean mg mb g →
      wpAny (model prog w) (A.deeper (envOf qual scope L' f cdv)) (execs body (envOf qual scope L' f cdv))
        (fun fl s' => LeaveK h₀ L m g R (match fl with | .ret v => v | _ => .none) s')
        (fun e s' => wpAny (model prog w) (A.deeper (envOf qual scope L' f cdv)) (leaving (envOf qual scope L' f cdv) e) (fun _ s'' => R (.error e) s'') (fun e' s'' => R (.error e') s'') s')
        { s with heap := h₁, toks := s.toks + binds.length })
    (hco : scope.isCoroutine = false) (hgen : scope.isGenerator = false) (hk : scope.kind = .function)
    (hcell : ∀ x ∈ scope.names, x.2 ≠ .cell) : codeAny (model prog w) A (.call (.ref f) args) R s := by
  obtain ⟨FG, BG, st, lv⟩ := groundX (R := R) B F N hA hf hke
  refine codeAny_call_def (fd := fnOf name qual params body scope dV kV doc pm an cdv ct) (body := body) (binds := binds) hroom ((X₀.keeps F.keep) _ _ ho) rfl (T.nolimit.keeps F.keep) (codeRec_of (X₀.keeps F.keep) hcd) rfl hbind hcell hloc (fun h₁ hns hk₁ => ?_) hco hgen hk
  exact wpAny_mono (h _ s.heap.objs.size h₁ (fun b o e n => hideAll_get _ e n) FG ⟨hns, fun b o e => hk₁ b o (of_hideAll _ e), Nat.le_of_eq (hideAll_size _ _)⟩
    (fun p hp => ⟨hk₁ _ _ (N p hp).1, Nat.ne_of_lt (Heap.lt_size (N p hp).1), hideAll_none _ (List.mem_map_of_mem hp)⟩) BG (X₀.keeps st) (T.keeps st)) (fun fl s' hl => lv _ _ hl) fun _ _ y => y
theorem keeps_of {g h h' : Heap} {L' : Addr} {m' : Str → Option Value} (hg : ∀ b o, h.get? b = some o → b ∉ news.map (·.1) → g.get? b = some o) (N : ∀ p ∈ news, h.get? p.1 = some p.2) (F' : Fr g L' h' m') (N' : News g L' h' news) : Keeps h h' := fun b o e => by
  by_cases hb : b ∈ news.map (·.1)
  · obtain ⟨p, hp, rfl⟩ := List.mem_map.mp hb
    have := N p hp
    rw [e] at this; cases this
    exact (N' p hp).1
  · exact F'.keep b o (hg b o e hb)
end
/-- a goal that the walk leaves alone -/
structure Held (P : Prop) : Prop where
  go : P
theorem Held.of {P : Prop} (h : Held P) : P := h.go
/-- a flag: the walk stands still at that key -/
inductive HoldK : String → Prop
  | on (s : String) : HoldK s
/-- a flag: the walk stands still at a call of that def -/
inductive HoldR : Nat → Prop
  | on (n : Nat) : HoldR n
theorem hold_ref {M : Model} {A : Around} {E : Value → Shared → Prop} {s : Shared} {n : Nat} {args : List Value} {kw : List (Str × Value)} {Q : Value → Shared → Prop} (_h : HoldR n) (g : Held (wpAny M A (call (.ref n) args kw) Q E s)) : wpAny M A (call (.ref n) args kw) Q E s := g.go
/-- the ledger out of raw facts -/
theorem mkNews {h₀ h : Heap} {L : Addr} {m : Str → Option Value} {news : List (Addr × Obj)} (F : Fr h₀ L h m) (H : ∀ p ∈ news, h.get? p.1 = some p.2 ∧ L < p.1) : News h₀ L h news := fun p hp => by
  obtain ⟨e, lt⟩ := H p hp
  refine ⟨e, Nat.ne_of_gt lt, ?_⟩
  cases q : h₀.get? p.1 with
  | none => rfl
  | some o => exact absurd (Nat.lt_of_lt_of_le (Heap.lt_size q) F.above) (Nat.not_lt.mpr (Nat.le_of_lt lt))
theorem shaped2 {x : Str} (h : PyData.strOk x = true) : PySem.SeqAt.shaped (.tuple [.str (Str.ofString "h"), .str x]) = true := by
  have e : PyData.strOk (Str.ofString "h") = true := by decide +kernel
  simp [PySem.SeqAt.shaped, PyData.canLay0, PyData.canLayAll0, PyData.depth, PyData.depthAll, h, e]
theorem eqv2 {x y : Str} : PyData.eqv (.tuple [.str (Str.ofString "h"), .str x]) (.tuple [.str (Str.ofString "h"), .str y]) = decide (x = y) := by
  simp only [PyData.eqv, PyData.eqvAll, beq_self_eq_true, Bool.true_and, Bool.and_true]
  rfl
theorem eq_pair {w : World} {A : Around} {E : Value → Shared → Prop} {s : Shared} {h₀ : Heap} {L x y : Addr} {news : List (Addr × Obj)} {p1 p2 : Str} {t1 t2 u1 u2 : Tok} {Q : Value → Shared → Prop}
    (N : News h₀ L s.heap news) (m1 : (x, ({ cls := .type "tuple", data := .seq #[.str (Str.ofString "h") t1, .str p1 u1] } : Obj)) ∈ news) (m2 : (y, ({ cls := .type "tuple", data := .seq #[.str (Str.ofString "h") t2, .str p2 u2] } : Obj)) ∈ news)
    (o1 : PyData.strOk p1 = true) (o2 : PyData.strOk p2 = true) (hu : A.units + 64 < cLine) (h : Q (.bool (decide (p1 = p2))) s) : wpAny (LM w) A (compareOp .Eq (.ref x) (.ref y)) Q E s := by
  refine eq_dataH (reads_tuple_at (News.get N m1) rfl rfl (ReadsAll.cons (Reads.str _ _) (ReadsAll.cons (Reads.str _ _) ReadsAll.nil))) (reads_tuple_at (News.get N m2) rfl rfl (ReadsAll.cons (Reads.str _ _) (ReadsAll.cons (Reads.str _ _) ReadsAll.nil))) (shaped2 o1) (shaped2 o2) hu ?_
  rw [eqv2]; exact h
theorem newTupleB {prog : Program} {w : World} {A : Around} {E : Value → Shared → Prop} {s : Shared} {h₀ : Heap} {L : Addr} {m : Str → Option Value} {news : List (Addr × Obj)} {items : List Value} {Q : Value → Shared → Prop} (F : Fr h₀ L s.heap m) (N : News h₀ L s.heap news)
    (h : ∀ (D : Addr) h', Fr h₀ L h' m → News h₀ L h' ((D, { cls := .type "tuple", data := .seq items.toArray }) :: news) → (∀ p ∈ news, p.1 < D) → (∀ b o, h₀.get? b = some o → b < D) → Q (.ref D) { s with heap := h' })
    (hsz : items.length ≤ sizeLine) : wpAny (model prog w) A (newTuple items) Q E s :=
  wpAny_newTuple (h _ _ (F.push _) (News.push F N _ rfl) (fun p hp => Heap.lt_size (N p hp).1) (fun b o e => Heap.lt_size (F.keep b o e))) hsz
/-- what a condition or a value tells, all else as it was but for the tokens -/
structure EvalTo {α : Type} (P : α → Prop) (s : Shared) (v : α) (s' : Shared) : Prop where
  tells : P v
  at_ : ∃ t, s' = { s with toks := t }
theorem eval_cut {M : Model} {A : Around} {α : Type} {t : Sem α} (P : α → Prop) {Q : α → Shared → Prop} {E : Value → Shared → Prop} {s : Shared} (h : wpAny M A t (EvalTo P s) E s) (k : ∀ v t, P v → Q v { s with toks := t }) : wpAny M A t Q E s :=
  wpAny_mono h (fun v _ h => by obtain ⟨h, t, rfl⟩ := h; exact k v t h) fun _ _ e => e
theorem execs_consT {M : Model} {A : Around} {st : Stmt} {rest : List Stmt} {env : Env} {Q : Flow → Shared → Prop} {E : Value → Shared → Prop} {h : Heap} {g : Array GenState} {d : Drawn} {o : OsState} {t : Nat}
    (H : ∀ t, wpAny M A (exec st env) (fun f s₁ => match f with | .next => wpAny M A (execs rest env) Q E s₁ | f => Q f s₁) E ⟨h, g, d, t, o⟩) : wpAny M A (execs (st :: rest) env) Q E ⟨h, g, d, t, o⟩ := wpAny_execs_cons (H t)
end Mine
end
section
open PySem PySem.W PyProof.Rows PySem.W.X PySem.Calls
set_option autoImplicit false
namespace Mine
set_option maxRecDepth 100000
set_option maxHeartbeats 8000000
/-- the ledger's addresses differ -/
def NdA (l : List Nat) : Prop := l.Nodup
theorem ndPush {x : Nat} {news : List (Addr × Obj)} (h : ∀ p ∈ news, p.1 < x) (nd : NdA (news.map (·.1))) : NdA (x :: news.map (·.1)) := by
  refine List.nodup_cons.mpr ⟨fun q => ?_, nd⟩
  obtain ⟨p, hp, e⟩ := List.mem_map.mp q
  have := h p hp
  rw [e] at this
  exact Nat.lt_irrefl _ this
inductive UpdI (d : Addr) (o o' : Obj) : List (Addr × Obj) → List (Addr × Obj) → Prop
  | head {r} : UpdI d o o' ((d, o) :: r) ((d, o') :: r)
  | tail {p r r'} : UpdI d o o' r r' → UpdI d o o' (p :: r) (p :: r')
theorem UpdI.mem {d : Addr} {o o' : Obj} {l l' : List (Addr × Obj)} (u : UpdI d o o' l l') : d ∈ l.map (·.1) := by
  induction u with
  | head => exact .head _
  | tail _ ih => exact .tail _ ih
theorem nd_off {d : Addr} {o : Obj} {r : List (Addr × Obj)} (nd : NdA (((d, o) :: r).map (·.1))) : ∀ p ∈ r, p.1 ≠ d := fun p hp q => by
  have h : p.1 ∈ r.map (·.1) := List.mem_map_of_mem (f := fun p : Addr × Obj => p.1) hp
  rw [q] at h
  exact (List.nodup_cons.mp nd).1 h
theorem updI {d : Addr} {o o' : Obj} {l l' : List (Addr × Obj)} (nd : NdA (l.map (·.1))) (u : UpdI d o o' l l') : Upd d o o' l l' := by
  induction u with
  | head => exact .head (nd_off nd)
  | tail u ih => exact .tail (fun q => (List.nodup_cons.mp nd).1 (by dsimp only; rw [q]; exact u.mem)) (ih (List.nodup_cons.mp nd).2)
inductive UpdG (d : Addr) (o : Obj) : List (Addr × Obj) → (Obj → List (Addr × Obj)) → Prop
  | head {r} : UpdG d o ((d, o) :: r) (fun o' => (d, o') :: r)
  | tail {p r g} : UpdG d o r g → UpdG d o (p :: r) (fun o' => p :: g o')
theorem UpdG.mem {d : Addr} {o : Obj} {l : List (Addr × Obj)} {g : Obj → List (Addr × Obj)} (u : UpdG d o l g) : d ∈ l.map (·.1) := by
  induction u with
  | head => exact .head _
  | tail _ ih => exact .tail _ ih
theorem updG {d : Addr} {o : Obj} {l : List (Addr × Obj)} {g : Obj → List (Addr × Obj)} (nd : NdA (l.map (·.1))) (u : UpdG d o l g) : UpdF d o l g := by
  induction u with
  | head => exact .head (nd_off nd)
  | tail u ih => exact .tail (fun q => (List.nodup_cons.mp nd).1 (by dsimp only; rw [q]; exact u.mem)) (ih (List.nodup_cons.mp nd).2)
/-- off all the others -/
theorem nd_ne {x a : Nat} {as : List Nat} (nd : NdA (x :: as)) (h : a ∈ as) : x ≠ a := fun q => (List.nodup_cons.mp nd).1 (q ▸ h)
theorem nd_tail {x : Nat} {as : List Nat} (nd : NdA (x :: as)) : NdA as := (List.nodup_cons.mp nd).2
theorem ndPush2 {x y : Nat} {news : List (Addr × Obj)} (h : ∀ p ∈ news, p.1 < x) (l : x < y) (nd : NdA (x :: news.map (·.1))) : NdA (y :: x :: news.map (·.1)) := by
  refine List.nodup_cons.mpr ⟨fun q => ?_, nd⟩
  rcases List.mem_cons.mp q with e | q
  · exact Nat.lt_irrefl _ (e ▸ l)
  · obtain ⟨p, hp, e⟩ := List.mem_map.mp q
    have := h p hp
    rw [e] at this
    exact Nat.lt_irrefl _ (Nat.lt_trans this l)
theorem ndCells {x : Nat} {news : List (Addr × Obj)} {o1 o2 : Obj} (h : ∀ p ∈ news, p.1 < x) (nd : NdA (news.map (·.1))) : NdA ((((x + 1 + 1 : Nat), o2) :: ((x + 1 : Nat), o1) :: news).map (·.1)) := by
  have h1 : ∀ p ∈ news, p.1 < x + 1 := fun p hp => Nat.lt_succ_of_lt (h p hp)
  exact ndPush2 h1 (Nat.lt_succ_self _) (ndPush h1 nd)
theorem nd_perm {F : List Nat} (hF : F.Pairwise (· < ·)) (I : List Nat) (hI : I.Nodup) (hb : ∀ i ∈ I, i < F.length) : NdA (I.map fun i => F.getD i 0) := by
  have lt : ∀ i j, i < j → j < F.length → F.getD i 0 < F.getD j 0 := fun i j h1 h2 => by
    rw [List.getD_eq_getElem?_getD, List.getD_eq_getElem?_getD, List.getElem?_eq_getElem (Nat.lt_trans h1 h2), List.getElem?_eq_getElem h2]
    exact List.pairwise_iff_getElem.mp hF i j _ h2 h1
  induction I with
  | nil => exact List.nodup_nil
  | cons i r ih =>
    rw [List.map_cons]
    refine List.nodup_cons.mpr ⟨fun q => ?_, ih (List.nodup_cons.mp hI).2 fun j hj => hb j (.tail _ hj)⟩
    obtain ⟨j, hj, e⟩ := List.mem_map.mp q
    have hij : i ≠ j := fun q => (List.nodup_cons.mp hI).1 (q ▸ hj)
    rcases Nat.lt_or_gt_of_ne hij with h | h
    · exact Nat.lt_irrefl _ (e ▸ lt i j h (hb j (.tail _ hj)))
    · exact Nat.lt_irrefl _ (e ▸ lt j i h (hb i (.head _)))
inductive Asc : List Nat → Prop
  | one (a : Nat) : Asc [a]
  | cons {a b : Nat} {l : List Nat} (h : a < b) (r : Asc (b :: l)) : Asc (a :: b :: l)
theorem Asc.all {a : Nat} : ∀ {l : List Nat}, Asc (a :: l) → ∀ c ∈ l, a < c := by
  intro l
  induction l generalizing a with
  | nil => intro _ c hc; cases hc
  | cons b r ih =>
    intro h c hc
    cases h with
    | cons h1 h2 =>
      cases hc with
      | head => exact h1
      | tail _ hc => exact Nat.lt_trans h1 (ih h2 c hc)
theorem Asc.pairwise : ∀ {l : List Nat}, Asc l → l.Pairwise (· < ·) := by
  intro l
  induction l with
  | nil => intro _; exact .nil
  | cons a r ih =>
    intro h
    refine List.pairwise_cons.mpr ⟨h.all, ?_⟩
    cases h with
    | one => exact .nil
    | cons _ h2 => exact ih h2
theorem nd_asc {F : List Nat} (hF : Asc F) (n : Nat) (I : List Nat) (hn : F.length = n) (hI : I.Nodup) (hb : ∀ i ∈ I, i < n) : NdA (I.map fun i => F.getD i 0) :=
  nd_perm hF.pairwise I hI fun i hi => by rw [hn]; exact hb i hi
theorem nd10 {pc bm dx wr da ds ns ps dd : Nat} (h : 123 < pc ∧ pc < bm ∧ bm < dx ∧ dx < wr ∧ wr < da ∧ da < ds ∧ ds < ns ∧ ns < ps ∧ ps < dd) : NdA [dd, ds, ns, ps, pc, da, bm, wr, dx, 123] := by
  obtain ⟨h1, h2, h3, h4, h5, h6, h7, h8, h9⟩ := h
  exact nd_asc (F := [123, pc, bm, dx, wr, da, ds, ns, ps, dd]) (.cons h1 (.cons h2 (.cons h3 (.cons h4 (.cons h5 (.cons h6 (.cons h7 (.cons h8 (.cons h9 (.one _)))))))))) 10 [9, 6, 7, 8, 1, 5, 2, 4, 3, 0] rfl (by decide) (by decide)
theorem nd11 {pc bm dx wr da ds ns ps dd c' : Nat} (h : 123 < pc ∧ pc < bm ∧ bm < dx ∧ dx < wr ∧ wr < da ∧ da < ds ∧ ds < ns ∧ ns < ps ∧ ps < dd) (h1 : ps < c') (h2 : c' < dd) : NdA [dd, ds, ns, ps, pc, da, bm, wr, dx, 123, c'] := by
  obtain ⟨q1, q2, q3, q4, q5, q6, q7, q8, q9⟩ := h
  exact nd_asc (F := [123, pc, bm, dx, wr, da, ds, ns, ps, c', dd]) (.cons q1 (.cons q2 (.cons q3 (.cons q4 (.cons q5 (.cons q6 (.cons q7 (.cons q8 (.cons h1 (.cons h2 (.one _))))))))))) 11 [10, 6, 7, 8, 1, 5, 2, 4, 3, 0, 9] rfl (by decide) (by decide)
theorem nd8 {pc bm dx wr da ds ns ps : Nat} (h : 123 < pc ∧ pc < bm ∧ bm < dx ∧ dx < wr ∧ wr < da ∧ da < ds ∧ ds < ns ∧ ns < ps) : NdA [ds, ns, ps, pc, da, bm, wr, dx] := by
  obtain ⟨q1, q2, q3, q4, q5, q6, q7, q8⟩ := h
  exact nd_asc (F := [pc, bm, dx, wr, da, ds, ns, ps]) (.cons q2 (.cons q3 (.cons q4 (.cons q5 (.cons q6 (.cons q7 (.cons q8 (.one _)))))))) 8 [5, 6, 7, 0, 4, 1, 3, 2] rfl (by decide) (by decide)
theorem nd5 {dx wr da ns lN : Nat} (h : dx < wr ∧ wr < da ∧ da < ns ∧ ns < lN) : NdA [lN, ns, da, wr, dx] := by
  obtain ⟨q1, q2, q3, q4⟩ := h
  exact nd_asc (F := [dx, wr, da, ns, lN]) (.cons q1 (.cons q2 (.cons q3 (.cons q4 (.one _))))) 5 [4, 3, 2, 1, 0] rfl (by decide) (by decide)
theorem sub_idx {F : List Nat} (n : Nat) (I : List Nat) (hn : F.length = n) (hb : ∀ i ∈ I, i < n) : ∀ x ∈ I.map (fun i => F.getD i 0), x ∈ F := fun x hx => by
  obtain ⟨i, hi, rfl⟩ := List.mem_map.mp hx
  have h : i < F.length := by rw [hn]; exact hb i hi
  rw [List.getD_eq_getElem?_getD, List.getElem?_eq_getElem h]
  exact List.getElem_mem h
theorem off_idx {F : List Nat} (nd : NdA F) (n : Nat) (I : List Nat) (j : Nat) (hn : F.length = n) (hj : j < n) (hb : ∀ i ∈ I, i < n ∧ i ≠ j) : F.getD j 0 ∉ I.map (fun i => F.getD i 0) := fun hx => by
  obtain ⟨i, hi, e⟩ := List.mem_map.mp hx
  obtain ⟨h1, h2⟩ := hb i hi
  have q1 : i < F.length := by rw [hn]; exact h1
  have q2 : j < F.length := by rw [hn]; exact hj
  rw [List.getD_eq_getElem?_getD, List.getD_eq_getElem?_getD, List.getElem?_eq_getElem q1, List.getElem?_eq_getElem q2] at e
  exact h2 ((List.getElem_inj nd).mp e)
theorem Asc.le_last {l : List Nat} {z : Nat} (h : Asc (l ++ [z])) : ∀ x ∈ l, x < z := fun x hx =>
  (List.pairwise_append.mp h.pairwise).2.2 x hx z (.head _)
end Mine
end
section
open PySem PySem.W PyProof.Rows PySem.W.X PySem.Calls
set_option pp.deepTerms false
set_option pp.proofs false
namespace Mine
set_option maxRecDepth 100000
set_option maxHeartbeats 8000000
abbrev vstr (x : String) (t : Nat) : Value := .str (Str.ofString x) t
abbrev nsPairs : List (Str × Value) := [
  (Str.ofString "http://www.w3.org/XML/1998/namespace", vstr "xml" 330),
  (Str.ofString "http://www.w3.org/1999/xhtml", vstr "html" 332),
  (Str.ofString "http://www.w3.org/1999/02/22-rdf-syntax-ns#", vstr "rdf" 334),
  (Str.ofString "http://schemas.xmlsoap.org/wsdl/", vstr "wsdl" 336),
  (Str.ofString "http://www.w3.org/2001/XMLSchema", vstr "xs" 338),
  (Str.ofString "http://www.w3.org/2001/XMLSchema-instance", vstr "xsi" 340),
  (Str.ofString "http://purl.org/dc/elements/1.1/", vstr "dc" 342)]
theorem nm_dict {w : World} {h : Heap} (X : (hd.heap_39 w.params).In h) : ∃ ep, h.DictAt (strKind lawProg w) 44 nsPairs ep := by
  have ho := X 44 _ (by k_is)
  refine ⟨_, _, _, ho, ⟨rfl, rfl, rfl⟩, rfl, ?_, ?_, ?_⟩
  · intro e he
    simp only [List.mem_toArray, List.mem_cons, List.not_mem_nil, or_false] at he
    rcases he with rfl | rfl | rfl | rfl | rfl | rfl | rfl <;> exact ⟨_, strKind_is lawProg w _ _, rfl⟩
  · repeat (first | exact Pairs.nil | refine Pairs.cons (strKind_is lawProg w _ _) rfl ?_)
  · decide +kernel
section
variable {w : World} {A : Around} {E : Value → Shared → Prop} {s : Shared} {h₀ : Heap} {L : Addr} {m : Str → Option Value} {news : List (Addr × Obj)}
theorem nm_getMethod {pl : Sem Bool} {Q : Value × List Value → Shared → Prop} (F : Fr h₀ L s.heap m) (X : (hd.heap_39 w.params).In h₀) (h : Q (.builtin "dict.items", [.ref 44]) s) :
    wpAny (LM w) A (getMethod (.ref 44) (Str.ofString "items") pl) Q E s := by
  obtain ⟨ep, hd⟩ := nm_dict (X.keeps F.keep)
  have hD := Heap.DictAt.dictOf hd
  exact getMethod_builtin hD.typeIs PySem.F.plainAttrs_dict PySem.F.slot_dict_items PySem.F.type_dict_items hD.mapOf.noDict h
theorem nm_items {Q : Value → Shared → Prop} (F : Fr h₀ L s.heap m) (X : (hd.heap_39 w.params).In h₀) (N : News h₀ L s.heap news)
    (h : ∀ (D : Addr) h', Fr h₀ L h' m → News h₀ L h' ((D, { cls := .type "dict_items", data := .fields #[.ref 44] }) :: news) → (∀ q ∈ news, q.1 < D) → Q (.ref D) { s with heap := h' }) :
    wpAny (LM w) A (call (.builtin "dict.items") [.ref 44]) Q E s := by
  obtain ⟨ep, hd⟩ := nm_dict (X.keeps F.keep)
  have hD := Heap.DictAt.dictOf hd
  exact call_meetsIn PySem.F.slot_dict_items hD.typeIs PySem.F.entry_dict_items (PySem.F.args_dict_items_1 _) (meets_dict_items (strKind lawProg w) 44 (by decide)) ⟨⟨nsPairs, hD⟩, h _ _ (F.push _) (News.push F N _) fun q hq => Heap.lt_size (N q hq).1⟩
theorem nm_list {v : Addr} {Q : Value → Shared → Prop} (hh : A.handled = none) (F : Fr h₀ L s.heap m) (X : (hd.heap_39 w.params).In h₀) (N : News h₀ L s.heap news) (hvw : (v, ({ cls := .type "dict_items", data := .fields #[.ref 44] } : Obj)) ∈ news)
    (h : ∀ (B a1 a2 a3 a4 a5 a6 a7 : Addr) (t1 t2 t3 t4 t5 t6 t7 : Tok) c h' tk, (∀ p ∈ news, p.1 < B) → (∀ p ∈ (B, W.listOf #[.ref a1, .ref a2, .ref a3, .ref a4, .ref a5, .ref a6, .ref a7] c) :: news, p.1 < a1) → (∀ p ∈ (a1, tupO [vstr "http://www.w3.org/XML/1998/namespace" t1, vstr "xml" 330]) :: (B, W.listOf #[.ref a1, .ref a2, .ref a3, .ref a4, .ref a5, .ref a6, .ref a7] c) :: news, p.1 < a2) → (∀ p ∈ (a2, tupO [vstr "http://www.w3.org/1999/xhtml" t2, vstr "html" 332]) :: (a1, tupO [vstr "http://www.w3.org/XML/1998/namespace" t1, vstr "xml" 330]) :: (B, W.listOf #[.ref a1, .ref a2, .ref a3, .ref a4, .ref a5, .ref a6, .ref a7] c) :: news, p.1 < a3) → (∀ p ∈ (a3, tupO [vstr "http://www.w3.org/1999/02/22-rdf-syntax-ns#" t3, vstr "rdf" 334]) :: (a2, tupO [vstr "http://www.w3.org/1999/xhtml" t2, vstr "html" 332]) :: (a1, tupO [vstr "http://www.w3.org/XML/1998/namespace" t1, vstr "xml" 330]) :: (B, W.listOf #[.ref a1, .ref a2, .ref a3, .ref a4, .ref a5, .ref a6, .ref a7] c) :: news, p.1 < a4) → (∀ p ∈ (a4, tupO [vstr "http://schemas.xmlsoap.org/wsdl/" t4, vstr "wsdl" 336]) :: (a3, tupO [vstr "http://www.w3.org/1999/02/22-rdf-syntax-ns#" t3, vstr "rdf" 334]) :: (a2, tupO [vstr "http://www.w3.org/1999/xhtml" t2, vstr "html" 332]) :: (a1, tupO [vstr "http://www.w3.org/XML/1998/namespace" t1, vstr "xml" 330]) :: (B, W.listOf #[.ref a1, .ref a2, .ref a3, .ref a4, .ref a5, .ref a6, .ref a7] c) :: news, p.1 < a5) → (∀ p ∈ (a5, tupO [vstr "http://www.w3.org/2001/XMLSchema" t5, vstr "xs" 338]) :: (a4, tupO [vstr "http://schemas.xmlsoap.org/wsdl/" t4, vstr "wsdl" 336]) :: (a3, tupO [vstr "http://www.w3.org/1999/02/22-rdf-syntax-ns#" t3, vstr "rdf" 334]) :: (a2, tupO [vstr "http://www.w3.org/1999/xhtml" t2, vstr "html" 332]) :: (a1, tupO [vstr "http://www.w3.org/XML/1998/namespace" t1, vstr "xml" 330]) :: (B, W.listOf #[.ref a1, .ref a2, .ref a3, .ref a4, .ref a5, .ref a6, .ref a7] c) :: news, p.1 < a6) → (∀ p ∈ (a6, tupO [vstr "http://www.w3.org/2001/XMLSchema-instance" t6, vstr "xsi" 340]) :: (a5, tupO [vstr "http://www.w3.org/2001/XMLSchema" t5, vstr "xs" 338]) :: (a4, tupO [vstr "http://schemas.xmlsoap.org/wsdl/" t4, vstr "wsdl" 336]) :: (a3, tupO [vstr "http://www.w3.org/1999/02/22-rdf-syntax-ns#" t3, vstr "rdf" 334]) :: (a2, tupO [vstr "http://www.w3.org/1999/xhtml" t2, vstr "html" 332]) :: (a1, tupO [vstr "http://www.w3.org/XML/1998/namespace" t1, vstr "xml" 330]) :: (B, W.listOf #[.ref a1, .ref a2, .ref a3, .ref a4, .ref a5, .ref a6, .ref a7] c) :: news, p.1 < a7) → 
      Fr h₀ L h' m → News h₀ L h' ((a7, tupO [vstr "http://purl.org/dc/elements/1.1/" t7, vstr "dc" 342]) :: (a6, tupO [vstr "http://www.w3.org/2001/XMLSchema-instance" t6, vstr "xsi" 340]) :: (a5, tupO [vstr "http://www.w3.org/2001/XMLSchema" t5, vstr "xs" 338]) :: (a4, tupO [vstr "http://schemas.xmlsoap.org/wsdl/" t4, vstr "wsdl" 336]) :: (a3, tupO [vstr "http://www.w3.org/1999/02/22-rdf-syntax-ns#" t3, vstr "rdf" 334]) :: (a2, tupO [vstr "http://www.w3.org/1999/xhtml" t2, vstr "html" 332]) :: (a1, tupO [vstr "http://www.w3.org/XML/1998/namespace" t1, vstr "xml" 330]) :: (B, W.listOf #[.ref a1, .ref a2, .ref a3, .ref a4, .ref a5, .ref a6, .ref a7] c) :: news) → Q (.ref B) { s with heap := h', toks := tk }) :
    wpAny (LM w) A (call (.type "list") [.ref v]) Q E s := by
  obtain ⟨ep, hd⟩ := nm_dict (X.keeps F.keep)
  refine kdx_call (knd := strKind lawProg w) (kvs := nsPairs) (ep := ep) hh ⟨_, (N _ hvw).1, rfl, rfl⟩ hd (by decide) fun h' tk acc c as hk hS hl hG hacc => ?_
  have pr : ∀ (j : Nat) (a : Addr) (k : Str) (x : Value), as[j]? = some a → nsPairs[j]? = some (k, x) → ∃ t, h'.get? a = some (tupO [.str k t, x]) := fun j a k x e1 e2 => by
    obtain ⟨key, k', x', e3, e4, e5⟩ := hG.pairs j a e1
    rw [e2] at e3; cases e3
    obtain ⟨t, rfl⟩ := Value.isStrOf_shape (show Value.isStrOf k key = true from e4)
    exact ⟨t, e5⟩
  obtain ⟨a1, a2, a3, a4, a5, a6, a7, rfl⟩ : ∃ a1 a2 a3 a4 a5 a6 a7 : Nat, as = [a1, a2, a3, a4, a5, a6, a7] := by
    match as, hl with
    | [a1, a2, a3, a4, a5, a6, a7], _ => exact ⟨a1, a2, a3, a4, a5, a6, a7, rfl⟩
  have ea : acc = #[.ref a1, .ref a2, .ref a3, .ref a4, .ref a5, .ref a6, .ref a7] := by
    rw [← Array.toArray_toList (xs := acc), hacc]; rfl
  subst ea
  have hr : List.Pairwise (fun (x y : Nat) => x < y) [a1, a2, a3, a4, a5, a6, a7] := hG.rise
  have hab : ∀ (a : Nat), a ∈ [a1, a2, a3, a4, a5, a6, a7] → s.heap.objs.size < a := hG.above
  simp only [List.pairwise_cons, List.mem_cons, List.not_mem_nil, or_false, forall_eq_or_imp, forall_eq, false_implies, implies_true, List.Pairwise.nil, and_true] at hr hab
  obtain ⟨t1, e1⟩ := pr 0 a1 _ _ rfl rfl
  obtain ⟨t2, e2⟩ := pr 1 a2 _ _ rfl rfl
  obtain ⟨t3, e3⟩ := pr 2 a3 _ _ rfl rfl
  obtain ⟨t4, e4⟩ := pr 3 a4 _ _ rfl rfl
  obtain ⟨t5, e5⟩ := pr 4 a5 _ _ rfl rfl
  obtain ⟨t6, e6⟩ := pr 5 a6 _ _ rfl rfl
  obtain ⟨t7, e7⟩ := pr 6 a7 _ _ rfl rfl
  have low : ∀ p ∈ news, p.1 < s.heap.objs.size := fun p hp => Heap.lt_size (N p hp).1
  have lowB : ∀ (x : Nat), s.heap.objs.size < x → ∀ p ∈ (s.heap.objs.size, W.listOf #[.ref a1, .ref a2, .ref a3, .ref a4, .ref a5, .ref a6, .ref a7] c) :: news, p.1 < x := fun x hx p hp => by
    rcases List.mem_cons.mp hp with rfl | hp
    · exact hx
    · exact Nat.lt_trans (low p hp) hx
  have cons : ∀ (x y : Nat) (o : Obj) (l : List (Addr × Obj)), y < x → (∀ p ∈ l, p.1 < x) → ∀ p ∈ (y, o) :: l, p.1 < x := fun x y o l h1 h2 p hp => by
    rcases List.mem_cons.mp hp with rfl | hp
    · exact h1
    · exact h2 p hp
  have new : ∀ (a : Nat) o, s.heap.objs.size ≤ a → h'.get? a = some o → h'.get? a = some o ∧ a ≠ L ∧ h₀.get? a = none := fun a o ha e => ⟨e, kdx_fresh F ha⟩
  refine h s.heap.objs.size a1 a2 a3 a4 a5 a6 a7 t1 t2 t3 t4 t5 t6 t7 c h' tk low ?_ ?_ ?_ ?_ ?_ ?_ ?_ (F.keeps hk) ?_
  · exact lowB a1 (by omega)
  · exact cons _ _ _ _ (by omega) (lowB a2 (by omega))
  · exact cons _ _ _ _ (by omega) (cons _ _ _ _ (by omega) (lowB a3 (by omega)))
  · exact cons _ _ _ _ (by omega) (cons _ _ _ _ (by omega) (cons _ _ _ _ (by omega) (lowB a4 (by omega))))
  · exact cons _ _ _ _ (by omega) (cons _ _ _ _ (by omega) (cons _ _ _ _ (by omega) (cons _ _ _ _ (by omega) (lowB a5 (by omega)))))
  · exact cons _ _ _ _ (by omega) (cons _ _ _ _ (by omega) (cons _ _ _ _ (by omega) (cons _ _ _ _ (by omega) (cons _ _ _ _ (by omega) (lowB a6 (by omega))))))
  · exact cons _ _ _ _ (by omega) (cons _ _ _ _ (by omega) (cons _ _ _ _ (by omega) (cons _ _ _ _ (by omega) (cons _ _ _ _ (by omega) (cons _ _ _ _ (by omega) (lowB a7 (by omega)))))))
  · intro p hp
    simp only [List.mem_cons] at hp
    rcases hp with rfl | rfl | rfl | rfl | rfl | rfl | rfl | rfl | hp
    · exact new _ _ (by omega) e7
    · exact new _ _ (by omega) e6
    · exact new _ _ (by omega) e5
    · exact new _ _ (by omega) e4
    · exact new _ _ (by omega) e3
    · exact new _ _ (by omega) e2
    · exact new _ _ (by omega) e1
    · exact new _ _ (Nat.le_refl _) hS
    · exact ⟨hk _ _ (N p hp).1, (N p hp).2⟩
end
end Mine
end
namespace Mine
open PySem PySem.W PyProof.Rows PySem.W.X PySem.Calls
set_option maxRecDepth 100000
set_option maxHeartbeats 8000000
section
open PySem PySem.W PyProof.Rows PySem.W.X PySem.Calls
set_option pp.deepTerms false
set_option pp.proofs false
set_option maxRecDepth 100000
set_option maxHeartbeats 8000000
/-- one telling, as it lies -/
structure Tel where
  a : Nat
  place : Str
  word : Str
  uri : Str
  t1 : Tok
  t2 : Tok
  t3 : Tok
abbrev Tel.obj (e : Tel) : Obj := tupO [.str e.place e.t1, .str e.word e.t2, .str e.uri e.t3]
abbrev lstO (vs : Array Value) (n : Nat) : Obj := { cls := .type "list", data := .seq vs n }
abbrev tRefs (ts : List Tel) : Array Value := (ts.map fun e => Value.ref e.a).toArray
abbrev mgDict (w : World) (k : Tok) (pd : Addr) : Obj := dictOf [{ hash := PyData.keyHash w.params (Str.ofString "passwd"), key := .str (Str.ofString "passwd") k, val := .ref pd }] 1
/-- is_suburi upon two places -/
def sub (place here : Str) : Bool := place == here || Txt.startswith here (if Txt.slice place (some (-1)) none != Str.ofString "/" then place ++ Str.ofString "/" else place)
structure DueSt where
  depth : Int
  found : Option Str
def dueStep (pre here : Str) (d : DueSt) (e : Tel) : DueSt :=
  if e.word = pre ∧ (e.place.length : Int) > d.depth ∧ sub e.place here = true then ⟨e.place.length, some (Str.ofString "{" ++ e.uri ++ Str.ofString "}x")⟩ else d
def dueStart (pre : Str) : DueSt := ⟨-1, if pre = Str.ofString "xs" then some (Str.ofString "{http://www.w3.org/2001/XMLSchema}x") else none⟩
def due (pre here : Str) (ts : List Tel) : Option Str := (ts.foldl (dueStep pre here) (dueStart pre)).found
def IsOpt (v : Value) (o : Option Str) : Prop := (o = none ∧ v = .none) ∨ ∃ x t, o = some x ∧ v = .str x t
def dueM (m₀ : Str → Option Value) (u1 u2 u3 : Option Value) (fv : Value) (d : Int) (td : Tok) : Str → Option Value := fun z => if z = Str.ofString "uri" then u3 else if z = Str.ofString "word" then u2 else if z = Str.ofString "place" then u1 else if z = Str.ofString "found" then some fv else if z = Str.ofString "depth" then some (.int d td) else m₀ z
theorem dueM_of {m1 base : Str → Option Value} {fv : Value} {td : Tok} (hf : m1 (Str.ofString "found") = some fv) (hd : m1 (Str.ofString "depth") = some (.int (-1) td)) (ho : ∀ y, y ≠ Str.ofString "found" → y ≠ Str.ofString "depth" → m1 y = base y) :
    m1 = dueM base (m1 (Str.ofString "place")) (m1 (Str.ofString "word")) (m1 (Str.ofString "uri")) fv (-1) td := by
  funext y
  unfold dueM
  by_cases h1 : y = Str.ofString "uri"
  · rw [if_pos h1, h1]
  rw [if_neg h1]
  by_cases h2 : y = Str.ofString "word"
  · rw [if_pos h2, h2]
  rw [if_neg h2]
  by_cases h3 : y = Str.ofString "place"
  · rw [if_pos h3, h3]
  rw [if_neg h3]
  by_cases h4 : y = Str.ofString "found"
  · rw [if_pos h4, h4, hf]
  rw [if_neg h4]
  by_cases h5 : y = Str.ofString "depth"
  · rw [if_pos h5, h5, hd]
  rw [if_neg h5]
  exact ho y h4 h5
theorem sub_a {place here : Str} (h : place = here) : sub place here = true := by simp [sub, h]
theorem sub_b {place here : Str} (h1 : (Txt.slice place (some (-1)) none != Str.ofString "/") = true) (h2 : Txt.startswith here (place ++ Str.ofString "/") = true) : sub place here = true := by simp [sub, h1, h2]
theorem sub_c {place here : Str} (h1 : (Txt.slice place (some (-1)) none != Str.ofString "/") = false) (h2 : Txt.startswith here place = true) : sub place here = true := by simp [sub, h1, h2]
theorem sub_d {place here : Str} (h : ¬ place = here) (h1 : (Txt.slice place (some (-1)) none != Str.ofString "/") = true) (h2 : Txt.startswith here (place ++ Str.ofString "/") = false) : ¬ sub place here = true := by
  have e : (place == here) = false := by simp [h]
  simp [sub, h1, h2, e]
theorem sub_e {place here : Str} (h : ¬ place = here) (h1 : (Txt.slice place (some (-1)) none != Str.ofString "/") = false) (h2 : Txt.startswith here place = false) : ¬ sub place here = true := by
  have e : (place == here) = false := by simp [h]
  simp [sub, h1, h2, e]
theorem ne_of_beq {x y : Str} (h : (x == y) = false) : ¬ x = y := fun q => by rw [q] at h; simp at h
theorem dueM_at {m1 base : Str → Option Value} {fv : Value} {d : Int} {td : Tok} (hf : m1 (Str.ofString "found") = some fv) (hd : m1 (Str.ofString "depth") = some (.int d td))
    (ho : ∀ y, y ≠ Str.ofString "found" → y ≠ Str.ofString "depth" → y ≠ Str.ofString "uri" → y ≠ Str.ofString "word" → y ≠ Str.ofString "place" → m1 y = base y) :
    m1 = dueM base (m1 (Str.ofString "place")) (m1 (Str.ofString "word")) (m1 (Str.ofString "uri")) fv d td := by
  funext y
  unfold dueM
  by_cases h1 : y = Str.ofString "uri"
  · rw [if_pos h1, h1]
  rw [if_neg h1]
  by_cases h2 : y = Str.ofString "word"
  · rw [if_pos h2, h2]
  rw [if_neg h2]
  by_cases h3 : y = Str.ofString "place"
  · rw [if_pos h3, h3]
  rw [if_neg h3]
  by_cases h4 : y = Str.ofString "found"
  · rw [if_pos h4, h4, hf]
  rw [if_neg h4]
  by_cases h5 : y = Str.ofString "depth"
  · rw [if_pos h5, h5, hd]
  rw [if_neg h5]
  exact ho y h4 h5 h1 h2 h3
def DueJ (pre here : Str) (ts : List Tel) (base : Str → Option Value) (g₀ : Array GenState) (news₀ : List (Addr × Obj)) (i : Nat) (m : Str → Option Value) (news : List (Addr × Obj)) (g : Array GenState) : Prop :=
  g = g₀ ∧ news = news₀ ∧ ∃ u1 u2 u3 fv td, IsOpt fv ((ts.take i).foldl (dueStep pre here) (dueStart pre)).found ∧ m = dueM base u1 u2 u3 fv ((ts.take i).foldl (dueStep pre here) (dueStart pre)).depth td
theorem DueJ.intro {pre here : Str} {ts : List Tel} {base m : Str → Option Value} {g : Array GenState} {news : List (Addr × Obj)} {i : Nat} {u1 u2 u3 : Option Value} {fv : Value} {td : Tok} {st : DueSt}
    (hst : (ts.take i).foldl (dueStep pre here) (dueStart pre) = st) (ho : IsOpt fv st.found) (hm : m = dueM base u1 u2 u3 fv st.depth td) : DueJ pre here ts base g news i m news g := by
  subst hst
  exact ⟨rfl, rfl, u1, u2, u3, fv, td, ho, hm⟩
theorem dueStart_xs {pre : Str} (h : (pre == Str.ofString "xs") = true) : (dueStart pre).found = some (Str.ofString "{http://www.w3.org/2001/XMLSchema}x") := by
  have e : pre = Str.ofString "xs" := eq_of_beq h
  simp [dueStart, e]
theorem dueStart_no {pre : Str} (h : (pre == Str.ofString "xs") = false) : (dueStart pre).found = none := by
  have e : pre ≠ Str.ofString "xs" := fun q => by rw [q] at h; simp at h
  simp [dueStart, e]
end
local macro_rules | `(tactic| walk_at $s) => `(tactic| ((have hG9 : HoldK $s := (by with_reducible assumption)); clear hG9; k_here; refine Held.go ?_))
local macro_rules | `(tactic| walk_at "call ref") => `(tactic| (k_here; refine' hold_ref ?hh ?_; (case hh => assumption)))
local macro_rules | `(tactic| ktr_enter) => `(tactic| ((refine' code_defH ?k1 ?k2 ?k3 ?k4 ?k5 ?kA ?kF ?kK ?k6 ?k7 ?k8 ?k9 ?kB ?_ ?c2 ?c3 ?c4 ?c5; (case kA => exact rfl); (case kF => exact rfl); (case kK => assumption); (case k1 => k_asm); (case k2 => k_asm); (case k3 => k_asm); (case k4 => k_asm); (case k5 => k_asm); (case k6 => k_is); (case k7 => k_is); (case k8 => ktr_room); (case k9 => exact BindsTo.of_eq rfl); (case c5 => decide); (case kB => exact locs rfl); (case c2 => exact rfl); (case c3 => exact rfl); (case c4 => exact rfl); k_whole)))
local macro_rules | `(tactic| walk_at "compareOp Eq ref ref") => `(tactic| (k_here; (with_reducible show wpAny _ _ (compareOp CmpOp.Eq (Value.ref _) (Value.ref _)) _ _ _); k_dflt (refine' eq_pair ?N ?m1 ?m2 ?o1 ?o2 ?u ?_; (case N => k_asm); (case m1 => k_mem); (case m2 => k_mem); (case o1 => assumption); (case o2 => assumption); (case u => k_units))))
local macro_rules | `(tactic| walk_at "joinParts") => `(tactic| ((have hG9 : HoldK "jp" := (by with_reducible assumption)); clear hG9; k_here; (with_reducible show wpAny _ _ (joinParts _ (evalEach [] _)) _ _ _); refine Held.go ?_))
local macro_rules | `(tactic| walk_at "newTuple") => `(tactic| ((have hG9 : HoldK "tup" := (by with_reducible assumption)); clear hG9; k_here; k_dflt (refine' newTupleB ?F ?N ?_ ?z; (case F => k_asm); (case N => k_asm); (case z => kmk_size)); intro D' h' F' N' l1 hB'; (try k_lt l1); (try k_sweep)))
local macro_rules | `(tactic| walk_at "call builtin:list.append") => `(tactic| ((have hG9 : HoldK "app" := (by with_reducible assumption)); clear hG9; k_here; (with_reducible show wpAny _ _ (call (Value.builtin _) [Value.ref _, _]) _ _ _); k_dflt (refine' append_K ?k1 ?k2 ?k3 ?_ ?z; (case k1 => k_asm); (case k2 => k_asm); (case k3 => k_upd); (case z => first | size_fits | (rw [sizeLine_eq]; (try simp only [tRefs, List.size_toArray, Array.size_push, List.length_append, List.length_singleton, List.length_map]); omega)); k_whole); intro h' F' N'; (try k_sweep)))
local macro_rules | `(tactic| k_all) => `(tactic| with_reducible assumption)
local macro_rules | `(tactic| walk_at "ND0") => `(tactic| first | (k_dflt assumption) | (k_dflt (exact ndCells (by assumption) (by assumption))))
local macro_rules | `(tactic| k_lt $h) => `(tactic| first | (have hAl := $h; have hNd := ndPush $h (by walk_at "ND0"); dsimp only [List.map] at hNd; replace $h := allLt_of $h; simp only [AllLt, and_true] at $h:ident) | fail)
local macro_rules | `(tactic| k_lt2 $h) => `(tactic| first | (have hNd := ndPush2 (by k_dflt assumption) $h (by k_dflt assumption); dsimp only [List.map] at hNd; replace $h := ltN $h) | fail)
local macro_rules | `(tactic| walk_at "UI") => `(tactic| first | (k_dflt (exact UpdI.head)) | ((k_dflt (refine' UpdI.tail ?uxt)); (case uxt => walk_at "UI")))
local macro_rules | `(tactic| walk_at "UG") => `(tactic| first | (k_dflt (exact UpdG.head)) | ((k_dflt (refine' UpdG.tail ?uxt)); (case uxt => walk_at "UG")))
local macro_rules | `(tactic| k_upd) => `(tactic| first | (refine' updI ?ndx ?ux; (case ux => walk_at "UI"); (case ndx => walk_at "ND0")) | fail)
local macro_rules | `(tactic| k_updF) => `(tactic| first | (refine' updG ?ndx ?ux; (case ux => walk_at "UG"); (case ndx => walk_at "ND0")) | fail)
local macro_rules | `(tactic| walk_at "execs cons") => `(tactic| (k_here; k_dflt (refine execs_consT ?_); intro tk; (try k_fold)))
section
open PySem PySem.W PyProof.Rows PySem.W.X PySem.Calls
set_option pp.deepTerms false
set_option pp.proofs false
set_option maxRecDepth 100000
set_option maxHeartbeats 8000000
theorem t_due {w : World} {cn : Str} {cs : Scope} {a : Addr} {ccd : Value} {base h₀ : Heap} {L : Addr}
    {m mg mb : Str → Option Value} {loose : List Str} {mean : ExcName → Option Value} {s : Shared} {Q E : Value → Shared → Prop} {mx dx pd tl : Addr} {ts : List Tel} {n : Nat} {k : Tok} {pre here : Str} {t1 t2 : Tok}
    (B : Below callerA base [] h₀) (F : Fr h₀ L s.heap m) (X : (hd.heap_39 w.params).In h₀) (T : Top topProg loose mean mg mb h₀) (hk : cs.kind = .function)
    (N : News h₀ L s.heap [(tl, lstO (tRefs ts) n), (mx, instObj 214 dx), (dx, mgDict w k pd)])
    (hts : ∀ e ∈ ts, s.heap.get? e.a = some e.obj) (hlen : ∀ e ∈ ts, e.place.length ≤ 1000 ∧ e.uri.length ≤ 1000 ∧ PyData.strOk e.place = true) (hlh : here.length ≤ 1000) (hlo : PyData.strOk here = true)
    (hret : ∀ r h' tk', Keeps s.heap h' → IsOpt r (due pre here ts) → Q r { s with heap := h', toks := tk' }) :
    wpAny (model lawProg w) (callerA.deeper (envOf cn cs L a ccd)) (call (.ref 239) [.ref mx, .ref tl, .str pre t1, .str here t2]) Q E s := by
  have hk0 : HoldK "exec For Tuple Name cons nil" := .on _
  have hk1 : HoldK "exec For Tuple Call cons nil" := .on _
  have hk2 : HoldK "eval IfExp" := .on _
  refine wpAny_call ?_
  ktr_enter
  intro g' L' h' hg FG' F' N' B' X' T'; (try dsimp only); (try k_fold)
  k_steps
  refine Held.mk ?_
  refine eval_cut (fun v => IsOpt v (dueStart pre).found) ?val fun fv t0 hfv0 => ?_
  case val =>
    clear hk2
    k_steps
    · rename (_ == _) = _ => hx
      exact ⟨.inr ⟨_, _, dueStart_xs hx, rfl⟩, _, rfl⟩
    · rename (_ == _) = _ => hx
      exact ⟨.inl ⟨dueStart_no hx, rfl⟩, _, rfl⟩
  dsimp only
  k_steps
  refine Held.mk ?_
  rename Fr _ _ _ _ => F1
  rename News _ _ _ _ => N1
  refine wpAny_For (wpAny_Name (wpAny_loadName_local rfl rfl F1.ns rfl ?_))
  refine for_K (items := tRefs ts) (DueJ pre here ts (fun y => List.lookup y [(Str.ofString "here", .str here t2), (Str.ofString "prefix", .str pre t1), (Str.ofString "tellings", .ref tl), (Str.ofString "manager", .ref mx)]) s.gens [(tl, lstO (tRefs ts) n), (mx, instObj 214 dx), (dx, mgDict w k pd)]) rfl F1 N1 (DueJ.intro rfl hfv0 (dueM_of rfl rfl (fun y h1 h2 => by simp only [if_neg h1, if_neg h2]; rfl))) ?_ ?_ ?_ ?_
  · rintro i m news g ⟨_, rfl, _⟩; rfl
  · rintro i m news g h ⟨_, rfl, _⟩ _ N; exact ⟨_, (N _ (.head _)).1, rfl, _, rfl⟩
  · rintro it oit i v m news g h tk hv ⟨rfl, rfl, u1, u2, u3, fv, td, hfv, rfl⟩ F2 N2 hli hoff
    have hi : i < ts.length := by
      have := (Array.getElem?_eq_some_iff.mp hv).1
      simpa using this
    have hv' : v = .ref ts[i].a := by
      simp [tRefs, hi] at hv
      exact hv.symm
    subst hv'
    have hte := hts ts[i] (List.getElem_mem hi)
    obtain ⟨hl1, hl2, hl3⟩ := hlen ts[i] (List.getElem_mem hi)
    have htk : ts.take (i + 1) = ts.take i ++ [ts[i]] := List.take_succ_eq_append_getElem hi
    generalize ts[i] = e at *
    obtain ⟨pa, place, word, uri, q1, q2, q3⟩ := e
    dsimp only at hte hl1 hl2 hl3 hv
    have hne : pa ∉ [(tl, lstO (tRefs ts) n), (mx, instObj 214 dx), (dx, mgDict w k pd)].map (·.1) := fun q => by
      obtain ⟨p, hp, e⟩ := List.mem_map.mp q
      have h1 := (N p hp).1
      rw [e, hte] at h1
      simp only [List.mem_cons, List.not_mem_nil, or_false] at hp
      rcases hp with rfl | rfl | rfl <;> simp [lstO, tupO, Tel.obj, mgDict] at h1
    have htb := hg _ _ hte hne
    refine goTup (o := oit) (N2 _ (.head _)).1 (.inl hli.1) ?_
    refine assign3 rfl rfl rfl rfl rfl F2 N2 ⟨_, F2.keep _ _ htb, rfl, 0, rfl⟩ fun h3 tk3 F3 N3 => ?_
    generalize hqf : TurnPost _ _ _ _ _ _ _ _ = qf
    k_steps
    all_goals (
      rw [← hqf]
      rename Fr g' _ _ _ => F9
      rename News g' _ _ _ => N9
      refine ⟨_, [(tl, lstO (tRefs ts) n), (mx, instObj 214 dx), (dx, mgDict w k pd)], F9, fun p hp => N9 p (by simp only [List.mem_cons] at hp ⊢; simp only [hp, true_or, or_true]), ?_, rfl, rfl⟩
      first
      | (have hst : (ts.take (i + 1)).foldl (dueStep pre here) (dueStart pre) = ⟨place.length, some (Str.ofString "{" ++ uri ++ Str.ofString "}x")⟩ := by
           (rw [htk, List.foldl_append]
            exact if_pos ⟨eq_of_beq (by assumption), by assumption, by first | exact sub_a (by assumption) | exact sub_b (by assumption) (by assumption) | exact sub_c (by assumption) (by assumption)⟩)
         exact DueJ.intro hst (.inr ⟨_, _, rfl, rfl⟩) (dueM_at rfl rfl (fun y h1 h2 h3 h4 h5 => by simp only [if_neg h1, if_neg h2, if_neg h3, if_neg h4, if_neg h5, dueM])))
      | (have hst : (ts.take (i + 1)).foldl (dueStep pre here) (dueStart pre) = (ts.take i).foldl (dueStep pre here) (dueStart pre) := by
           (rw [htk, List.foldl_append]
            refine if_neg fun hc => ?_
            first | exact sub_d (by assumption) (by assumption) (by assumption) hc.2.2 | exact sub_e (by assumption) (by assumption) (by assumption) hc.2.2 | exact absurd hc.2.1 (by assumption) | exact ne_of_beq (by assumption) hc.1)
         exact DueJ.intro hst hfv (dueM_at rfl rfl (fun y h1 h2 h3 h4 h5 => by simp only [if_neg h1, if_neg h2, if_neg h3, if_neg h4, if_neg h5, dueM]))))
  · rintro m news g h tk ⟨rfl, rfl, u1, u2, u3, fv, td, hfv, rfl⟩ F2 N2
    have hsz : (tRefs ts).size = ts.length := by simp [tRefs]
    rw [hsz, List.take_length] at hfv F2
    dsimp only
    k_steps
    exact hret _ _ _ (keeps_of hg (fun p hp => (N p hp).1) F2 N2) hfv
end
section
open PySem PySem.W PyProof.Rows PySem.W.X PySem.Calls
set_option pp.deepTerms false
set_option pp.proofs false
abbrev wEnt (w : World) (x : String) (t : Tok) (v : Value) : DictEntry := { hash := PyData.keyHash w.params (Str.ofString x), key := .str (Str.ofString x) t, val := v }
/-- the writer's own dict -/
abbrev wDict (w : World) (k : Nat → Tok) (kz : Tok) (bm da ds ns pm ps : Addr) (rs rd : Bool) (n : Nat) : Obj := dictOf [
  wEnt w "_write" (k 0) (.ref bm),
  wEnt w "_data" (k 1) (.ref da),
  wEnt w "_with_comments" (k 2) (.bool false),
  wEnt w "_strip_text" (k 3) (.bool false),
  wEnt w "_exclude_attrs" (k 4) .none,
  wEnt w "_exclude_tags" (k 5) .none,
  wEnt w "_rewrite_prefixes" (k 6) (.bool false),
  wEnt w "_qname_aware_tags" (k 7) .none,
  wEnt w "_find_qname_aware_attrs" (k 8) .none,
  wEnt w "_declared_ns_stack" (k 9) (.ref ds),
  wEnt w "_ns_stack" (k 10) (.ref ns),
  wEnt w "_prefix_map" (k 11) (.ref pm),
  wEnt w "_preserve_space" (k 12) (.ref ps),
  wEnt w "_pending_start" (k 13) .none,
  wEnt w "_root_seen" (k 14) (.bool rs),
  wEnt w "_root_done" (k 15) (.bool rd),
  wEnt w "_ignored_depth" (k 16) (.int 0 kz)] n
end
section
open PySem PySem.W PyProof.Rows PySem.W.X PySem.Calls
set_option pp.deepTerms false
set_option pp.proofs false
set_option maxRecDepth 100000
set_option maxHeartbeats 8000000
/-- a generator state that has these items left -/
def GenAt (w : World) (A : Around) (C : Nat) (D : List Nat) (items : List Value) (h : Heap) (gs : GenState) : Prop :=
  ∀ (s'' : Shared) (P : End → Shared → Prop), Agree C D h s''.heap → Cont w A C D items s'' P → GoesX w A gs s'' P
theorem Agree.trans {C : Nat} {D : List Nat} {a b c : Heap} (x : Agree C D a b) (y : Agree C D b c) : Agree C D a c := fun p o hp e => y p o hp (x p o hp e)
theorem Agree.refl {C : Nat} {D : List Nat} {a : Heap} : Agree C D a a := fun _ _ _ e => e
def Stays (C : Nat) (h h' : Heap) : Prop := ∀ (a : Nat) o, a ≠ C → a ≤ C + 1 → h.get? a = some o → h'.get? a = some o
abbrev sizeAt {g2 h2 : Heap} {L2 : Addr} {m2 : Str → Option Value} (_F : Fr g2 L2 h2 m2) : Nat := h2.objs.size
theorem setGen_push {s : Shared} {G : Array GenState} {h : Heap} {tk : Nat} {gs gs' : GenState} : Shared.setGen { s with heap := h, toks := tk, gens := G.push gs } G.size gs' = { s with heap := h, toks := tk, gens := G.push gs' } := by
  have : (G.push gs).setIfInBounds G.size gs' = G.push gs' := by
    apply Array.ext'
    simp
  simp [Shared.setGen, this]
section
variable {w : World} {A : Around} {E : Value → Shared → Prop} {s : Shared} {C : Nat} {D : List Nat} {g : Nat} {gs : GenState} {a : Addr}
theorem gen_item {v : Value} {rem : List Value} {Q : Option Value → Shared → Prop} (hh : A.handled = none) (hl : s.heap.NoLimit) (hroom : A.depth < recursionLimit)
    (hg : s.heap.IsGen a g) (hgs : s.gens[g]? = some gs) (hG : GenAt w A.in1 C D (v :: rem) s.heap gs)
    (hQ : ∀ h' tk gs', Stays C s.heap h' → gs'.bare = true → GenAt w A.in1 C D rem h' gs' → Q (some v) (Shared.setGen { s with heap := h', toks := tk } g gs')) :
    wpAny (LM w) A (pyNext (.ref a)) Q E s := by
  refine wpAny_pyNext_genX hh hl hroom hg hgs (hG (s.setGen g .running) _ Agree.refl ?_)
  rintro s' l k c p fs ⟨h', tk, rfl, hst⟩ hfg hgo
  have e : Shared.setGen { s.setGen g .running with heap := h', toks := tk } g (End.susp v false l k c p fs).genState = Shared.setGen { s with heap := h', toks := tk } g (End.susp v false l k c p fs).genState := by
    simp [Shared.setGen]
  dsimp only
  rw [e]
  exact hQ h' tk _ hst (End.bare_of_quiet (by simp [End.quiet, hfg])) fun s'' P' ag hc => hgo s'' P' ag hc
theorem gen_end {Q : Option Value → Shared → Prop} (hh : A.handled = none) (hl : s.heap.NoLimit) (hroom : A.depth < recursionLimit)
    (hg : s.heap.IsGen a g) (hgs : s.gens[g]? = some gs) (hG : GenAt w A.in1 C D [] s.heap gs)
    (hQ : ∀ h' tk, Stays C s.heap h' → Q none (Shared.setGen { s with heap := h', toks := tk } g .finished)) :
    wpAny (LM w) A (pyNext (.ref a)) Q E s := by
  refine wpAny_pyNext_genX hh hl hroom hg hgs (hG (s.setGen g .running) _ Agree.refl ?_)
  rintro s' ⟨h', tk, rfl, hst⟩
  refine ⟨rfl, fun h'' hk => ?_⟩
  have e : ({ (Shared.setGen { s.setGen g .running with heap := h', toks := tk } g .finished) with heap := h'' } : Shared) = Shared.setGen { s with heap := h'', toks := tk } g .finished := by
    simp [Shared.setGen]
  rw [e]
  exact hQ h'' tk fun a o h1 h2 e => hk a o (hst a o h1 h2 e)
/-- what a turn's end must show -/
def GenPost (J : List Value → Shared → Prop) (rem : List Value) (Rr : Result → Shared → Prop) (f : Flow) (s₃ : Shared) : Prop :=
  match f with
  | .next | .cont => J rem s₃
  | .brk => Rr (.ok .next) s₃
  | .ret v => Rr (.ok (.ret v)) s₃
/-- a for-loop over a generator that tells a list of things -/
theorem genFor {env : Env} {target : Expr} {body : List Stmt} {Rr : Result → Shared → Prop} (JA : Around → List Value → Shared → Prop) (items : List Value) (hh : A.handled = none) (hroom : A.depth < recursionLimit)
    (hj : JA A items s) (hinv : ∀ rem s, JA A rem s → s.heap.NoLimit ∧ s.heap.IsGen a g ∧ ∃ gs, s.gens[g]? = some gs ∧ GenAt w A.in1 C D rem s.heap gs)
    (turn : ∀ v rem s h' tk gs', JA A (v :: rem) s → Stays C s.heap h' → gs'.bare = true → GenAt w A.in1 C D rem h' gs' →
      wpAny (LM w) A (letOwnedTupleGo target (.ref a) v) (fun _ s₁ => wpAny (LM w) A (assign target env v) (fun _ s₂ => wpAny (LM w) A (execs body env) (GenPost (JA A) rem Rr)
        (notedBy (LM w) A env fun e s' => Rr (.error e) s') s₂) (notedBy (LM w) A env fun e s' => Rr (.error e) s') s₁) (notedBy (LM w) A env fun e s' => Rr (.error e) s') (Shared.setGen { s with heap := h', toks := tk } g gs'))
    (done : ∀ s h' tk, JA A [] s → Stays C s.heap h' → Rr (.ok .next) (Shared.setGen { s with heap := h', toks := tk } g .finished)) :
    wpAny (LM w) A (pyIter (.ref a)) (fun it s₂ => codeAny (LM w) A (.forLoop target it body [] env) Rr s₂) E s := by
  refine wpAny_pyIter_gen (hinv items s hj).2.1 ?_
  refine codeAny_forLoop_any (fun n s₁ => ∃ rem, n = rem.length ∧ JA A rem s₁) (fun n s₁ hI => ?_) items.length ⟨items, rfl, hj⟩
  obtain ⟨rem, rfl, hJ⟩ := hI
  obtain ⟨hl, hg, gs, hgs, hG⟩ := hinv rem s₁ hJ
  cases rem with
  | nil =>
    refine gen_end hh hl hroom hg hgs hG fun h' tk hst => ?_
    exact wpAny_pure (done s₁ h' tk hJ hst)
  | cons v rem =>
    refine gen_item hh hl hroom hg hgs hG fun h' tk gs' hst hb hG' => ?_
    refine wpAny_mono (turn v rem s₁ h' tk gs' hJ hst hb hG') (fun _ s₂ h₂ => wpAny_mono h₂ (fun _ s₃ h₃ => wpAny_mono h₃ (fun f s₄ h₄ => ?_) fun _ _ x => x) fun _ _ x => x) fun _ _ x => x
    cases f with
    | next => exact ⟨rem.length, Nat.lt_succ_self _, rem, rfl, h₄⟩
    | cont => exact ⟨rem.length, Nat.lt_succ_self _, rem, rfl, h₄⟩
    | brk => exact h₄
    | ret v => exact h₄
end
end
section
open PySem PySem.W PyProof.Rows PySem.W.X PySem.Calls
set_option pp.deepTerms false
set_option pp.proofs false
set_option maxRecDepth 100000
set_option maxHeartbeats 8000000
section
variable {prog : Program} {w : World} {A₀ A : Around} {s : Shared} {base h₀ : Heap} {L a : Addr} {m : Str → Option Value} {cn : Str} {cs : Scope} {ccd : Value} {news : List (Addr × Obj)} {K : Frag} {p : Program} {loose : List Str} {mean : ExcName → Option Value} {mg mb : Str → Option Value}
    {R : Result → Shared → Prop} {name qual : Str} {params : Arguments} {body : List Stmt} {scope : Scope} {dV kV doc pm cdv ct oc : Value} {an od : Option Addr} {osl : Array (Option Value)} {f : Addr} {args : Args} {binds : List (Str × Value)}
/-- enter a def that holds a try, from a frame that lies right above the base; what else lies in the heap stays -/
theorem code_defS0H (B : Below A₀ base [] h₀) (F : Fr h₀ L s.heap m) (X₀ : K.In h₀) (N : News h₀ L s.heap news) (T : Top p loose mean mg mb h₀) (hA : A.frames = some [envOf cn cs L a ccd])
    (ho : K.lookup f = some ⟨oc, od, .func (fnOf name qual params body scope dV kV doc pm an cdv ct), osl⟩) (hcd : codeIn K cdv qual = true) (hroom : A.depth < recursionLimit)
    (hbind : BindsTo s (fnOf name qual params body scope dV kV doc pm an cdv ct) args binds) (hloc : ∀ y ∈ binds, scope.names.lookup y.1 = some .local)
    (h : ∀ g L' h₁, (∀ b o, s.heap.get? b = some o → b ∉ news.map (·.1) → g.get? b = some o) → Fr h₀ L g m → Fr g L' h₁ (fun y => binds.reverse.lookup y) → News g L' h₁ news → Below A base [envOf cn cs L a ccd] g → K.In g → Top p loose mean mg mb g → KtsDicts ([envOf cn cs L a ccd].filterMap (·.frame)) g →
      wpAny (model prog w) (A.deeper (envOf qual scope L' f cdv)) (execs body (envOf qual scope L' f cdv))
        (fun fl s' => LeaveS0 ([envOf cn cs L a ccd].filterMap (·.frame)) h₀ L m g R (match fl with | .ret v => v | _ => .none) s')
        (fun e s' => wpAny (model prog w) (A.deeper (envOf qual scope L' f cdv)) (leaving (envOf qual scope L' f cdv) e) (fun _ s'' => R (.error e) s'') (fun e' s'' => R (.error e') s'') s')
        { s with heap := h₁, toks := s.toks + binds.length })
    (hck : cs.kind = .function) (hco : scope.isCoroutine = false) (hgen : scope.isGenerator = false) (hk : scope.kind = .function)
    (hcell : ∀ x ∈ scope.names, x.2 ≠ .cell) : codeAny (model prog w) A (.call (.ref f) args) R s := by
  have X := X₀.keeps F.keep
  obtain ⟨oL, es, ep, hLg, hLd, hN, hNs, st, B₂⟩ := kts_enter B F N hA hck
  have nL₀ : h₀.get? L = none := kts_self F
  refine codeAny_call_def (fd := fnOf name qual params body scope dV kV doc pm an cdv ct) (body := body) (binds := binds) hroom (X _ _ ho) rfl (T.nolimit.keeps F.keep) (codeRec_of X hcd) rfl hbind hcell hloc (fun h₁ hns hk₁ => ?_) hco hgen hk
  have FL : Fr (hideAll s.heap (news.map (·.1))) s.heap.objs.size h₁ (fun y => binds.reverse.lookup y) := ⟨hns, fun b o e => hk₁ b o (of_hideAll _ e), Nat.le_of_eq (hideAll_size _ _)⟩
  have NL : News (hideAll s.heap (news.map (·.1))) s.heap.objs.size h₁ news := fun p hp => ⟨hk₁ _ _ (N p hp).1, Nat.ne_of_lt (Heap.lt_size (N p hp).1), hideAll_none _ (List.mem_map_of_mem hp)⟩
  have DL : KtsDicts ([envOf cn cs L a ccd].filterMap (·.frame)) (hideAll s.heap (news.map (·.1))) := fun b hb => by
    have e : b = L := (kts_mem hb).elim id fun z => by cases z
    exact ⟨oL, es, ep, e ▸ hLg, hLd⟩
  refine wpAny_mono (h _ s.heap.objs.size h₁ (fun b o e n => hideAll_get _ e n) ⟨hN _ hLg, st, F.above⟩ FL NL B₂ (X₀.keeps st) (T.keeps st) DL) (fun fl s' hl => ?_) fun _ _ y => y
  obtain ⟨g', L', m', news', T', F', N', k⟩ := hl
  obtain ⟨sl, hs⟩ := T'.up hLg
  have up : ∀ b o, h₀.get? b = some o → g'.get? b = some o := fun b o e => T'.other b o (st b o e) fun q => by
    have z : b = L := (kts_mem q).elim id fun z => by cases z
    rw [z, nL₀] at e; cases e
  refine k ⟨hNs sl _ (F'.keep _ _ hs), fun b o e => F'.keep b o (up b o e), F.above⟩ fun p hp => ⟨(N' p hp).1, fun q => ?_, ?_⟩
  · have := (N' p hp).2.2; rw [q, hs] at this; cases this
  · cases q : h₀.get? p.1 with
    | none => rfl
    | some o => have := (N' p hp).2.2; rw [up _ _ q] at this; cases this
end
/-- all but one object stays -/
def KeepsBut (L : Addr) (h h' : Heap) : Prop := ∀ b o, b ≠ L → h.get? b = some o → h'.get? b = some o
theorem keepsBut_of {news : List (Addr × Obj)} {L : Addr} {g g2 h h' : Heap} {L' : Addr} {m' : Str → Option Value} {news' : List (Addr × Obj)} {fs : List Addr} (hfs : ∀ b ∈ fs, b = L) (hg : ∀ b o, h.get? b = some o → b ∉ news.map (·.1) → g.get? b = some o) (N : ∀ p ∈ news, h.get? p.1 = some p.2) (T : KtsTurn fs g g2) (F' : Fr g2 L' h' m') (N' : News g2 L' h' news') (hsub : ∀ p ∈ news, p ∈ news') : KeepsBut L h h' := fun b o hb e => by
  by_cases hm : b ∈ news.map (·.1)
  · obtain ⟨p, hp, rfl⟩ := List.mem_map.mp hm
    have := N p hp
    rw [e] at this; cases this
    exact (N' p (hsub p hp)).1
  · exact F'.keep b o (T.other b o (hg b o e hm) fun q => hb (hfs b q))
end
section
open PySem PySem.W PyProof.Rows PySem.W.X PySem.Calls
set_option pp.deepTerms false
set_option pp.proofs false
set_option maxRecDepth 100000
set_option maxHeartbeats 8000000
theorem assign2R {w : World} {A : Around} {E : Value → Shared → Prop} {s : Shared} {env : Env} {base : Heap} {m : Str → Option Value} {news : List (Addr × Obj)} {x y : Str} {p1 p2 p4 : Pos} {k : Nat} {t : Addr} {va vb : Value} {Q : Unit → Shared → Prop} (hk : env.scope.kind = .function) (hx : env.kindOf x = some .local) (hy : env.kindOf y = some .local) (hh : A.handled = none)
    (F : Fr base env.locals s.heap m) (N : News base env.locals s.heap news) (ht : IsTup s.heap t #[va, vb])
    (hQ : ∀ h' tk, (∀ (a : Nat) o, a ≠ env.locals → s.heap.get? a = some o → h'.get? a = some o) → Fr base env.locals h' (fun q => if q = y then some vb else if q = x then some va else m q) → News base env.locals h' news → Q () { s with heap := h', toks := tk }) :
    wpAny (LM w) A (assign (.Tuple [.Name x p1, .Name y p2] k p4) env (.ref t)) Q E s := by
  have hp : (env.scope.kind == .class || (env.scope.kind == .module && env.locals != env.globals)) = false := by rw [hk]; rfl
  refine assign_Tuple_tuple hh ht rfl rfl fun h₁ he => ?_
  have F₁ := F.extBut he (Nat.le_refl _)
  have N₁ : News base env.locals h₁ news := fun p hp => ⟨he _ _ (Nat.ne_of_lt (Heap.lt_size (N p hp).1)) (N p hp).1, (N p hp).2⟩
  refine assignInOrder_cons (wpAny_assign_Name (wpAny_storeName_local hx F₁.ns (fun h₂ hn₂ hs₂ => ?_) hp))
  have F₂ := F₁.set hn₂ hs₂
  refine assignInOrder_cons (wpAny_assign_Name (wpAny_storeName_local hy F₂.ns (fun h₃ hn₃ hs₃ => ?_) hp))
  exact assignInOrder_nil (hQ h₃ _ (fun a o ha e => (hs₃.2 a ha).trans ((hs₂.2 a ha).trans (he a o (Nat.ne_of_lt (Heap.lt_size e)) e))) (F₂.set hn₃ hs₃) ((N₁.set hs₂).set hs₃))
/-- one told namespace -/
structure Ent where
  a : Nat
  uri : Str
  p : Str
  t1 : Tok
  t2 : Tok
abbrev Ent.obj (e : Ent) : Obj := tupO [.str e.uri e.t1, .str e.p e.t2]
abbrev eRefs (es : List Ent) : List Value := es.map fun e => Value.ref e.a
def meant (pre : Str) (es : List Ent) : Option Str := (es.find? fun e => e.p == pre).map fun e => Str.ofString "{" ++ e.uri ++ Str.ofString "}x"
theorem two_of {l : List (Str × Tok)} {x y : Str} (h : l.map (·.1) = [x, y]) : ∃ t1 t2, l = [(x, t1), (y, t2)] := by
  match l, h with
  | [(a, t1), (b, t2)], h => cases h; exact ⟨t1, t2, rfl⟩
theorem split_px {pre : Str} (hp : pre = Str.ofString "p" ∨ pre = Str.ofString "xs") : Txt.splitMax (pre ++ Str.ofString ":x") (Str.ofString ":") 1 = [pre, Str.ofString "x"] := by
  rcases hp with rfl | rfl <;> decide +kernel
theorem Fr.stays {g h h' : Heap} {L : Addr} {m : Str → Option Value} {C : Nat} (F : Fr g L h m) (hst : Stays C h h') (hL : (L : Nat) < C) (hb : ∀ (b : Nat) o, g.get? b = some o → b < C) : Fr g L h' m :=
  ⟨F.ns.at' fun o e => hst L o (Nat.ne_of_lt hL) (Nat.le_of_lt (Nat.lt_succ_of_lt hL)) e, fun b o e => hst b o (Nat.ne_of_lt (hb b o e)) (Nat.le_of_lt (Nat.lt_succ_of_lt (hb b o e))) (F.keep b o e), F.above⟩
theorem News.stays {g h h' : Heap} {L : Addr} {news : List (Addr × Obj)} {C : Nat} (N : News g L h news) (hst : Stays C h h') (hb : ∀ p ∈ news, (p.1 : Nat) < C) : News g L h' news :=
  fun p hp => ⟨hst p.1 _ (Nat.ne_of_lt (hb p hp)) (Nat.le_of_lt (Nat.lt_succ_of_lt (hb p hp))) (N p hp).1, (N p hp).2⟩
theorem off_of {h : Heap} {news : List (Addr × Obj)} {b : Addr} {o : Obj} (N : ∀ p ∈ news, h.get? p.1 = some p.2) (e : h.get? b = some o) (hc : ∀ p ∈ news, p.2.cls ≠ o.cls) : b ∉ news.map (·.1) := fun hb => by
  obtain ⟨p, hp, rfl⟩ := List.mem_map.mp hb
  have := N p hp
  rw [e] at this; cases this
  exact hc p hp rfl
theorem off_cls {a dx : Addr} {d : Obj} {wr : Addr} {T : String} (hd : d.cls = .type "dict") (hT : T ≠ "dict") : ∀ p ∈ [(wr, instObj a dx), (dx, d)], p.2.cls ≠ .type T := fun p hp => by
  simp only [List.mem_cons, List.not_mem_nil, or_false] at hp
  rcases hp with rfl | rfl
  · exact fun q => by cases q
  · dsimp only; rw [hd]; intro q; cases q; exact hT rfl
def resM (m2 : Str → Option Value) (u1 u2 : Option Value) : Str → Option Value := fun y => if y = Str.ofString "p" then u2 else if y = Str.ofString "uri" then u1 else m2 y
theorem resM_self {m2 : Str → Option Value} (y : Str) : m2 y = resM m2 (m2 (Str.ofString "uri")) (m2 (Str.ofString "p")) y := by
  unfold resM
  by_cases h1 : y = Str.ofString "p"
  · rw [if_pos h1, h1]
  rw [if_neg h1]
  by_cases h2 : y = Str.ofString "uri"
  · rw [if_pos h2, h2]
  rw [if_neg h2]
def ResJ (w : World) (A : Around) {g2 h2 : Heap} {L2 : Addr} {m2 : Str → Option Value} {news2 : List (Addr × Obj)} (_F : Fr g2 L2 h2 m2) (_N : News g2 L2 h2 news2) (D : List Nat) (G : Array GenState) (d : Drawn) (os : OsState) (pre : Str) (es : List Ent) (rem : List Value) (s1 : Shared) : Prop :=
  ∃ h1 tk gs1 u1 u2 done left, s1 = ⟨h1, G.push gs1, d, tk, os⟩ ∧ GenState.bare gs1 = true ∧ GenAt w A.in1 h2.objs.size D rem h1 gs1 ∧ h1.IsGen (h2.objs.size + 1) G.size ∧ Fr g2 L2 h1 (resM m2 u1 u2) ∧ News g2 L2 h1 news2 ∧ es = done ++ left ∧ rem = eRefs left ∧ ∀ e ∈ done, e.p ≠ pre
theorem resM_next {m2 : Str → Option Value} {u1 u2 : Option Value} {va vb : Value} (q : Str) : (if q = Str.ofString "p" then some vb else if q = Str.ofString "uri" then some va else resM m2 u1 u2 q) = resM m2 (some va) (some vb) q := by
  unfold resM
  by_cases h1 : q = Str.ofString "p"
  · simp only [if_pos h1]
  by_cases h2 : q = Str.ofString "uri"
  · simp only [if_neg h1, if_pos h2]
  simp only [if_neg h1, if_neg h2]
theorem res_eq {u : Str} : Str.ofString "{" ++ u ++ Str.ofString "}x" = Str.empty ++ Str.ofString "{" ++ u ++ Str.ofString "}" ++ Str.ofString "x" := by
  have e1 : Str.ofString "}x" = Str.ofString "}" ++ Str.ofString "x" := by decide +kernel
  have e2 : Str.empty ++ Str.ofString "{" = Str.ofString "{" := by decide +kernel
  rw [e1, e2]
  exact (PySem.Str.append_assoc _ _ _).symm
theorem ne_low {a L C : Nat} (h : L < C) (hc : C ≤ a) : a ≠ L := fun q => absurd h (Nat.not_lt.mpr (q ▸ hc))
theorem meant_hit {pre : Str} {es done left : List Ent} {e : Ent} (h : es = done ++ e :: left) (hd : ∀ e ∈ done, e.p ≠ pre) (he : (e.p == pre) = true) : meant pre es = some (Str.ofString "{" ++ e.uri ++ Str.ofString "}x") := by
  subst h
  unfold meant
  rw [List.find?_append, List.find?_eq_none.mpr (by intro x hx; simpa using hd x hx)]
  simp [he]
theorem meant_miss {pre : Str} {es : List Ent} (hd : ∀ e ∈ es, e.p ≠ pre) : meant pre es = none := by
  unfold meant
  rw [List.find?_eq_none.mpr (by intro x hx; simpa using hd x hx)]
  rfl
theorem msg_len {pre : Str} (h : pre.length ≤ 2) : (Str.empty ++ Str.ofString "Prefix " ++ pre ++ Str.ofString " of QName \"" ++ (pre ++ Str.ofString ":x") ++ Str.ofString "\" is not declared in scope").length ≤ sizeLine := by
  have e1 : (Str.ofString "Prefix ").length = 7 := by decide +kernel
  have e2 : (Str.ofString " of QName \"").length = 11 := by decide +kernel
  have e3 : (Str.ofString ":x").length = 2 := by decide +kernel
  have e4 : (Str.ofString "\" is not declared in scope").length = 26 := by decide +kernel
  have e5 : Str.empty.length = 0 := by decide +kernel
  simp only [PySem.Str.length_append, e1, e2, e3, e4, e5, sizeLine]
  omega
theorem res_len {u : Str} (h : u.length ≤ 1000) : (Str.empty ++ Str.ofString "{" ++ u ++ Str.ofString "}" ++ Str.ofString "x").length ≤ sizeLine := by
  have e1 : (Str.ofString "{").length = 1 := by decide +kernel
  have e2 : (Str.ofString "}").length = 1 := by decide +kernel
  have e3 : (Str.ofString "x").length = 1 := by decide +kernel
  have e5 : Str.empty.length = 0 := by decide +kernel
  simp only [PySem.Str.length_append, e1, e2, e3, e5, sizeLine]
  omega
theorem t_meant {w : World} {cn : Str} {cs : Scope} {a : Addr} {ccd : Value} {base h₀ : Heap} {L : Addr}
    {m mg mb : Str → Option Value} {loose : List Str} {mean : ExcName → Option Value} {s : Shared} {Q E : Value → Shared → Prop} {wr dx bm da ds ns pm ps : Addr} {k : Nat → Tok} {kz : Tok} {rs rd : Bool} {nd : Nat} {pre : Str} {t1 : Tok}
    {lists : List (Nat × List Value)} {es : List Ent}
    (B : Below callerA base [] h₀) (XB : (hd.heap_39 w.params).In base) (TB : Top topProg loose mean mg mb base) (F : Fr h₀ L s.heap m) (X : (hd.heap_39 w.params).In h₀) (T : Top topProg loose mean mg mb h₀) (hk : cs.kind = .function)
    (N : News h₀ L s.heap [(wr, instObj 150 dx), (dx, wDict w k kz bm da ds ns pm ps rs rd nd)])
    (hp : pre = Str.ofString "p" ∨ pre = Str.ofString "xs") (hpl : pre.length ≤ 2)
    (hf : Facts ns lists s.heap) (hsz : ∀ p ∈ lists, p.2.length < 2 ^ 62) (hes : flat lists lists.length = eRefs es) (het : ∀ e ∈ es, s.heap.get? e.a = some e.obj ∧ e.uri.length ≤ 1000)
    (hret : ∀ r h' tk' gs, KeepsBut L s.heap h' → Fr h₀ L h' m → GenState.bare gs = true → IsOpt r (meant pre es) → Q r { s with heap := h', toks := tk', gens := s.gens.push gs }) :
    wpAny (model lawProg w) (callerA.deeper (envOf cn cs L a ccd)) (call (.ref 232) [.ref wr, .str pre t1]) Q E s := by
  have hk0 : HoldK "exec For Tuple Name cons nil" := .on _
  have hk1 : HoldK "exec For Tuple Call cons nil" := .on _
  have hk2 : HoldK "jp" := .on _
  refine wpAny_call ?_
  (refine' code_defS0H ?k1 ?k2 ?k3 ?k4 ?k5 ?kA ?k6 ?k7 ?k8 ?k9 ?kB ?_ ?cK ?c2 ?c3 ?c4 ?c5; (case kA => exact rfl); (case k2 => k_asm); (case k1 => k_asm); (case k3 => k_asm); (case k4 => k_asm); (case k5 => k_asm); (case k6 => k_is); (case k7 => k_is); (case k8 => ktr_room); (case k9 => exact BindsTo.of_eq rfl); (case kB => exact locs rfl); (case cK => assumption); (case c2 => exact rfl); (case c3 => exact rfl); (case c4 => exact rfl); (case c5 => decide); k_whole)
  intro g' L' h' hg FG' F' N' B' X' T' D'; (try dsimp only); (try k_fold)
  k_steps
  rename List.map _ _ = _ => hsp
  rw [split_px hp] at hsp
  obtain ⟨ta, tb, rfl⟩ := two_of hsp
  k_steps
  refine Held.mk ?_
  refine wpAny_For ?_
  k_steps
  rename Fr g' L' _ _ => FG2
  rename (hd.heap_39 w.params).In _ => X2
  rename Top _ _ _ _ _ _ => T2
  rename Fr _ _ _ _ => F2'
  have F2 : Fr _ _ _ (fun y => if y = Str.ofString "name" then some (Value.str (Str.ofString "x") tb) else if y = Str.ofString "prefix" then some (Value.str pre ta) else _) := F2'
  clear F2'
  rename News _ _ _ _ => N2
  have hlow : ∀ b o, s.heap.get? b = some o → b ∉ [(wr, instObj 150 dx), (dx, wDict w k kz bm da ds ns pm ps rs rd nd)].map (·.1) → _ := fun b o e hb => FG2.keep b o (hg b o e hb)
  have hoL : ∀ b o, s.heap.get? b = some o → o.cls = .type "list" → _ := fun b o e hc => hlow b o e (off_of (fun p hp => (N p hp).1) e (by rw [hc]; exact off_cls rfl (by decide)))
  have hoT : ∀ b o, s.heap.get? b = some o → o.cls = .type "tuple" → _ := fun b o e hc => hlow b o e (off_of (fun p hp => (N p hp).1) e (by rw [hc]; exact off_cls rfl (by decide)))
  have hf2 : Facts ns lists _ := ⟨let ⟨o, e, r⟩ := hf.1; ⟨o, F2.keep _ _ (hoL _ _ e r.1), r⟩, fun p hp => let ⟨o, e, r⟩ := hf.2 p hp; ⟨o, F2.keep _ _ (hoL _ _ e r.1), r⟩⟩
  refine iter_call (lists := lists) (X2.keeps F2.keep) (T2.nolimit.keeps F2.keep) (by ktr_room) hf2 hsz fun h' tk gs hkp hsz' hgen hb htl => ?_
  dsimp only at hkp hsz' hgen htl ⊢
  have hbase : ∀ (b : Nat) o, _ → b < _ := fun b o e => Heap.lt_size (F2.keep b o e)
  have hnews : ∀ p ∈ _, _ := fun p hp => Heap.lt_size (N2 p hp).1
  refine genFor (C := sizeAt F2) (D := dats ns lists) (g := s.gens.size) (fun A => ResJ w A F2 N2 (dats ns lists) s.gens s.drawn s.os pre es) (eRefs es) rfl (by ktr_room) ?_ ?_ ?_ ?_
  · exact ⟨h', tk, gs, _, _, [], es, rfl, hb, fun s'' P ag hc => htl _ s'' P rfl ag (hes ▸ hc), hgen, Mine.Fr.congr (Mine.Fr.kept F2 hkp) resM_self, Mine.News.kept N2 hkp, rfl, rfl, fun _ h => (by cases h)⟩
  · rintro rem s1 ⟨h1, tk1, gs1, u1, u2, done, left, rfl, hb1, hG1, hgen1, F3, N3, hes1, hrem, hdone⟩
    exact ⟨T2.nolimit.keeps F3.keep, hgen1, gs1, by simp, hG1⟩
  · rintro v rem s1 h3 tk3 gs3 ⟨h1, tk1, gs1, u1, u2, done, left, rfl, hb1, hG1, hgen1, F3, N3, hes1, hrem, hdone⟩ hst hb3 hG3
    cases left with
    | nil => cases hrem
    | cons e left =>
      obtain ⟨rfl, rfl⟩ : v = .ref e.a ∧ rem = eRefs left := by simpa [eRefs] using hrem
      dsimp only
      rw [setGen_push]
      have F4 := Mine.Fr.stays F3 hst F2.ns.lt hbase
      have N4 := Mine.News.stays N3 hst hnews
      obtain ⟨hte, hlu⟩ := het e (by rw [hes1]; simp)
      have htb := hoT _ _ hte rfl
      obtain ⟨og, nm, qn, eg, cg, dg, sg⟩ := hgen1
      have eg3 := hst _ _ (Nat.succ_ne_self _) (Nat.le_refl _) eg
      refine goTup (o := og) eg3 (.inr cg) ?_
      refine assign2R rfl rfl rfl rfl F4 N4 ⟨_, F4.keep _ _ htb, rfl, 0, rfl⟩ fun h5 tk5 hk5 F5 N5 => ?_
      generalize hqf : GenPost _ _ _ = qf
      k_steps
      · refine Held.mk ?_
        refine joinParts_nilE ?_
        refine joinParts_nil ?_ (res_len hlu)
        k_steps
        rw [← hqf]
        dsimp only [GenPost]
        k_steps
        rename Fr h₀ L _ m => FZ
        rename Fr g' L' _ _ => F9
        rename News g' L' _ _ => N9
        refine hret _ _ _ _ (keepsBut_of (L := L) (fs := []) (fun b hb => nomatch hb) hg (fun p hp => (N p hp).1) KtsTurn.refl F9 N9 (fun p hp => by simp only [List.mem_cons] at hp ⊢; simp only [hp, true_or, or_true])) FZ hb3 ?_
        exact .inr ⟨_, _, (meant_hit hes1 hdone (by assumption)).trans (congrArg some res_eq), rfl⟩
      · rw [← hqf]
        dsimp only [GenPost]
        have hpn : ¬ e.p = pre := ne_of_beq (by assumption)
        have hD : ∀ d ∈ dats ns lists, d ≠ _ := fun d hd (q : d = _) => by
          obtain ⟨o, ho⟩ : ∃ o, Heap.get? _ d = some o := by
            rcases List.mem_cons.mp hd with rfl | hd
            · obtain ⟨o, e, r⟩ := hf.1; exact ⟨o, hoL _ _ e r.1⟩
            · obtain ⟨p, hp, rfl⟩ := List.mem_map.mp hd
              obtain ⟨o, e, r⟩ := hf.2 p hp; exact ⟨o, hoL _ _ e r.1⟩
          rw [q, kts_self F2] at ho
          cases ho
        have hag : Agree (sizeAt F2) (dats ns lists) h3 h5 := fun a o ha e => hk5 a o (ha.elim (fun hc => ne_low F2.ns.lt hc) (hD a)) e
        exact ⟨h5, _, gs3, _, _, done ++ [e], left, rfl, hb3, fun s'' P ag hc => hG3 s'' P (Agree.trans hag ag) hc, ⟨og, nm, qn, hag _ _ (.inl (Nat.le_succ _)) eg3, cg, dg, sg⟩,
          Mine.Fr.congr F5 (fun y => resM_next y), N5, by rw [hes1]; simp, rfl, fun e' he' => by
            rcases List.mem_append.mp he' with he' | he'
            · exact hdone e' he'
            · rw [List.mem_singleton.mp he']; exact hpn⟩
  · rintro s1 h3 tk3 ⟨h1, tk1, gs1, u1, u2, done, left, rfl, hb1, hG1, hgen1, F3, N3, hes1, hrem, hdone⟩ hst
    dsimp only
    rw [setGen_push]
    have F4 := Mine.Fr.stays F3 hst F2.ns.lt hbase
    have N4 := Mine.News.stays N3 hst hnews
    clear F3 N3 hG1 hgen1 hb1
    k_steps
    refine Held.mk ?_
    with_reducible refine joinParts_nilE ?_
    with_reducible refine joinParts_nil ?_ (msg_len (by assumption))
    k_steps
    have hleft : left = [] := by
      cases left with
      | nil => rfl
      | cons e l => cases hrem
    subst hleft
    rename KtsTurn _ _ _ => T9
    rename Fr h₀ L _ m => FZ
    rename Fr _ L' _ _ => F9
    rename News _ L' _ _ => N9
    refine hret _ _ _ _ (keepsBut_of (L := L) (fun b hb => (kts_mem hb).elim id fun z => by cases z) hg (fun p hp => (N p hp).1) T9 F9 N9 (fun p hp => by simp only [List.mem_cons] at hp ⊢; simp only [hp, true_or, or_true])) FZ rfl ?_
    exact .inl ⟨meant_miss (fun e he => hdone e (by rw [hes1, List.append_nil] at he; exact he)), rfl⟩
end
section
open PySem PySem.W PyProof.Rows PySem.W.X PySem.Calls
set_option maxRecDepth 100000
set_option maxHeartbeats 8000000
abbrev tab1 (led : Bool) (h : Int) : SetTable := { SetTable.fresh 0 0 led with place := #[SetTable.bits h % 8] }
theorem layNew_fresh (led : Bool) (h : Int) (x : Value) : layNew (.fresh 0 0 led) #[] h x = (#[(h, x)], tab1 led h, false, false) := by
  have hf : (SetTable.fresh 0 0 led).freeSlot h = some (SetTable.bits h % 8, false) := by
    unfold SetTable.freeSlot
    rfl
  unfold layNew
  rw [hf]
  dsimp only
  have hp : (SetTable.fresh 0 0 led).put (SetTable.bits h % 8) = (tab1 led h, 0) := by
    rfl
  rw [hp]
  rfl
section
variable {prog : Program} {w : World} {A : Around} {E : Value → Shared → Prop} {s : Shared}
/-- the set of one str -/
def OneStr (prog : Program) (w : World) (k : Str) (led : Bool) (o : Obj) : Prop := ∃ (x : Value) (ep : Nat) (t : SetTable), (strKind prog w).is k x = true ∧ x.scannable = true ∧ o = { cls := .type "set", dict := none, data := .set #[((strKind prog w).hash k, x)] ep t } ∧ (t = tab1 led ((strKind prog w).hash k) ∨ t = { tab1 led ((strKind prog w).hash k) with plain := false })
theorem setAdd_fresh {sa : Addr} {led : Bool} {k : Str} {x : Value} {Q : Bool → Shared → Prop} (ho : s.heap.get? sa = some { cls := .type "set", dict := none, data := .set #[] 0 (.fresh 0 0 led) })
    (hkey : (strKind prog w).is k x = true) (hsc : x.scannable = true)
    (h : ∀ h' o, Heap.SameBut sa s.heap h' → h'.get? sa = some o → OneStr prog w k led o → Q true { s with heap := h', toks := s.toks + 1 }) :
    wpAny (model prog w) A (setAdd sa x) Q E s := by
  have hel : ElemsOf (strKind prog w) (#[] : Array (Int × Value)).toList := fun e he => nomatch he
  unfold setAdd
  refine wpAny_holding (wpAny_bind ((strKind prog w).pyHash hkey ?_))
  unfold setAddHashed setAddHashedIn
  have ho' : ({ s with toks := s.toks + 1 } : Shared).heap.get? sa = some { cls := .type "set", dict := none, data := .set #[] 0 (.fresh 0 0 led) } := ho
  refine wpAny_holding (wpAny_bind (wpAny_setState_of ho' rfl rfl ?_))
  dsimp only
  rw [byScan_of (knd := strKind prog w) hsc (by decide) hel]
  simp only [↓reduceIte]
  unfold setAddByScan
  refine wpAny_bind ?_
  refine wpAny_bind (wpAny_rule ?_)
  refine wpAny_bind (wpAny_setScan_of hkey ho' rfl rfl hel ?_)
  dsimp only [List.findIdx?_nil]
  rw [layNew_fresh]
  dsimp only
  have st : ∀ t : SetTable, (t = tab1 led ((strKind prog w).hash k) ∨ t = { tab1 led ((strKind prog w).hash k) with plain := false }) → ∀ Q' : Unit → Shared → Prop, (∀ h' o, Heap.SameBut sa s.heap h' → h'.get? sa = some o → OneStr prog w k led o → Q' () { s with heap := h', toks := s.toks + 1 }) →
      wpAny (model prog w) A (storeSet sa #[((strKind prog w).hash k, x)] t) Q' E { s with toks := s.toks + 1 } := fun t ht Q' hq => by
    refine wpAny_storeSet_of ho' rfl ?_ (show 1 ≤ sizeLine from by decide)
    refine hq _ _ (Heap.SameBut.update ..) (Heap.get?_update_self _ ho (by rfl)) ⟨x, 1, t, hkey, hsc, by rfl, ht⟩
  refine wpAny_bind (wpAny_pure ?_)
  split
  · refine wpAny_bind ?_
    rw [hashByValue_scannable 8 hsc]
    refine wpAny_pure ?_
    by_cases hpk : plainKind x = true
    · simp only [if_pos hpk]
      refine wpAny_bind (st (tab1 led ((strKind prog w).hash k)) (.inl rfl) _ fun h' o hs ho2 hk => ?_)
      rw [if_neg (show ¬ ((!false && (tab1 led ((strKind prog w).hash k)).tooFull) = true) from Bool.false_ne_true)]
      exact wpAny_pure (wpAny_pure (h h' o hs ho2 hk))
    · simp only [if_neg hpk]
      refine wpAny_bind (st _ (.inr rfl) _ fun h' o hs ho2 hk => ?_)
      rw [if_neg (show ¬ ((!false && ({ tab1 led ((strKind prog w).hash k) with plain := false } : SetTable).tooFull) = true) from Bool.false_ne_true)]
      exact wpAny_pure (wpAny_pure (h h' o hs ho2 hk))
  · rename_i hpl
    exact absurd rfl hpl
end
theorem sub_dict_set : isSubtype (.type "dict") (.type "set") = pure false := by rw [isSubtype_type]; kernel_rfl
theorem sub_dict_frozenset : isSubtype (.type "dict") (.type "frozenset") = pure false := by rw [isSubtype_type]; kernel_rfl
section
variable {prog : Program} {w : World} {A : Around} {E : Value → Shared → Prop} {s : Shared}
theorem star_empty {sa dd : Addr} {led : Bool} {k : Str} {o : Obj} {Q : Unit → Shared → Prop} (hh : A.handled = none) (hs : s.heap.get? sa = some o) (h1 : OneStr prog w k led o) (hd : s.heap.DictOf (strKind prog w) dd []) (lo : (dd == sysModules) = false)
    (h : ∀ h', Keeps s.heap h' → Q () { s with heap := h' }) : wpAny (model prog w) A (setDisplayStar sa (.ref dd)) Q E s := by
  obtain ⟨x, ep, t, _, _, rfl, ht⟩ := h1
  obtain ⟨ep2, hda⟩ := hd.dictAt
  have hT : s.TypeIs (.ref dd) "dict" := hd.typeIs
  have hfit : t.fits 1 = true := by rcases ht with rfl | rfl <;> rfl
  have hroom : t.roomFor 0 = none := by rcases ht with rfl | rfl <;> rfl
  unfold setDisplayStar
  dsimp only
  refine wpAny_bind (wpAny_isInstance hT sub_dict_set ?_)
  simp only [Bool.false_eq_true, if_false]
  refine wpAny_bind (wpAny_isInstance hT sub_dict_frozenset ?_)
  refine wpAny_bind (wpAny_askSetting ?_)
  have e0 : (model prog w).w.params.followText "set-display-star-reads-storage" = w.params.followText "set-display-star-reads-storage" := rfl
  rw [e0]
  cases (w.params.followText "set-display-star-reads-storage") with
  | true =>
    simp only [if_true]
    refine wpAny_bind (wpAny_pyIter_dict lo hda ?_)
    refine wpAny_bind (wpAny_runValue ?_)
    refine codeAny_builtin F.entry_set_update_loop ?_
    rw [Around.under_plainId F.plain_set_update_loop _]
    show wpAny _ A.in1 (pyNext (.ref s.heap.objs.size) >>= _) _ _ _
    refine wpAny_bind (wpAny_pyNext_dict_end (knd := strKind prog w) (kvs := ([] : List (Str × Value))) (i := 0) (d := dd) (ep := ep2) hh ⟨_, Heap.get?_push_size _ rfl, rfl, rfl⟩ (hda.push _) rfl fun h' hx => ?_)
    refine wpAny_pure (wpAny_pure (h h' fun b o e => hx b o (Nat.ne_of_lt (Heap.lt_size e)) (Heap.get?_push_of_some _ e)))
  | false =>
    obtain ⟨od, es, hod, hcd, hdd, _, hp, _⟩ := id hda
    have hes : es.size = 0 := by
      have := hp.length
      simpa using this
    simp only [Bool.false_eq_true, if_false]
    refine wpAny_bind (wpAny_typeOf hT ?_)
    rw [if_pos (by rfl)]
    refine wpAny_bind (wpAny_rule ?_)
    rw [if_neg (by rw [lo]; exact Bool.false_ne_true)]
    refine wpAny_bind (wpAny_dictEpoch hod hdd ?_)
    refine wpAny_bind (wpAny_dictEntries hod hdd ?_)
    rw [hes]
    have hl : { s with heap := s.heap } = s := by cases s; rfl
    refine wpAny_bind ?_
    · unfold setRoomFor
      refine wpAny_bind (wpAny_setState_of hs rfl hfit ?_)
      dsimp only
      rw [hroom]
      refine wpAny_pure ?_
      refine wpAny_bind (wpAny_of_eq (a := PUnit.unit) (by simp [Std.Legacy.Range.forIn_eq_forIn_range']; try rfl) ?_)
      have := h s.heap (fun _ _ e => e)
      rw [hl] at this
      exact wpAny_pure this
end
section
variable {prog : Program} {w : World} {A : Around} {E : Value → Shared → Prop} {s : Shared} {h₀ : Heap} {L : Addr} {m : Str → Option Value} {news : List (Addr × Obj)}
abbrev set0 (led : Bool) : Obj := { cls := .type "set", dict := none, data := .set #[] 0 (.fresh 0 0 led) }
abbrev ledW (w : World) : Bool := !(w.params.followText "set-order")
theorem newSet_led {Q : Value → Shared → Prop} (h : Q (.ref s.heap.objs.size) { s with heap := s.heap.push (set0 (ledW w)) }) : wpAny (model prog w) A (newSet (.type "set")) Q E s := by
  unfold newSet setsByText
  refine wpAny_bind (wpAny_bind (wpAny_askSetting (wpAny_pure ?_)))
  dsimp only
  simp only [newObj]
  exact wpAny_bind (wpAny_alloc (wpAny_pure h))
/-- a display of one plain thing and a star -/
theorem set_two {K : Frag} {e1 e2 : PySem.Expr} {p2 pos : Pos} {env : Env} {Q : Value → Shared → Prop} (F : Fr h₀ L s.heap m) (N : News h₀ L s.heap news) (X : K.In h₀) (hc : kdsCode K env.code = true) (hp : kdsPlain e1 = true)
    (h : ∀ (D : Addr) h', Fr h₀ L h' m → News h₀ L h' ((D, set0 (ledW w)) :: news) → (∀ p ∈ news, p.1 < D) →
      wpAny (model prog w) A (eval e1 env) (fun v s1 => wpAny (model prog w) A (setAdd D v) (fun _ s2 => wpAny (model prog w) A (eval e2 env) (fun v2 s3 => wpAny (model prog w) A (setDisplayStar D v2) (fun _ s4 => Q (.ref D) s4) E s3) E s2) E s1) E { s with heap := h' }) :
    wpAny (model prog w) A (eval (.Set [e1, .Starred e2 p2] 0 pos) env) Q E s := by
  rw [arm_eval_Set]
  refine wpAny_bind (wpAny_standAt ?_)
  refine wpAny_bind (kds_main (X.keeps F.keep) hc fun b => ?_)
  have he : starEach [e1, .Starred e2 p2] env = [(false, eval e1 env), (true, eval e2 env)] := by cases e1 <;> first | rfl | exact absurd hp (by simp [kdsPlain])
  rw [he]
  unfold setDisplay
  rw [if_neg (show ¬ ((displayRoad 0 [e1, .Starred e2 p2] == .constants) = true) from Bool.false_ne_true)]
  refine wpAny_bind (newSet_led ?_)
  dsimp only [List.map_cons, List.map_nil]
  refine wpAny_bind (wpAny_holding ?_)
  refine wpAny_bind ?_
  show wpAny _ _ (evalAll [do let v ← eval e1 env; standAt pos; pure v]) _ _ _
  show wpAny _ _ ((eval e1 env >>= fun v => standAt pos >>= fun _ => pure v) >>= fun v => holding [v] (evalAll []) >>= fun r => pure (v :: r)) _ _ _
  refine wpAny_bind (wpAny_bind (wpAny_mono (h _ _ (F.push _) (News.push F N _ rfl) (fun p hp => Heap.lt_size (N p hp).1)) (fun v s1 h1 => ?_) fun _ _ x => x))
  refine wpAny_bind (wpAny_standAt (wpAny_pure ?_))
  refine wpAny_bind (wpAny_holding (wpAny_pure (wpAny_pure ?_)))
  refine wpAny_bind (wpAny_holding ?_)
  rw [List.forIn_cons]
  refine wpAny_bind (wpAny_bind (wpAny_bind (wpAny_mono h1 (fun _ s2 h2 => ?_) fun _ _ x => x)))
  refine wpAny_pure ?_
  dsimp only
  rw [List.forIn_nil]
  refine wpAny_pure ?_
  rw [if_neg (show ¬ ((displayRoad 0 [e1, .Starred e2 p2] == .unsure) = true) from Bool.false_ne_true)]
  refine wpAny_pure ?_
  show wpAny _ _ (forIn [(true, (do let v ← eval e2 env; standAt pos; pure v : Sem Value))] PUnit.unit _ >>= _) _ _ _
  rw [List.forIn_cons]
  refine wpAny_bind (wpAny_bind (wpAny_bind (wpAny_bind (wpAny_mono h2 (fun v2 s3 h3 => ?_) fun _ _ x => x))))
  refine wpAny_bind (wpAny_standAt (wpAny_pure ?_))
  simp only [if_true]
  refine wpAny_bind (wpAny_holding (wpAny_mono h3 (fun _ s4 h4 => ?_) fun _ _ x => x))
  refine wpAny_pure ?_
  dsimp only
  rw [List.forIn_nil]
  exact wpAny_pure (wpAny_pure (wpAny_pure h4))
end
section
variable {prog : Program} {w : World} {A : Around} {E : Value → Shared → Prop} {s : Shared} {h₀ : Heap} {L : Addr} {m : Str → Option Value} {news rest : List (Addr × Obj)} {D : Addr}
theorem setAddK {led : Bool} {k : Str} {x : Value} {Q : Bool → Shared → Prop} (F : Fr h₀ L s.heap m) (N : News h₀ L s.heap ((D, set0 led) :: rest)) (hlt : ∀ p ∈ rest, p.1 ≠ D) (hkey : (strKind prog w).is k x = true) (hsc : x.scannable = true)
    (h : ∀ h' o, Fr h₀ L h' m → News h₀ L h' ((D, o) :: rest) → OneStr prog w k led o → Q true { s with heap := h', toks := s.toks + 1 }) : wpAny (model prog w) A (setAdd D x) Q E s := by
  have hm := N _ (.head _)
  refine setAdd_fresh hm.1 hkey hsc fun h' o hs ho h1 => h h' o (F.change hs hm.2.1 hm.2.2) (fun p hp => ?_) h1
  rcases List.mem_cons.mp hp with rfl | hp
  · exact ⟨ho, hm.2⟩
  · have z := N p (.tail _ hp)
    exact ⟨(hs.2 _ (hlt p hp)).trans z.1, z.2⟩
theorem starK {led : Bool} {k : Str} {o od : Obj} {dd : Addr} {Q : Unit → Shared → Prop} (hh : A.handled = none) (F : Fr h₀ L s.heap m) (N : News h₀ L s.heap news) (hm : (D, o) ∈ news) (h1 : OneStr prog w k led o) (hd : (dd, od) ∈ news) (hod : od.IsDictOf (strKind prog w) []) (lo : (dd == sysModules) = false)
    (h : ∀ h', Fr h₀ L h' m → News h₀ L h' news → Q () { s with heap := h' }) : wpAny (model prog w) A (setDisplayStar D (.ref dd)) Q E s :=
  star_empty hh (N _ hm).1 h1 (Heap.dictOf_iff.mpr ⟨_, (N _ hd).1, hod⟩) lo fun h' hk => h h' (Mine.Fr.kept F hk) (Mine.News.kept N hk)
end
end
section
open PySem PySem.W PyProof.Rows PySem.W.X PySem.Calls
set_option maxRecDepth 100000
set_option maxHeartbeats 8000000
theorem entry_set_iter : entryFor table "set.__iter__" = some Builtin.«frozenset.__iter__» :=
  entryFor_alias (id' := "frozenset.__iter__") (by kernel_rfl) rfl (by decide +kernel) (by kernel_rfl)
theorem args_set_iter (v : Value) : argsOk "set.__iter__" ⟨[v], []⟩ := by unfold argsOk; kernel_rfl
theorem slot_setiter_next : Slot "set_iterator" "__next__" "set_iterator.__next__" :=
  .of (owner := "set_iterator") (n := "__next__") (by rw [typeLookup_type, builtinLookup_eq_fast]; kernel_rfl) (by decide +kernel) (by decide +kernel) (by decide +kernel)
    (by first | exact .inl (by decide +kernel) | exact .inr (by decide +kernel)) (by rw [isSubtype_type]; kernel_rfl)
theorem entry_setiter_next : entryFor table "set_iterator.__next__" = some Builtin.«set_iterator.__next__» := entryFor_of_tree (by kernel_rfl)
theorem args_setiter_next (v : Value) : argsOk "set_iterator.__next__" ⟨[v], []⟩ := by unfold argsOk; kernel_rfl
section
variable {prog : Program} {w : World} {A : Around} {E : Value → Shared → Prop} {s : Shared}
abbrev setO (h : Int) (x : Value) (ep : Nat) (t : SetTable) : Obj := { cls := .type "set", dict := none, data := .set #[(h, x)] ep t }
abbrev setIt (D : Addr) (ep : Nat) (f : Int) (i : Int) : Obj := { cls := .type "set_iterator", data := .fields #[.int f 0, .int i 0, .ref D, .int 1 0, .int ep 0] }
theorem pyIter_one {D : Addr} {h : Int} {x : Value} {ep : Nat} {t : SetTable} {Q : Value → Shared → Prop} (hs : s.heap.get? D = some (setO h x ep t)) (hfit : t.fits 1 = true)
    (hQ : Q (.ref s.heap.objs.size) { s with heap := s.heap.push (setIt D ep 0 0) }) : wpAny (model prog w) A (pyIter (.ref D)) Q E s := by
  have hT : s.TypeIs (.ref D) "set" := ⟨_, hs, rfl⟩
  refine wpAny_pyIter_slot hT F.slot_set_iter (wpAny_call_entry F.slot_set_iter hT entry_set_iter ?_ (args_set_iter _))
  unfold Builtin.«frozenset.__iter__» Builtin.Frozenset.slot0 slotArgs
  simp only [List.isEmpty_nil, Bool.not_true, Bool.false_eq_true, ↓reduceIte, bind_assoc, List.length_nil, bne_self_eq_false]
  unfold Builtin.Frozenset.addrOf Builtin.Frozenset.sizeOf
  refine wpAny_bind (wpAny_pure ?_)
  try dsimp only
  refine wpAny_bind (wpAny_pure ?_)
  refine wpAny_bind (wpAny_bind (wpAny_setEntries_of hs rfl hfit (wpAny_pure ?_)))
  unfold setDrawn setsByText setEpoch
  refine wpAny_bind (wpAny_bind (wpAny_setState_of hs rfl hfit ?_))
  dsimp only
  refine wpAny_bind (wpAny_bind (wpAny_askSetting (wpAny_pure ?_)))
  refine wpAny_pure ?_
  rw [if_neg (fun hc => by
    change (!(w.params.followText "set-order") && (!t.plain && decide (1 > 1))) = true at hc
    simp at hc)]
  refine wpAny_bind (wpAny_pure ?_)
  refine wpAny_bind (wpAny_bind (wpAny_setState_of hs rfl hfit (wpAny_pure ?_)))
  exact wpAny_bind (wpAny_newObj_type (wpAny_pure ⟨_, rfl, "set_iterator", _, ⟨_, Heap.get?_push_size _ rfl, rfl⟩, slot_setiter_next.lookup, hQ⟩))
theorem pick_one {α : Type} (f : Nat → Nat) (a : α) : pickOrder f #[a] = #[a] := by
  unfold pickOrder
  show pickOrder.go f 1 0 [a] #[] = #[a]
  unfold pickOrder.go
  have e : f 0 % [a].length = 0 := Nat.mod_one _
  rw [e]
  rfl
def nextAt (w : World) (h : Int) : Nat := if w.params.followText "set-order" = true then 0 else SetTable.bits h % 8 + 1
theorem setNext_0 {D : Addr} {h : Int} {x : Value} {ep : Nat} {t : SetTable} {Q : Option (Value × Nat) → Shared → Prop} (hs : s.heap.get? D = some (setO h x ep t))
    (ht : t = tab1 (ledW w) h ∨ t = { tab1 (ledW w) h with plain := false }) (hQ : Q (some (x, nextAt w h)) s) : wpAny (model prog w) A (setNext D 0 0 ep) Q E s := by
  have hfit : t.fits 1 = true := by rcases ht with rfl | rfl <;> rfl
  unfold setNext setsByText
  refine wpAny_bind (wpAny_setState_of hs rfl hfit ?_)
  dsimp only
  refine wpAny_bind (wpAny_bind (wpAny_askSetting (wpAny_pure ?_)))
  have e0 : (Setting.mk (model prog w).prog (model prog w).w.params).params.followText "set-order" = w.params.followText "set-order" := rfl
  rw [e0]
  unfold nextAt at hQ
  cases hb : w.params.followText "set-order" with
  | true =>
    rw [hb] at hQ
    simp only [if_true] at hQ ⊢
    rw [if_neg (by simp)]
    refine wpAny_bind ?_
    unfold setWalk setsByText
    refine wpAny_bind (wpAny_setState_of hs rfl hfit ?_)
    dsimp only
    refine wpAny_bind (wpAny_bind (wpAny_askSetting (wpAny_pure ?_)))
    rw [e0, hb]
    simp only [if_true]
    refine wpAny_bind (wpAny_askSetting (wpAny_pure ?_))
    rw [pick_one]
    exact wpAny_pure hQ
  | false =>
    rw [hb] at hQ
    simp only [Bool.false_eq_true, if_false] at hQ ⊢
    rw [if_neg (fun hc => by
      change (!t.plain && decide (1 > 1)) = true at hc
      simp at hc)]
    refine wpAny_bind ?_
    have hl : (!t.led && !(#[(h, x)] : Array (Int × Value)).isEmpty) = false := by rcases ht with rfl | rfl <;> (simp [ledW, hb]; rfl)
    change wpAny _ _ (if (!t.led && !(#[(h, x)] : Array (Int × Value)).isEmpty) = true then unsupported "set:maker-not-led" else pure ()) _ _ _
    rw [hl, if_neg Bool.false_ne_true]
    refine wpAny_pure (wpAny_pure ?_)
    rcases ht with rfl | rfl <;> exact hQ
theorem setNext_1 {D : Addr} {h : Int} {x : Value} {ep : Nat} {t : SetTable} {Q : Option (Value × Nat) → Shared → Prop} (hs : s.heap.get? D = some (setO h x ep t))
    (ht : t = tab1 (ledW w) h ∨ t = { tab1 (ledW w) h with plain := false }) (hQ : Q none s) : wpAny (model prog w) A (setNext D (nextAt w h) 1 ep) Q E s := by
  have hfit : t.fits 1 = true := by rcases ht with rfl | rfl <;> rfl
  unfold setNext setsByText
  refine wpAny_bind (wpAny_setState_of hs rfl hfit ?_)
  dsimp only
  refine wpAny_bind (wpAny_bind (wpAny_askSetting (wpAny_pure ?_)))
  have e0 : (Setting.mk (model prog w).prog (model prog w).w.params).params.followText "set-order" = w.params.followText "set-order" := rfl
  rw [e0]
  unfold nextAt
  cases hb : w.params.followText "set-order" with
  | true =>
    simp only [if_true]
    rw [if_neg (by simp)]
    refine wpAny_bind ?_
    unfold setWalk setsByText
    refine wpAny_bind (wpAny_setState_of hs rfl hfit ?_)
    dsimp only
    refine wpAny_bind (wpAny_bind (wpAny_askSetting (wpAny_pure ?_)))
    rw [e0, hb]
    simp only [if_true]
    refine wpAny_bind (wpAny_askSetting (wpAny_pure ?_))
    rw [pick_one]
    exact wpAny_pure hQ
  | false =>
    simp only [Bool.false_eq_true, if_false]
    rw [if_neg (fun hc => by
      change (!t.plain && decide (1 > 1)) = true at hc
      simp at hc)]
    refine wpAny_bind ?_
    have hl : (!t.led && !(#[(h, x)] : Array (Int × Value)).isEmpty) = false := by rcases ht with rfl | rfl <;> (simp [ledW, hb]; rfl)
    change wpAny _ _ (if (!t.led && !(#[(h, x)] : Array (Int × Value)).isEmpty) = true then unsupported "set:maker-not-led" else pure ()) _ _ _
    rw [hl, if_neg Bool.false_ne_true]
    refine wpAny_pure (wpAny_pure ?_)
    have hb1 : SetTable.below t.place (SetTable.bits h % 8 + 1) = 1 := by
      have hp : t.place = #[SetTable.bits h % 8] := by rcases ht with rfl | rfl <;> rfl
      rw [hp]
      simp [SetTable.below, SetTable.below.go]
    rw [hb1]
    exact hQ
theorem pyNext_one_item {I D : Addr} {h : Int} {x : Value} {ep : Nat} {t : SetTable} {Q : Option Value → Shared → Prop} (hi : s.heap.get? I = some (setIt D ep 0 0)) (hs : s.heap.get? D = some (setO h x ep t))
    (ht : t = tab1 (ledW w) h ∨ t = { tab1 (ledW w) h with plain := false })
    (hQ : ∀ h', h'.get? I = some (setIt D ep (nextAt w h) 1) → Heap.SameBut I s.heap h' → Q (some x) { s with heap := h' }) : wpAny (model prog w) A (pyNext (.ref I)) Q E s := by
  have hfit : t.fits 1 = true := by rcases ht with rfl | rfl <;> rfl
  have hT : s.TypeIs (.ref I) "set_iterator" := ⟨_, hi, rfl⟩
  unfold pyNext
  refine wpAny_bind (wpAny_attempt (wpAny_callSpecial?_slot (name := Str.ofString "__next__") hT slot_setiter_next
    (wpAny_call_entry slot_setiter_next hT entry_setiter_next ?_ (args_setiter_next _))))
  unfold Builtin.«set_iterator.__next__» slotArgs
  simp only [List.isEmpty_nil, Bool.not_true, Bool.false_eq_true, ↓reduceIte, bind_assoc, List.length_nil, bne_self_eq_false]
  refine wpAny_bind (wpAny_pure ?_)
  dsimp only
  refine wpAny_bind (wpAny_fieldsOf hi rfl ?_)
  dsimp only
  refine wpAny_bind (wpAny_setEntries_of hs rfl hfit ?_)
  rw [if_neg (by simp)]
  refine wpAny_bind (setNext_0 hs ht ?_)
  dsimp only
  refine wpAny_bind (wpAny_setField hi rfl (by simp) ?_)
  have hi2 : (s.heap.update I (Obj.mapFields fun xs => xs.setIfInBounds 0 (rawInt (nextAt w h)))).get? I = some (setIt D ep (nextAt w h) 0) := Heap.get?_update_self _ hi (by rfl)
  refine wpAny_bind (wpAny_setField hi2 rfl (by simp) ?_)
  refine wpAny_pure ⟨_, rfl, wpAny_pure (hQ _ ?_ ((Heap.SameBut.update ..).trans (Heap.SameBut.update ..)))⟩
  exact Heap.get?_update_self _ hi2 (by rfl)
theorem pyNext_one_end {I D : Addr} {h : Int} {x : Value} {ep : Nat} {t : SetTable} {Q : Option Value → Shared → Prop} (hh : A.handled = none) (hi : s.heap.get? I = some (setIt D ep (nextAt w h) 1)) (hs : s.heap.get? D = some (setO h x ep t))
    (ht : t = tab1 (ledW w) h ∨ t = { tab1 (ledW w) h with plain := false })
    (hQ : ∀ h', Heap.ExtBut I s.heap h' → Q none { s with heap := h' }) : wpAny (model prog w) A (pyNext (.ref I)) Q E s := by
  have hfit : t.fits 1 = true := by rcases ht with rfl | rfl <;> rfl
  have hT : s.TypeIs (.ref I) "set_iterator" := ⟨_, hi, rfl⟩
  unfold pyNext
  refine wpAny_bind (wpAny_attempt (wpAny_callSpecial?_slot (name := Str.ofString "__next__") hT slot_setiter_next
    (wpAny_call_entry slot_setiter_next hT entry_setiter_next ?_ (args_setiter_next _))))
  unfold Builtin.«set_iterator.__next__» slotArgs
  simp only [List.isEmpty_nil, Bool.not_true, Bool.false_eq_true, ↓reduceIte, bind_assoc, List.length_nil, bne_self_eq_false]
  refine wpAny_bind (wpAny_pure ?_)
  dsimp only
  refine wpAny_bind (wpAny_fieldsOf hi rfl ?_)
  dsimp only
  refine wpAny_bind (wpAny_setEntries_of hs rfl hfit ?_)
  rw [if_neg (by simp)]
  refine wpAny_bind (setNext_1 hs ht ?_)
  dsimp only
  refine wpAny_bind (wpAny_setField hi rfl (by simp) ?_)
  show wpAny _ _ (newExc (.type "StopIteration") [] >>= _) _ _ _
  refine wpAny_bind ?_
  simp only [newExc, newTuple]
  refine wpAny_bind (wpAny_newObj_type ?_ (by size_fits))
  refine wpAny_bind (m := firstArgMember _ _) (wpAny_of_eq (a := Value.none) (by first | rfl | (simp only [firstArgMember]; rfl)) ?_)
  refine wpAny_newObj_type ?_ (by size_fits)
  simp only [raiseNew]
  refine wpAny_bind (wpAny_handled ?_)
  first | rw [show A.in1.handled = none from hh] | rw [hh]
  refine wpAny_bind (wpAny_pure (wpAny_throw ?_))
  refine wpAny_bind (wpAny_isInstance (T := "StopIteration") (b := true) ⟨_, Heap.get?_push_size _ rfl, rfl⟩ isSubtype_stop ?_)
  exact wpAny_pure (hQ _ (((Heap.SameBut.update ..).extBut.push _).push _))
end
end
section
open PySem PySem.W PyProof.Rows PySem.W.X PySem.Calls
set_option maxRecDepth 100000
set_option maxHeartbeats 8000000
section
variable {prog : Program} {w : World} {A : Around} {E : Value → Shared → Prop} {s : Shared}
theorem collect_one {D : Addr} {k : Str} {o : Obj} {Q : List Value → Shared → Prop} (hh : A.handled = none) (hs : s.heap.get? D = some o) (h1 : OneStr prog w k (ledW w) o)
    (h : ∀ h' tk x, Keeps s.heap h' → (strKind prog w).is k x = true → Q [x] { s with heap := h', toks := tk }) : wpAny (model prog w) A (collect (.ref D)) Q E s := by
  obtain ⟨x, ep, t, hx, hsc, rfl, ht⟩ := h1
  have hfit : t.fits 1 = true := by rcases ht with rfl | rfl <;> rfl
  have hlt : (D : Nat) < s.heap.objs.size := Heap.lt_size hs
  have hne : s.heap.objs.size ≠ D := Nat.ne_of_gt hlt
  unfold collect
  refine wpAny_bind (wpAny_runValue (codeAny_builtin F.entry_proto_collect ?_))
  rw [Around.under_plainId F.plain_proto_collect _]
  show wpAny _ A.in1 (newList [] >>= fun l => again (.builtin "list.__iadd__" ⟨[l, .ref D], []⟩)) _ _ s
  refine wpAny_bind (wpAny_newObj_type ?_)
  refine wpAny_pure ⟨plainId_quiet F.plain_list_iadd _, codeAny_builtin F.entry_list_iadd ?_⟩
  rw [Around.under_plainId F.plain_list_iadd _]
  have h1 : Builtin.List.listSameRef (.ref s.heap.objs.size) (.ref D) = false := by simp [Builtin.List.listSameRef, hne]
  show wpAny _ A.in1 (Builtin.List.listExtendWith (.ref s.heap.objs.size) (.ref D) (.ref s.heap.objs.size)) _ _ _
  unfold Builtin.List.listExtendWith
  have hs1 : (s.heap.push { cls := .type "list", data := .seq ([] : List Value).toArray }).get? D = some (setO ((strKind prog w).hash k) x ep t) := Heap.get?_push_of_some _ hs
  refine wpAny_bind (wpAny_typeOf (T := "set") ⟨_, hs1, rfl⟩ ?_)
  rw [if_neg (by rw [h1]; decide)]
  refine wpAny_bind (pyIter_one hs1 hfit ?_)
  refine wpAny_bind (wpAny_holding ?_)
  unfold Builtin.List.listLengthHint
  have hs2 : ((s.heap.push { cls := .type "list", data := .seq ([] : List Value).toArray }).push (setIt D ep 0 0)).get? D = some (setO ((strKind prog w).hash k) x ep t) := Heap.get?_push_of_some _ hs1
  refine wpAny_bind (wpAny_specialOf (T := "set") ⟨_, hs2, rfl⟩ F.slot_set_len.lookup ?_)
  dsimp only
  rw [show splitId "set.__len__" = some ("set", "__len__") from by decide +kernel]
  dsimp only
  refine wpAny_bind (wpAny_isInstance (T := "set") (b := true) ⟨_, hs2, rfl⟩ (by rw [isSubtype_type]; kernel_rfl) ?_)
  rw [if_neg (by decide)]
  rw [if_pos (by rfl)]
  refine wpAny_bind (wpAny_typeOf (T := "set") ⟨_, hs2, rfl⟩ ?_)
  dsimp only
  refine wpAny_pure ?_
  rw [if_pos (by rfl)]
  refine wpAny_bind (wpAny_rule ?_)
  have hl0 : ((s.heap.push { cls := .type "list", data := .seq ([] : List Value).toArray }).push (setIt D ep 0 0)).get? s.heap.objs.size = some { cls := .type "list", data := .seq ([] : List Value).toArray } := Heap.get?_push_of_some _ (Heap.get?_push_size _ rfl)
  have hsz : (s.heap.push { cls := .type "list", data := .seq ([] : List Value).toArray }).objs.size = s.heap.objs.size + 1 := Heap.size_push ..
  have hI0 : ((s.heap.push { cls := .type "list", data := .seq ([] : List Value).toArray }).push (setIt D ep 0 0)).get? (s.heap.objs.size + 1) = some (setIt D ep 0 0) := by
    rw [← hsz]; exact Heap.get?_push_size _ rfl
  rw [hsz]
  have hlo : ∀ (b : Nat) ob, s.heap.get? b = some ob → b < s.heap.objs.size := fun b ob e => Heap.lt_size e
  have hk0 : ∀ (b : Nat) ob, s.heap.get? b = some ob → ((s.heap.push { cls := .type "list", data := .seq ([] : List Value).toArray }).push (setIt D ep 0 0)).get? b = some ob := fun b ob e => Heap.get?_push_of_some _ (Heap.get?_push_of_some _ e)
  generalize ((s.heap.push { cls := .type "list", data := .seq ([] : List Value).toArray }).push (setIt D ep 0 0)) = H at *
  generalize s.heap.objs.size = a at *
  unfold Builtin.List.listTouch
  have hIa : a + 1 ≠ a := Nat.succ_ne_self a
  have hDa : (D : Nat) ≠ a := Nat.ne_of_lt hlt
  have hDI : (D : Nat) ≠ a + 1 := Nat.ne_of_lt (Nat.lt_succ_of_lt hlt)
  refine wpAny_bind (wpAny_bind (listUpdate_at hl0 rfl ?_))
  have hl1 : (H.update a (Obj.mapSeq (·.push .none))).get? a = some { cls := .type "list", data := .seq #[Value.none] 1 } := Heap.get?_update_self _ hl0 (by rfl)
  refine listUpdate_at hl1 rfl ?_
  have s2 : Heap.SameBut a H ((H.update a (Obj.mapSeq (·.push .none))).update a (Obj.mapSeq (·.pop))) := (Heap.SameBut.update ..).trans (Heap.SameBut.update ..)
  have hl2 : ((H.update a (Obj.mapSeq (·.push .none))).update a (Obj.mapSeq (·.pop))).get? a = some { cls := .type "list", data := .seq (#[] : Array Value) 2 } := Heap.get?_update_self _ hl1 (by rfl)
  generalize ((H.update a (Obj.mapSeq (·.push .none))).update a (Obj.mapSeq (·.pop))) = H2 at *
  refine wpAny_pure ⟨plainId_quiet F.plain_extend_loop _, codeAny_builtin F.entry_extend_loop ?_⟩
  rw [Around.under_plainId F.plain_extend_loop _]
  show wpAny _ A.in1 (pyNext (.ref (a + 1)) >>= _) _ _ _
  refine wpAny_bind (pyNext_one_item ((s2.2 _ hIa).trans hI0) ((s2.2 _ hDa).trans hs2) ht fun h3 hI3 hs3 => ?_)
  dsimp only
  have hl3 : h3.get? a = some { cls := .type "list", data := .seq (#[] : Array Value) 2 } := (hs3.2 _ hIa.symm).trans hl2
  refine wpAny_bind (listUpdate_at hl3 rfl ?_)
  have s4 : Heap.SameBut a h3 (h3.update a (Obj.mapSeq (·.push x))) := Heap.SameBut.update ..
  have hl4 : (h3.update a (Obj.mapSeq (·.push x))).get? a = some { cls := .type "list", data := .seq #[x] 3 } := Heap.get?_update_self _ hl3 (by rfl)
  generalize (h3.update a (Obj.mapSeq (·.push x))) = H4 at *
  refine wpAny_pure ⟨plainId_quiet F.plain_extend_loop _, codeAny_builtin F.entry_extend_loop ?_⟩
  rw [Around.under_plainId F.plain_extend_loop _]
  show wpAny _ A.in1 (pyNext (.ref (a + 1)) >>= _) _ _ _
  refine wpAny_bind (pyNext_one_end hh ((s4.2 _ hIa).trans hI3) ((s4.2 _ hDa).trans ((hs3.2 _ hDI).trans ((s2.2 _ hDa).trans hs2))) ht fun h5 hx5 => ?_)
  dsimp only
  have hl5 : h5.get? a = some { cls := .type "list", data := .seq #[x] 3 } := hx5 _ _ hIa.symm hl4
  refine wpAny_pure ?_
  show wpAny _ A (load a >>= _) _ _ _
  refine wpAny_bind (wpAny_load hl5 ?_)
  refine wpAny_pure (h h5 s.toks x (fun b ob e => ?_) hx)
  have hb := hlo b ob e
  have n1 : (b : Nat) ≠ a := Nat.ne_of_lt hb
  have n2 : (b : Nat) ≠ a + 1 := Nat.ne_of_lt (Nat.lt_succ_of_lt hb)
  exact hx5 b ob n2 ((s4.2 b n1).trans ((hs3.2 b n2).trans ((s2.2 b n1).trans (hk0 b ob e))))
end
end
section
open PySem PySem.W PyProof.Rows PySem.W.X PySem.Calls
set_option maxRecDepth 100000
set_option maxHeartbeats 8000000
/-- what the key's call must show: the ledger stays -/
def KeyEnd (h₀ : Heap) (L : Addr) (m : Str → Option Value) (need : List (Addr × Obj)) (s₁ : Shared) (_v : Value) (s₂ : Shared) : Prop :=
  ∃ h' tk, s₂ = { s₁ with heap := h', toks := tk } ∧ Fr h₀ L h' m ∧ News h₀ L h' need
section
variable {prog : Program} {w : World} {A : Around} {E : Value → Shared → Prop} {s : Shared} {h₀ : Heap} {L : Addr} {m : Str → Option Value} {news : List (Addr × Obj)}
theorem sorted_one {D f : Addr} {k : Str} {o : Obj} {Q : Value → Shared → Prop} (hh : A.handled = none) (F : Fr h₀ L s.heap m) (N : News h₀ L s.heap news) (hm : (D, o) ∈ news) (h1 : OneStr prog w k (ledW w) o)
    (ha1 : argsOk "sorted" ⟨[.ref D], [(Str.ofString "key", .ref f)]⟩) (ha2 : ∀ x, argsOk "list.sort" ⟨[.ref x], [(Str.ofString "key", .ref f)]⟩)
    (turn : ∀ (x : Value) (h : Heap) (tk : Nat) (own : List (Addr × Obj)), (strKind prog w).is k x = true → Fr h₀ L h m → News h₀ L h (news ++ own) →
      wpAny (model prog w) A.in1.in1 (call (.ref f) [x]) (KeyEnd h₀ L m (news ++ own) { s with heap := h, toks := tk }) (fun _ _ => False) { s with heap := h, toks := tk })
    (done : ∀ D' x c h' tk, (strKind prog w).is k x = true → Fr h₀ L h' m → News h₀ L h' ((D', listOf #[x] c) :: news) → (∀ q ∈ news, q.1 < D') → Q (.ref D') { s with heap := h', toks := tk }) :
    wpAny (model prog w) A (call (.builtin "sorted") [.ref D] [(Str.ofString "key", .ref f)]) Q E s := by
  refine call_function_entry_kw kind_sorted plain_sorted entry_sorted ha1 ?_
  unfold Builtin.«sorted»
  refine wpAny_bind (m := checkCount "sorted" 1 1 _) (wpAny_pure ?_)
  refine wpAny_bind (collect_one hh (N _ hm).1 h1 fun h1' tk1 x hk hx => ?_)
  have F1 := Mine.Fr.kept F hk
  have N1 := Mine.News.kept N hk
  refine wpAny_bind (wpAny_newList ?_ (show 1 ≤ sizeLine from by decide))
  refine wpAny_bind (wpAny_holding (wpAny_call_entry_kw slot_list_sort (s := _) ⟨_, Heap.get?_push_size _ rfl, rfl⟩ entry_list_sort ?body (ha2 _)))
  case body =>
    rw [ksk_t1]
    unfold ksk_tree
    refine wpAny_bind (listItems_at (Heap.get?_push_size _ rfl) rfl ?_)
    refine wpAny_bind (listUpdate_at (Heap.get?_push_size _ rfl) rfl ?_ (show 1 ≤ sizeLine from by decide) (Nat.zero_le _))
    dsimp only
    have hl0 : (h1'.push { cls := .type "list", data := .seq #[x] }).get? h1'.objs.size = some { cls := .type "list", data := .seq #[x] } := Heap.get?_push_size _ rfl
    have hl1 : ((h1'.push { cls := .type "list", data := .seq #[x] }).update h1'.objs.size (Obj.mapSeq fun _ => (#[] : Array Value))).get? h1'.objs.size = some { cls := .type "list", data := .seq (#[] : Array Value) 1 } := Heap.get?_update_self _ hl0 (by rfl)
    have hz1 : ((h1'.push { cls := .type "list", data := .seq #[x] }).update h1'.objs.size (Obj.mapSeq fun _ => (#[] : Array Value))).objs.size = h1'.objs.size + 1 := by rw [Heap.size_update, Heap.size_push]
    have hk1 : Keeps h1' ((h1'.push { cls := .type "list", data := .seq #[x] }).update h1'.objs.size (Obj.mapSeq fun _ => (#[] : Array Value))) := fun b ob e => by
      rw [Heap.get?_update_ne _ _ _ _ (Nat.ne_of_lt (Heap.lt_size e))]
      exact Heap.get?_push_of_some _ e
    refine wpAny_bind (seqEpoch_at hl1 rfl ?_)
    generalize ((h1'.push { cls := .type "list", data := .seq #[x] }).update h1'.objs.size (Obj.mapSeq fun _ => (#[] : Array Value))) = H1 at *
    refine wpAny_bind (wpAny_newTuple ?_ (show 1 ≤ sizeLine from by decide))
    refine wpAny_bind (wpAny_newList ?_ (Nat.zero_le _))
    refine wpAny_holding ?_
    unfold ksk_rest
    refine wpAny_bind (wpAny_rule ?_)
    rw [show (#[x] : Array Value) = [x].toArray from rfl, List.forIn_toArray, List.forIn_cons]
    dsimp only
    have hk2 : ∀ (b : Nat) ob, H1.get? b = some ob → ((H1.push { cls := .type "tuple", data := .seq #[x] }).push { cls := .type "list", data := .seq (#[] : Array Value) }).get? b = some ob := fun b ob e => Heap.get?_push_of_some _ (Heap.get?_push_of_some _ e)
    have hz2 : (H1.push { cls := .type "tuple", data := .seq #[x] }).objs.size = h1'.objs.size + 2 := by rw [Heap.size_push, hz1]
    have hk2' : ((H1.push { cls := .type "tuple", data := .seq #[x] }).push { cls := .type "list", data := .seq (#[] : Array Value) }).get? (h1'.objs.size + 2) = some { cls := .type "list", data := .seq (#[] : Array Value) } := by
      rw [← hz2]; exact Heap.get?_push_size _ rfl
    have hl2 := hk2 _ _ hl1
    rw [hz2]
    have hk3 : Keeps s.heap ((H1.push { cls := .type "tuple", data := .seq #[x] }).push { cls := .type "list", data := .seq (#[] : Array Value) }) := fun b ob e => hk2 _ _ (hk1 _ _ (hk _ _ e))
    have F3 := Mine.Fr.kept F hk3
    have hLa : L < h1'.objs.size := F1.ns.lt
    have nn : ∀ j : Nat, h1'.objs.size ≤ j → j ≠ L ∧ h₀.get? j = none := fun j hj => ⟨Nat.ne_of_gt (Nat.lt_of_lt_of_le hLa hj), Heap.get?_none_of_le (Nat.le_trans F.above (Nat.le_trans (Nat.le_of_lt hLa) hj))⟩
    have N3 : News h₀ L _ (news ++ [(h1'.objs.size + 2, { cls := .type "list", data := .seq (#[] : Array Value) }), (h1'.objs.size, { cls := .type "list", data := .seq (#[] : Array Value) 1 })]) := fun p hp => by
      rcases List.mem_append.mp hp with hp | hp
      · exact ⟨hk3 _ _ (N p hp).1, (N p hp).2⟩
      · rcases List.mem_cons.mp hp with rfl | hp
        · exact ⟨hk2', nn _ (Nat.le_add_right _ _)⟩
        · rw [List.mem_singleton.mp hp]
          exact ⟨hl2, nn _ (Nat.le_refl _)⟩
    refine wpAny_bind (wpAny_bind (wpAny_bind (wpAny_attempt (wpAny_mono (turn x _ _ _ hx F3 N3) (fun v s4 h4 => ?_) fun _ _ z => z.elim))))
    obtain ⟨h5, tk5, rfl, F5, N5⟩ := h4
    dsimp only
    have eK := (N5 _ (List.mem_append_right _ (.head _))).1
    have eA := (N5 _ (List.mem_append_right _ (.tail _ (.head _)))).1
    refine wpAny_bind (listUpdate_at eK rfl ?_)
    refine wpAny_pure ?_
    dsimp only
    rw [List.forIn_nil]
    refine wpAny_pure ?_
    have sK := Heap.SameBut.update h5 (h1'.objs.size + 2) (Obj.mapSeq (·.push v))
    have eK2 : (h5.update (h1'.objs.size + 2) (Obj.mapSeq (·.push v))).get? (h1'.objs.size + 2) = some { cls := .type "list", data := .seq #[v] 1 } := Heap.get?_update_self _ eK (by rfl)
    have eA2 := (sK.2 h1'.objs.size (show (h1'.objs.size : Nat) ≠ h1'.objs.size + 2 from Nat.ne_of_lt (Nat.lt_add_of_pos_right (by decide)))).trans eA
    generalize (h5.update (h1'.objs.size + 2) (Obj.mapSeq (·.push v))) = h6 at *
    refine wpAny_bind (listItems_at eK2 rfl ?_)
    unfold ksk_end
    refine wpAny_bind (wpAny_pure ?_)
    refine wpAny_bind (wpAny_pure ?_)
    dsimp only
    unfold ksk_tail
    refine wpAny_bind (listUpdate_at eK2 rfl ?_ (show 1 ≤ sizeLine from by decide) (Nat.zero_le _))
    refine wpAny_bind (wpAny_letGo ?_)
    have sK2 := Heap.SameBut.update h6 (h1'.objs.size + 2) (Obj.mapSeq fun _ => (#[] : Array Value))
    have hne : (h1'.objs.size : Nat) ≠ h1'.objs.size + 2 := Nat.ne_of_lt (Nat.lt_add_of_pos_right (by decide))
    have eA3 := (sK2.2 h1'.objs.size hne).trans eA2
    generalize (h6.update (h1'.objs.size + 2) (Obj.mapSeq fun _ => (#[] : Array Value))) = h7 at *
    refine wpAny_bind (seqEpoch_at eA3 rfl ?_)
    have ez : (#[v].zip #[x] : Array Keyed).map (fun y => y.snd) = #[x] := by simp
    simp only [Bool.false_eq_true, if_false]
    rw [show Array.map (fun y : Keyed => y.snd) (arrOf (SortSt.mk' general' (#[v].zip #[x]) #[] 7 none)) = #[x] from ez]
    change wpAny _ _ (Builtin.List.listUpdate (.ref h1'.objs.size) (fun _ => (#[x] : Array Value)) >>= fun _ => ret Value.none) _ _ _
    refine wpAny_bind (listUpdate_at eA3 rfl ?_ (Nat.zero_le _) (show 1 ≤ sizeLine + 1 from by decide))
    refine wpAny_pure ⟨_, rfl, wpAny_pure ⟨_, rfl, ?_⟩⟩
    have sA := Heap.SameBut.update h7 h1'.objs.size (Obj.mapSeq fun _ => (#[x] : Array Value))
    have eA4 : (h7.update h1'.objs.size (Obj.mapSeq fun _ => (#[x] : Array Value))).get? h1'.objs.size = some { cls := .type "list", data := .seq #[x] 2 } := Heap.get?_update_self _ eA3 (by rfl)
    refine done _ x 2 (h7.update h1'.objs.size (Obj.mapSeq fun _ => (#[x] : Array Value))) tk5 hx ?_ ?_ ?_
    · exact Fr.but (Fr.but (Fr.but F5 (fun b ob hb e => (sK.2 b hb).trans e) (nn _ (Nat.le_add_right _ _)).1 (nn _ (Nat.le_add_right _ _)).2) (fun b ob hb e => (sK2.2 b hb).trans e) (nn _ (Nat.le_add_right _ _)).1 (nn _ (Nat.le_add_right _ _)).2) (fun b ob hb e => (sA.2 b hb).trans e) (nn _ (Nat.le_refl _)).1 (nn _ (Nat.le_refl _)).2
    · intro p hp
      rcases List.mem_cons.mp hp with rfl | hp
      · exact ⟨eA4, nn _ (Nat.le_refl _)⟩
      · have hlt : (p.1 : Nat) < h1'.objs.size := Heap.lt_size (N1 p hp).1
        have q1 : (p.1 : Nat) ≠ h1'.objs.size := Nat.ne_of_lt hlt
        have q2 : (p.1 : Nat) ≠ h1'.objs.size + 2 := Nat.ne_of_lt (Nat.lt_of_lt_of_le hlt (Nat.le_add_right _ _))
        exact ⟨(sA.2 _ q1).trans ((sK2.2 _ q2).trans ((sK.2 _ q2).trans (N5 p (List.mem_append_left _ hp)).1)), (N p hp).2⟩
    · exact fun q hq => Heap.lt_size (N1 q hq).1
end
end
section
open PySem PySem.W PyProof.Rows PySem.W.X PySem.Calls
set_option autoImplicit false
set_option pp.deepTerms false
set_option pp.proofs false
set_option maxRecDepth 100000
set_option maxHeartbeats 8000000
theorem in_case {news : List (Addr × Obj)} {g h : Heap} {b : Addr} {o : Obj} (hg : ∀ b o, h.get? b = some o → b ∉ news.map (·.1) → g.get? b = some o) (e : h.get? b = some o) : (∃ p ∈ news, p.1 = b) ∨ g.get? b = some o := by
  by_cases hb : b ∈ news.map (·.1)
  · obtain ⟨p, hp, q⟩ := List.mem_map.mp hb
    exact .inl ⟨p, hp, q⟩
  · exact .inr (hg b o e hb)
def fmM (x1 x2 : Str) (m2 : Str → Option Value) (u1 u2 : Option Value) : Str → Option Value := fun y => if y = x2 then u2 else if y = x1 then u1 else m2 y
theorem fmM_self {x1 x2 : Str} {m2 : Str → Option Value} (y : Str) : m2 y = fmM x1 x2 m2 (m2 x1) (m2 x2) y := by
  unfold fmM
  by_cases h1 : y = x2
  · rw [if_pos h1, h1]
  rw [if_neg h1]
  by_cases h2 : y = x1
  · rw [if_pos h2, h2]
  rw [if_neg h2]
theorem fmM_next {x1 x2 : Str} {m2 : Str → Option Value} {u1 u2 : Option Value} {va vb : Value} (q : Str) : (if q = x2 then some vb else if q = x1 then some va else fmM x1 x2 m2 u1 u2 q) = fmM x1 x2 m2 (some va) (some vb) q := by
  unfold fmM
  by_cases h1 : q = x2
  · simp only [if_pos h1]
  by_cases h2 : q = x1
  · simp only [if_neg h1, if_pos h2]
  simp only [if_neg h1, if_neg h2]
theorem news_set {g h h' : Heap} {L d : Addr} {o o' : Obj} {rest : List (Addr × Obj)} (N : News g L h ((d, o) :: rest)) (hsb : Heap.SameBut d h h') (ho : h'.get? d = some o') (hne : ∀ p ∈ rest, p.1 ≠ d) : News g L h' ((d, o') :: rest) := fun p hp => by
  rcases List.mem_cons.mp hp with rfl | hp
  · exact ⟨ho, (N _ (.head _)).2⟩
  · have z := N p (.tail _ hp)
    exact ⟨(hsb.2 _ (hne p hp)).trans z.1, z.2⟩
abbrev xmlS : Str := Str.ofString "xml"
/-- what the loop of _qname keeps -/
def QJ (w : World) (A : Around) {g2 h2 : Heap} {L2 : Addr} {m2 : Str → Option Value} {news2 : List (Addr × Obj)} {d0 : Addr} {o0 : Obj} (_F : Fr g2 L2 h2 m2) (_N : News g2 L2 h2 ((d0, o0) :: news2)) (D : List Nat) (G : Array GenState) (d : Drawn) (os : OsState) (xa : Nat) (rem : List Value) (s1 : Shared) : Prop :=
  ∃ h1 tk gs1 u1 u2 so, s1 = ⟨h1, G.push gs1, d, tk, os⟩ ∧ GenState.bare gs1 = true ∧ GenAt w A.in1 h2.objs.size D rem h1 gs1 ∧ h1.IsGen (h2.objs.size + 1) G.size ∧ Fr g2 L2 h1 (fmM (Str.ofString "u") (Str.ofString "prefix") m2 u1 u2) ∧ News g2 L2 h1 ((d0, so) :: news2) ∧
    ((rem = [.ref xa] ∧ Obj.SetObjOf (PySem.strKind lawProg w) so (fun _ => false) 0) ∨ (rem = [] ∧ Obj.SetObjOf (PySem.strKind lawProg w) so (fun k' => false || decide (k' = xmlS)) 1))
theorem t_qname {w : World} {dp un : Nat} {gd : Option (List Code)} {cn : Str} {cs : Scope} {a : Addr} {ccd : Value} {cl : List (Str × Addr)} {outer : List Env} {A₀ : Around} {base h₀ : Heap} {L : Addr}
    {m mg mb : Str → Option Value} {loose : List Str} {mean : ExcName → Option Value} {s : Shared} {R : Result → Shared → Prop} {wr dx bm da ds ns pm ps : Addr} {k : Nat → Tok} {kz : Tok} {rs rd : Bool} {nd : Nat} {tag : Str} {t1 : Tok}
    {lists : List (Nat × List Value)} {xa : Nat} {x1 x2 : Tok}
    (B : Below A₀ base outer h₀) (F : Fr h₀ L s.heap m) (X : (hd.heap_39 w.params).In h₀) (T : Top topProg loose mean mg mb h₀) (hk : cs.kind = .function)
    (N : News h₀ L s.heap [(wr, instObj 150 dx), (dx, wDict w k kz bm da ds ns pm ps rs rd nd)])
    (hdp : dp + 20 < recursionLimit)
    (hf : Facts ds lists s.heap) (hsz : ∀ p ∈ lists, p.2.length < 2 ^ 62) (hes : flat lists lists.length = [.ref xa]) (het : s.heap.get? xa = some (tupO [vstr "http://www.w3.org/XML/1998/namespace" x1, vstr "xml" x2]))
    (htl : tag.length ≤ 1000) (htb : (Txt.slice tag none (some 1) == Str.ofString "{") = false)
    (hret : ∀ r te h' tk' gs, Keeps s.heap h' → GenState.bare gs = true → (∀ b o, s.heap.get? b = some o → b < r) → h'.get? r = some (tupO [.str tag t1, .str tag t1, .str (Str.ofString "") te]) → R (.ok (.ret (.ref r))) { s with heap := h', toks := tk', gens := s.gens.push gs }) :
    codeAny (model lawProg w) (ktrTop dp un gd cn cs L a ccd cl outer) (.call (.ref 90) ⟨[.ref wr, .str tag t1], []⟩) R s := by
  have hk0 : HoldK "exec For Tuple Name cons nil" := .on _
  have hk1 : HoldK "exec For Tuple Call cons nil" := .on _
  have hk2 : HoldK "tup" := .on _
  have hk3 : HoldK "call builtin:set.add" := .on _
  (refine' code_defH (binds := [(Str.ofString "self", .ref wr), (Str.ofString "qname", .str tag t1), (Str.ofString "uri", .none)]) ?k1 ?k2 ?k3 ?k4 ?k5 ?kA ?kF ?kK ?k6 ?k7 ?k8 ?k9 ?kB ?_ ?c2 ?c3 ?c4 ?c5; (case kA => exact rfl); (case kF => exact rfl); (case kK => assumption); (case k1 => k_asm); (case k2 => k_asm); (case k3 => k_asm); (case k4 => k_asm); (case k5 => k_asm); (case k6 => k_is); (case k7 => k_is); (case k8 => ktr_room); (case k9 => exact binds_K (X.keeps F.keep) rfl (by k_is) rfl rfl rfl); (case c5 => decide); (case kB => exact locs rfl); (case c2 => exact rfl); (case c3 => exact rfl); (case c4 => exact rfl); k_whole)
  intro g' L' h' hg FG' F' N' B' X' T'; (try dsimp only); (try k_fold)
  k_steps
  refine Held.mk ?_
  refine wpAny_For ?_
  k_steps
  rename Fr h₀ L _ _ => FG2
  rename (hd.heap_39 w.params).In _ => X2
  rename Top _ _ _ _ _ _ => T2
  rename Fr g' L' _ _ => F2
  rename News g' L' _ _ => N2
  rename Obj.SetObjOf (PySem.strKind lawProg w) _ _ _ => HS
  have hlow : ∀ b o, s.heap.get? b = some o → b ∉ [(wr, instObj 150 dx), (dx, wDict w k kz bm da ds ns pm ps rs rd nd)].map (·.1) → g'.get? b = some o := fun b o e hb => hg b o e hb
  have hoL : ∀ b o, s.heap.get? b = some o → o.cls = .type "list" → g'.get? b = some o := fun b o e hc => hlow b o e (off_of (fun p hp => (N p hp).1) e (by rw [hc]; exact off_cls rfl (by decide)))
  have hoT : ∀ b o, s.heap.get? b = some o → o.cls = .type "tuple" → g'.get? b = some o := fun b o e hc => hlow b o e (off_of (fun p hp => (N p hp).1) e (by rw [hc]; exact off_cls rfl (by decide)))
  have hf2 : Facts ds lists _ := ⟨let ⟨o, e, r⟩ := hf.1; ⟨o, F2.keep _ _ (hoL _ _ e r.1), r⟩, fun p hp => let ⟨o, e, r⟩ := hf.2 p hp; ⟨o, F2.keep _ _ (hoL _ _ e r.1), r⟩⟩
  refine iter_call (lists := lists) (X2.keeps F2.keep) (T2.nolimit.keeps F2.keep) (by ktr_room) hf2 hsz fun h' tk gs hkp hsz' hgen hb htl => ?_
  dsimp only at hkp hsz' hgen htl ⊢
  have hbase : ∀ (b : Nat) o, g'.get? b = some o → b < _ := fun b o e => Heap.lt_size (F2.keep b o e)
  have hnews : ∀ p ∈ _, _ := fun p hp => Heap.lt_size (N2 p hp).1
  have hd0 := hnews (_, _) (.head _)
  refine genFor (C := sizeAt F2) (D := dats ds lists) (g := s.gens.size) (fun A => QJ w A F2 N2 (dats ds lists) s.gens s.drawn s.os xa) [.ref xa] rfl (by ktr_room) ?_ ?_ ?_ ?_
  · exact ⟨h', tk, gs, _, _, _, rfl, hb, fun s'' P ag hc => htl _ s'' P rfl ag (hes ▸ hc), hgen, Mine.Fr.congr (Mine.Fr.kept F2 hkp) fmM_self, Mine.News.kept N2 hkp, .inl ⟨rfl, HS⟩⟩
  · rintro rem s1 ⟨h1, tk1, gs1, u1, u2, so, rfl, hb1, hG1, hgen1, F3, N3, hS⟩
    exact ⟨T2.nolimit.keeps F3.keep, hgen1, gs1, by simp, hG1⟩
  · rintro v rem s1 h3 tk3 gs3 ⟨h1, tk1, gs1, u1, u2, so, rfl, hb1, hG1, hgen1, F3, N3, hS⟩ hst hb3 hG3
    rcases hS with ⟨hrem, hS⟩ | ⟨hrem, _⟩
    · cases hrem
      dsimp only
      rw [setGen_push]
      have F4 := Mine.Fr.stays F3 hst F2.ns.lt hbase
      have N4 := Mine.News.stays (C := sizeAt F2) N3 hst (fun p hp => by
        rcases List.mem_cons.mp hp with rfl | hp
        · exact hd0
        · exact hnews _ (.tail _ hp))
      obtain ⟨og, nm, qn, eg, cg, dg, sg⟩ := hgen1
      have eg3 := hst _ _ (Nat.succ_ne_self _) (Nat.le_refl _) eg
      refine goTup (o := og) eg3 (.inr cg) ?_
      refine assign2R rfl rfl rfl rfl F4 N4 ⟨_, F4.keep _ _ (hoT _ _ het rfl), rfl, 0, rfl⟩ fun h5 tk5 hk5 F5 N5 => ?_
      generalize hqf : GenPost _ _ _ = qf
      clear F3 N3 F4 N4
      k_steps
      refine Held.mk ?_
      have hd5 := N5 _ (.head _)
      refine call_set_add (knd := PySem.strKind lawProg w) (k := xmlS) (strKind_is _ _ _ _) rfl (hS.setOf hd5.1 (by unfold scanBound; omega)) (by unfold scanBound; omega) fun h6 hsb hS6 => ?_
      obtain ⟨so', ho', hso'⟩ := hS6.objOf
      have F6 := F5.change hsb hd5.2.1 hd5.2.2
      have hD2 : ∀ d ∈ dats ds lists, d ≠ L' ∧ d ≠ _ := fun d hd => by
        obtain ⟨o, ho⟩ : ∃ o, g'.get? d = some o := by
          rcases List.mem_cons.mp hd with rfl | hd
          · obtain ⟨o, e, r⟩ := hf.1; exact ⟨o, hoL _ _ e r.1⟩
          · obtain ⟨p, hp, rfl⟩ := List.mem_map.mp hd
            obtain ⟨o, e, r⟩ := hf.2 p hp; exact ⟨o, hoL _ _ e r.1⟩
        exact ⟨fun q => (by rw [q, kts_self F2] at ho; cases ho), fun q => (by rw [q, hd5.2.2] at ho; cases ho)⟩
      have hag : Agree (sizeAt F2) (dats ds lists) h3 h6 := fun a o ha e => (hsb.2 a (ha.elim (fun hc => ne_low hd0 hc) (fun hd => (hD2 a hd).2))).trans (hk5 a o (ha.elim (fun hc => ne_low F2.ns.lt hc) (fun hd => (hD2 a hd).1)) e)
      have N6 := news_set N5 hsb ho' (by k_all)
      clear hS hS6
      k_steps
      rw [← hqf]
      dsimp only [GenPost]
      exact ⟨h6, _, gs3, _, _, so', rfl, hb3, fun s'' P ag hc => hG3 s'' P (Agree.trans hag ag) hc, ⟨og, nm, qn, hag _ _ (.inl (Nat.le_succ _)) eg3, cg, dg, sg⟩, Mine.Fr.congr F6 (fun y => fmM_next y), N6, .inr ⟨rfl, hso'⟩⟩
    · cases hrem
  · rintro s1 h3 tk3 ⟨h1, tk1, gs1, u1, u2, so, rfl, hb1, hG1, hgen1, F3, N3, hS⟩ hst
    rcases hS with ⟨hrem, _⟩ | ⟨_, hS⟩
    · cases hrem
    dsimp only
    rw [setGen_push]
    have F4 := Mine.Fr.stays F3 hst F2.ns.lt hbase
    have N4 := Mine.News.stays (C := sizeAt F2) N3 hst (fun p hp => by
        rcases List.mem_cons.mp hp with rfl | hp
        · exact hd0
        · exact hnews _ (.tail _ hp))
    clear F3 N3 hG1 hgen1 hb1
    k_steps
    rename Fr g' L' _ _ => F9
    rename News g' L' _ _ => N9
    (rename ∀ b o, g'.get? b = some o → _ < _ => hBB)
    refine hret _ _ _ _ _ (keeps_of hg (fun p hp => (N p hp).1) F9 (fun p hp => N9 p (by simp only [List.mem_cons] at hp ⊢; simp only [hp, true_or, or_true]))) rfl (fun b o e => ?_) (N9 _ (.head _)).1
    rcases in_case hg e with ⟨p, hp, rfl⟩ | e
    · simp only [List.mem_cons, List.not_mem_nil, or_false] at hp
      rcases hp with rfl | rfl
      · refine ltN ?_; dsimp only; omega
      · refine ltN ?_; dsimp only; omega
    · exact hBB b o e
end
section
open PySem PySem.W PyProof.Rows PySem.W.X PySem.Calls
set_option autoImplicit false
set_option pp.deepTerms false
set_option pp.proofs false
set_option maxRecDepth 100000
set_option maxHeartbeats 8000000
abbrev keyParams : Arguments := { posonlyargs := [], args := [{ arg := Str.ofString "n", annotation := none, pos := ⟨139, 78, 139, 79⟩ }], vararg := none, kwonlyargs := [], kw_defaults := [], kwarg := none, defaults := [] }
abbrev keyBody : PySem.Expr := .Call (.Attribute (.Name (Str.ofString "n") ⟨139, 81, 139, 82⟩) (Str.ofString "split") ⟨139, 81, 139, 88⟩) [.Constant (.str (Str.ofString "}")) 0 ⟨139, 89, 139, 92⟩, .Constant (.int 1) 0 ⟨139, 94, 139, 95⟩] [] ⟨139, 81, 139, 96⟩
abbrev keyScope : Scope := { kind := .function, names := [(Str.ofString "n", .local)], isGenerator := false, isCoroutine := false, more := [] }
/-- where the code table lies: ahead of the ledger's rest -/
inductive LamUp (tb : Obj) (cl : List (Addr × Obj)) : List (Addr × Obj) → (Obj → List (Addr × Obj)) → Prop
  | head : LamUp tb cl (((123 : Nat), tb) :: cl) (fun o => [((123 : Nat), o)])
  | tail {p r g} : LamUp tb cl r g → LamUp tb cl (p :: r) (fun o => p :: g o)
theorem LamUp.split {tb : Obj} {cl : List (Addr × Obj)} {l : List (Addr × Obj)} {g : Obj → List (Addr × Obj)} (u : LamUp tb cl l g) : ∃ pre, l = pre ++ ((123 : Nat), tb) :: cl ∧ g = fun o => pre ++ [((123 : Nat), o)] := by
  induction u with
  | head => exact ⟨[], rfl, rfl⟩
  | tail _ ih =>
    obtain ⟨pre, rfl, rfl⟩ := ih
    exact ⟨_ :: pre, rfl, rfl⟩
theorem lam_updG {tb : Obj} {cl : List (Addr × Obj)} : ∀ pre : List (Addr × Obj), UpdG (123 : Nat) tb (pre ++ ((123 : Nat), tb) :: cl) (fun o => pre ++ ((123 : Nat), o) :: cl)
  | [] => .head
  | _ :: pre => .tail (lam_updG pre)
theorem lam_nd {tb o : Obj} {f c₂ : Nat} {cl pre : List (Addr × Obj)} (h : NdA ((pre ++ ((123 : Nat), tb) :: cl).map (·.1))) (hf : ∀ q ∈ pre ++ ((123 : Nat), tb) :: cl, q.1 < f) (hc : c₂ < f) (h2 : c₂ ∈ cl.map (·.1) ∨ ∀ q ∈ pre ++ ((123 : Nat), tb) :: cl, q.1 < c₂) : NdA (f :: c₂ :: (pre ++ [((123 : Nat), o)]).map (·.1)) := by
  have e : (pre ++ ((123 : Nat), tb) :: cl).map (·.1) = (pre ++ [((123 : Nat), o)]).map (·.1) ++ cl.map (·.1) := by simp
  have hm : ∀ x ∈ (pre ++ [((123 : Nat), o)]).map (·.1), ∃ q ∈ pre ++ ((123 : Nat), tb) :: cl, q.1 = x := fun x hx => by
    obtain ⟨q, hq, rfl⟩ := List.mem_map.mp hx
    rcases List.mem_append.mp hq with hq | hq
    · exact ⟨q, List.mem_append_left _ hq, rfl⟩
    · rw [List.mem_singleton.mp hq]
      exact ⟨((123 : Nat), tb), List.mem_append_right _ (.head _), rfl⟩
  rw [e] at h
  have h' := List.nodup_append.mp h
  have hn : c₂ ∉ (pre ++ [((123 : Nat), o)]).map (·.1) := fun hx => by
    rcases h2 with h2 | h2
    · exact h'.2.2 _ hx _ h2 rfl
    · obtain ⟨q, hq, e⟩ := hm _ hx
      exact absurd (h2 q hq) (by rw [e]; exact Nat.lt_irrefl _)
  refine List.nodup_cons.mpr ⟨fun q => ?_, List.nodup_cons.mpr ⟨hn, h'.1⟩⟩
  rcases List.mem_cons.mp q with q | q
  · exact absurd hc (by rw [q]; exact Nat.lt_irrefl _)
  · obtain ⟨q, hq, e⟩ := hm _ q
    exact absurd (hf q hq) (by rw [e]; exact Nat.lt_irrefl _)
/-- the code table: empty, or filled, and then the code lies in the ledger's rest -/
def TabHas (line col : Nat) (q : Str) (tb : Obj) (cl : List (Addr × Obj)) : Prop :=
  (tb = tabObj #[] ∧ cl = []) ∨ ∃ (c' : Nat) (oc' : Obj) (vs : Array Value) (t : Tok), tb = tabObj (#[] ++ #[rawInt line, rawInt col, .ref c']) ∧ cl = [((c' : Addr), oc')] ∧ oc'.data = .fields vs ∧ vs[1]? = some (.str q t)
/-- a lambda is made: the table is empty, or it has the code -/
theorem lam_any {M : Model} {A : Around} {E : Value → Shared → Prop} {s : Shared} {h₀ : Heap} {L a c : Addr} {m mg mb : Str → Option Value} {cn : Str} {cs : Scope} {ccd : Value} {cl : List (Str × Addr)} {news cd : List (Addr × Obj)} {g : Obj → List (Addr × Obj)}
    {p : Program} {loose : List Str} {mean : ExcName → Option Value} {params : Arguments} {body : PySem.Expr} {scope : Scope} {pos : Pos} {clos : List (Str × Addr)} {Q : Value → Shared → Prop} {tb : Obj} {q : Str}
    (F : Fr h₀ L s.heap m) (N : News h₀ L s.heap news) (T : Top p loose mean mg mb h₀) (C : CodeHd h₀ c 123) (hcd : ccd = .ref c) (U : LamUp tb cd news g) (hnd : NdA (news.map (·.1)))
    (hTB : TabHas pos.line pos.col q tb cd)
    (hdef : defaultsOf params (envX cn cs L a ccd cl) = ([], [])) (hcl : closureFor scope (envX cn cs L a ccd cl) = pure clos) (hq : q = (envX cn cs L a ccd cl).qual ++ Str.ofString "<lambda>")
    (h : ∀ (f c₂ : Nat) oc vs t ctv h' tk, Fr h₀ L h' m →
      News h₀ L h' ((f, kla_obj (Str.ofString "<lambda>") ((envX cn cs L a ccd cl).qual ++ Str.ofString "<lambda>") params body scope clos ((mg (Str.ofString "__name__")).getD .none) c₂ ctv) :: (c₂, oc) :: g (tabObj (#[] ++ #[rawInt pos.line, rawInt pos.col, .ref c₂]))) →
      oc.data = .fields vs → vs[1]? = some (.str ((envX cn cs L a ccd cl).qual ++ Str.ofString "<lambda>") t) → NdA (f :: c₂ :: (g tb).map (·.1)) → (cd = [((c₂ : Addr), oc)] ∨ cd = [] ∧ ∀ q ∈ news, q.1 < c₂) → (∀ q ∈ news, q.1 < f) → c₂ < f → Q (.ref f) { s with heap := h', toks := tk }) :
    wpAny M A (eval (.Lambda params body scope pos) (envX cn cs L a ccd cl)) Q E s := by
  subst hq
  obtain ⟨pre, rfl, rfl⟩ := U.split
  refine kla_eval hdef ?_
  rcases hTB with ⟨rfl, rfl⟩ | ⟨c', oc', vs, t, rfl, rfl, hd, hv⟩
  · refine kla_nest F N T C hcd (updG hnd (lam_updG pre)) trivial rfl hcl fun f c₂ oc vs t ctv h' tk F' N' hd hv l1 l2 => ?_
    have lf : ∀ q ∈ pre ++ [((123 : Nat), tabObj #[])], q.1 < f := fun q hq => Nat.lt_trans (l1 q hq) l2
    exact h f c₂ oc vs t ctv h' tk F' N' hd hv (lam_nd hnd lf l2 (.inr l1)) (.inr ⟨rfl, l1⟩) lf l2
  · refine kla_hit (c' := c') F N T C hcd (List.mem_append_right _ (.head _)) (by simp [TriplesOk, rawInt]) (by simp [codeAmong, rawInt]) hcl fun f ctv h' tk F' N' l => ?_
    have lc : c' < f := l (c', oc') (List.mem_append_right _ (.tail _ (.head _)))
    refine h f c' oc' vs t ctv h' tk F' (fun p hp => N' p ?_) hd hv (lam_nd hnd l lc (.inl (.head _))) (.inl rfl) l lc
    rcases List.mem_cons.mp hp with rfl | hp
    · exact .head _
    rcases List.mem_cons.mp hp with rfl | hp
    · exact .tail _ (List.mem_append_right _ (.tail _ (.head _)))
    rcases List.mem_append.mp hp with hp | hp
    · exact .tail _ (List.mem_append_left _ hp)
    · rw [List.mem_singleton.mp hp]
      exact .tail _ (List.mem_append_right _ (.head _))
theorem t_key {w : World} {dp un : Nat} {gd : Option (List Code)} {cn : Str} {cs : Scope} {a : Addr} {ccd : Value} {cl : List (Str × Addr)} {outer : List Env} {A₀ : Around} {base h₀ : Heap} {L : Addr}
    {m mg mb : Str → Option Value} {loose : List Str} {mean : ExcName → Option Value} {s : Shared} {news : List (Addr × Obj)} {f c' : Nat} {qual : Str} {pm ctv : Value} {word : Str} {t : Tok}
    (B : Below A₀ base outer h₀) (F : Fr h₀ L s.heap m) (X : (hd.heap_39 w.params).In h₀) (T : Top topProg loose mean mg mb h₀) (hk : cs.kind = .function)
    (N : News h₀ L s.heap news) (hdp : dp + 20 < recursionLimit) (hmem : (f, kla_obj (Str.ofString "<lambda>") qual keyParams keyBody keyScope [] pm c' ctv) ∈ news) (hcd : s.heap.CodeRec (.ref c') qual)
    (hwl : word.length ≤ 1000) :
    wpAny (model lawProg w) (ktrTop dp un gd cn cs L a ccd cl outer) (call (.ref f) [.str word t]) (KeyEnd h₀ L m news s) (fun _ _ => False) s := by
  refine wpAny_call ?_
  refine kla_code (binds := [(Str.ofString "n", .str word t)]) B F X N T rfl rfl hk hmem hcd (by ktr_room) rfl (locs rfl) ?_ rfl rfl rfl (by decide)
  intro g' L' h' FG' F' N' B' X' T'; (try dsimp only); (try k_lift B'); (try k_fold)
  unfold keyBody keyScope
  k_steps
  rename Fr h₀ L _ _ => kF
  rename News h₀ L _ _ => kN
  exact ⟨_, _, rfl, kF, fun p hp => kN p (.tail _ hp)⟩
end
section
open PySem PySem.W PyProof.Rows PySem.W.X PySem.Calls
set_option autoImplicit false
set_option maxRecDepth 100000
set_option maxHeartbeats 8000000
section
variable {prog : Program} {w : World} {A : Around} {E : Value → Shared → Prop} {s : Shared} {env : Env}
theorem newsCons {h₀ h : Heap} {L : Addr} {big small : List (Addr × Obj)} {p : Addr × Obj} (N : News h₀ L h big) (hp : p ∈ big) (r : News h₀ L h small) : News h₀ L h (p :: small) := fun q hq => by
  rcases List.mem_cons.mp hq with rfl | hq
  · exact N _ hp
  · exact r q hq
theorem newsNil {h₀ h : Heap} {L : Addr} : News h₀ L h [] := fun _ hq => nomatch hq
theorem fresh_of {g h h' : Heap} {L : Addr} {news big : List (Addr × Obj)} {a : Addr} {o : Obj} (hg : ∀ b o, h.get? b = some o → b ∉ news.map (·.1) → g.get? b = some o) (N : News g L h' big) (hm : (a, o) ∈ big) (hne : ∀ p ∈ news, p.1 ≠ a) : h.get? a = none := by
  cases q : h.get? a with
  | none => rfl
  | some o =>
    have := hg a o q (fun hb => by
      obtain ⟨p, hp, e⟩ := List.mem_map.mp hb
      exact hne p hp e)
    rw [(N _ hm).2.2] at this; cases this
/-- a dict comprehension over a list of one thing -/
theorem dictcomp_one {vx iter : PySem.Expr} {n : Str} {p1 p2 : Pos} {scope : Scope} {pos : Pos} {cl : List (Str × Addr)} {D' : Addr} {x : Value} {kw : Str} {u : Value → Sem Unit} {Q : Shared → Prop} {P : Obj → Prop} {G : Array GenState → Prop}
    (hh : A.handled = none) (hl : s.heap.IsList D' #[x]) (hx : (PySem.strKind prog w).is kw x = true)
    (hcell : ∀ y ∈ scope.names, y.2 ≠ .cell) (hkind : scope.kind = .function) (hn : scope.names.lookup n = some .local) (hdb : (n == Str.ofString "__debug__") = false)
    (val : ∀ C m₃ h tk E', h.Ns C m₃ → m₃ n = some x → (∀ b o, s.heap.get? b = some o → h.get? b = some o) → 
      wpAny (model prog w) A (eval vx (compEnvC scope cl C env)) (fun y s₄ => ∃ h' tk' g' r o, y = .ref r ∧ s₄ = { s with heap := h', toks := tk', gens := g' } ∧ Mine.Keeps h h' ∧ (∀ b o, h.get? b = some o → b < r) ∧ h'.get? r = some o ∧ P o ∧ G g') E' { s with heap := h, toks := tk })
    (done : ∀ (Dd C r : Addr) h' tk g' o m', (∀ b o, s.heap.get? b = some o → b < Dd) → (∀ b o, s.heap.get? b = some o → b < C) → Dd < C → C < r → h'.DictOf (PySem.strKind prog w) Dd [(kw, .ref r)] → h'.get? r = some o → P o → G g' → Mine.Keeps s.heap h' → h'.Ns C m' →
      wpAny (model prog w) A (u (.ref Dd)) (fun _ s'' => ∃ m, s''.heap.Ns C m ∧ ∀ h'', Heap.SameBut C s''.heap h'' → Q { s'' with heap := h'' }) E { s with heap := h', toks := tk, gens := g' }) :
    wpAny (model prog w) A (pyIter (.ref D')) (fun it s₂ => wpAny (model prog w) A newDict (fun acc s₃ => wpAny (model prog w) A (newFunctionEnv scope env.globals cl [] env.qual none .none (some env)) (fun cenv s₄ =>
      codeAny (model prog w) A (.compStart (.DictComp (.Name n p1) vx [⟨.Name n p2, iter, [], 0⟩] scope pos) 0 it acc { cenv with scope := relabel scope env }) (compPost (model prog w) A E (some u) (fun _ s' => Q s') acc cenv.locals) s₄) E s₃) E s₂) E s := by
  refine wpAny_pyIter_list hl ?_
  refine wpAny_newObj_type (wpAny_newFunctionEnv hcell (by intro y hy; simp at hy) (fun h₁ hns₁ hsb₁ => ?_) hkind)
  dsimp only at hns₁ hsb₁ ⊢
  have hz0 : ∀ o, (s.heap.push o).objs.size = s.heap.objs.size + 1 := fun o => Heap.size_push ..
  have hz1 : ∀ o o2, ((s.heap.push o).push o2).objs.size = s.heap.objs.size + 2 := fun o o2 => by rw [Heap.size_push, hz0]
  rw [hz1] at hns₁ hsb₁
  rw [hz0, hz1]
  have hlt : ∀ (b : Nat) o, s.heap.get? b = some o → b < s.heap.objs.size := fun b o e => Heap.lt_size e
  have old : ∀ (b : Nat) o, s.heap.get? b = some o → h₁.get? b = some o := fun b o e => hsb₁.extBut b o (show (b : Nat) ≠ s.heap.objs.size + 2 by have := hlt b o e; omega) (Heap.get?_push_of_some _ (Heap.get?_push_of_some _ (Heap.get?_push_of_some _ e)))
  have hit₁ : h₁.IsListIter s.heap.objs.size D' 0 := by
    refine ⟨_, hsb₁.extBut _ _ (show (s.heap.objs.size : Nat) ≠ s.heap.objs.size + 2 by omega) (Heap.get?_push_of_some _ (Heap.get?_push_of_some _ (Heap.get?_push_size _ rfl))), rfl, rfl⟩
  have hacc₁ : h₁.DictOf (PySem.strKind prog w) (s.heap.objs.size + 1) [] := by
    have hnew : ((s.heap.push { cls := .type "list_iterator", data := .fields #[.ref D', .int 0 0] }).push { cls := .type "dict", dict := none, data := .dict #[] }).DictOf (PySem.strKind prog w) (s.heap.push { cls := .type "list_iterator", data := .fields #[.ref D', .int 0 0] }).objs.size [] := Heap.DictOf.new _
    rw [hz0] at hnew
    exact hnew.at fun o e => hsb₁.extBut _ _ (show (s.heap.objs.size + 1 : Nat) ≠ s.heap.objs.size + 2 by omega) (Heap.get?_push_of_some _ e)
  generalize hI : s.heap.objs.size = I at *
  have hCl : (compEnvC scope cl (I + 2) env).kindOf n = some .local := lookup_relabel_local hn
  have hCk : (compEnvC scope cl (I + 2) env).scope.kind = .function := hkind
  have hp : ((compEnvC scope cl (I + 2) env).scope.kind == .class || ((compEnvC scope cl (I + 2) env).scope.kind == .module && (compEnvC scope cl (I + 2) env).locals != (compEnvC scope cl (I + 2) env).globals)) = false := by rw [hCk]; rfl
  have loop : ∀ s₃ : Shared, s₃ = { s with heap := h₁, toks := s.toks + ([] : List (Str × Value)).length } →
      codeAny (model prog w) A (.compLoop (.DictComp (.Name n p1) vx [⟨.Name n p2, iter, [], 0⟩] scope pos) 0 (.ref I) (.ref (I + 1)) (compEnvC scope cl (I + 2) env))
        (compPost (model prog w) A E (some u) (fun _ s' => Q s') (.ref (I + 1)) (I + 2)) s₃ := by
    rintro s₃ rfl
    refine codeAny_compLoop_testsD
      (fun k s' => (k = 1 ∧ s' = { s with heap := h₁, toks := s.toks + ([] : List (Str × Value)).length }) ∨ (k = 0 ∧ ∃ h' tk g' r o m', s' = { s with heap := h', toks := tk, gens := g' } ∧ h'.IsListIter I D' 1 ∧ I + 2 < r ∧ h'.DictOf (PySem.strKind prog w) (I + 1) [(kw, .ref r)] ∧ h'.get? r = some o ∧ P o ∧ G g' ∧ Mine.Keeps s.heap h' ∧ h'.Ns (I + 2) m'))
      ?_ 1 (.inl ⟨rfl, rfl⟩) (by intro _; rfl)
    rintro k s' (⟨rfl, rfl⟩ | ⟨rfl, h', tk, g', r, o, m', rfl, hit, hr, hacc, hro, hP, hG, hk, hns⟩)
    · refine wpAny_pyNext_list_item hit₁ (hl.at fun o e => old _ o e) (x := x) rfl fun h₂ hit₂ hs₂ => ?_
      dsimp only
      refine wpAny_assign_Name (wpAny_storeName_local hCl (hns₁.at' fun o e => (hs₂.2 _ (show (I + 2 : Nat) ≠ I by omega)).trans e) (fun h₃ hn₃ hs₃ => ?_) hp)
      rw [List.forIn_nil]
      refine wpAny_pure ?_
      rw [if_pos rfl]
      refine wpAny_Name (hd := hdb) (wpAny_loadName_local hCk hCl hn₃ (if_pos rfl) ?_)
      have k₃ : ∀ (b : Nat) o, b ≠ I → b ≠ I + 2 → h₁.get? b = some o → h₃.get? b = some o := fun b o n1 n2 e => (hs₃.2 b n2).trans ((hs₂.2 b n1).trans e)
      have old₃ : ∀ (b : Nat) o, s.heap.get? b = some o → h₃.get? b = some o := fun b o e => k₃ b o (by have := hlt b o e; omega) (by have := hlt b o e; omega) (old b o e)
      refine wpAny_mono (val (I + 2) _ h₃ _ _ hn₃ (if_pos rfl) old₃) (fun y s₄ h₄ => ?_) fun _ _ z => z
      obtain ⟨h', tk', g', r, o, rfl, rfl, hk', hr, hro, hP, hG⟩ := h₄
      have hacc₃ : h₃.DictOf (PySem.strKind prog w) (I + 1) [] := hacc₁.at fun o e => k₃ _ o (by omega) (by omega) e
      have hit₃ : h₃.IsListIter I D' 1 := hit₂.at fun o e => (hs₃.2 _ (show (I : Nat) ≠ I + 2 by omega)).trans e
      have hr2 : I + 2 < r := by
        obtain ⟨o2, es, ep, e, _⟩ := hn₃
        exact hr _ _ e
      refine wpAny_dictSet_pairs (hsz := Nat.zero_le _) hx (hacc₃.at fun o e => hk' _ o e) fun h₆ hl₆ hs₆ => ?_
      refine ⟨0, Nat.zero_lt_one, .inr ⟨rfl, h₆, _, g', r, o, _, rfl, hit₃.at fun o e => (hs₆.2 _ (show (I : Nat) ≠ I + 1 by omega)).trans (hk' _ o e), hr2, hl₆, (hs₆.2 _ (neN (by omega))).trans hro, hP, hG, fun b o e => ?_, (hn₃.keeps hk').sameBut hs₆ (show (I + 2 : Nat) ≠ I + 1 by omega)⟩⟩
      exact (hs₆.2 _ (neN (by have := hlt b o e; omega))).trans (hk' _ o (old₃ b o e))
    · refine wpAny_pyNext_list_end hh hit (hl.at fun o e => hk _ o e) rfl fun h₂ hx₂ => ?_
      dsimp only [compPost]
      refine done (I + 1) (I + 2) r h₂ tk g' o m' (fun b o e => Nat.lt_succ_of_lt (hlt b o e)) (fun b o e => Nat.lt_succ_of_lt (Nat.lt_succ_of_lt (hlt b o e))) (Nat.lt_succ_self _) hr (hacc.at fun o e => hx₂ _ o (show (I + 1 : Nat) ≠ I by omega) e) (hx₂ _ _ (neN (by omega)) hro) hP hG
        (fun b o e => hx₂ _ o (neN (by have := hlt b o e; omega)) (hk b o e)) (hns.at' fun o e => hx₂ _ o (show (I + 2 : Nat) ≠ I by omega) e)
  exact codeAny_compStart_dict (loop _ rfl) (wpAny_pyIter_listiter hit₁ (loop _ rfl))
/-- the dict is stored, the comprehension's names are let go -/
theorem dn_step {h₀ h5 : Heap} {L : Addr} {m : Str → Option Value} {news : List (Addr × Obj)} {Dd C r : Addr} {o od2 : Obj} {m' : Str → Option Value} {x : Str} {p : Pos} {Q : Shared → Prop} (F6 : Fr h₀ L h5 m) (N6 : News h₀ L h5 news) (hkp : Mine.Keeps h5 s.heap)
    (lD : ∀ b o, h5.get? b = some o → b < Dd) (lC : ∀ b o, h5.get? b = some o → b < C) (hDC : Dd < C) (hCr : C < r) (hDd : s.heap.get? Dd = some od2) (hro : s.heap.get? r = some o) (hns : s.heap.Ns C m')
    (hx : env.kindOf x = some .local) (hL : env.locals = L) (hp : (env.scope.kind == .class || (env.scope.kind == .module && env.locals != env.globals)) = false)
    (k : ∀ h9 tk, Fr h₀ L h9 (fun q => if q = x then some (.ref Dd) else m q) → News h₀ L h9 ((r, o) :: (Dd, od2) :: news) → (∀ p ∈ news, p.1 < Dd) → Dd < r → Q { s with heap := h9, toks := tk }) :
    wpAny (model prog w) A (assign (.Name x p) env (.ref Dd)) (fun _ s'' => ∃ m, s''.heap.Ns C m ∧ ∀ h'', Heap.SameBut C s''.heap h'' → Q { s'' with heap := h'' }) E s := by
  subst hL
  have F7 := Mine.Fr.kept F6 hkp
  have N7 := Mine.News.kept N6 hkp
  obtain ⟨oL, esL, epL, eL, _⟩ := id F6.ns
  have base : ∀ (b : Addr) (z : Addr), (∀ b o, h5.get? b = some o → b < z) → z ≤ b → b ≠ env.locals ∧ h₀.get? b = none := fun b z hz hb => by
    refine ⟨Nat.ne_of_gt (Nat.lt_of_lt_of_le (hz _ _ eL) hb), ?_⟩
    cases q : h₀.get? b with
    | none => rfl
    | some o => exact absurd (hz _ _ (F6.keep _ _ q)) (Nat.not_lt.mpr hb)
  have bC := base C C lC (Nat.le_refl _)
  have bD := base Dd Dd lD (Nat.le_refl _)
  have br := base r C lC (Nat.le_of_lt hCr)
  refine wpAny_assign_Name (wpAny_storeName_local hx F7.ns (fun h8 hn8 hs8 => ?_) hp)
  refine ⟨_, hns.at' fun o e => (hs8.2 C bC.1).trans e, fun h9 hs9 => ?_⟩
  have F9 := Mine.Fr.but (F7.set hn8 hs8) (fun b o hb e => (hs9.2 b hb).trans e) bC.1 bC.2
  refine k h9 _ F9 (fun q hq => ?_) (fun q hq => lD _ _ (N6 q hq).1) (Nat.lt_trans hDC hCr)
  rcases List.mem_cons.mp hq with rfl | hq
  · exact ⟨(hs9.2 r (Nat.ne_of_gt hCr)).trans ((hs8.2 r br.1).trans hro), br⟩
  rcases List.mem_cons.mp hq with rfl | hq
  · exact ⟨(hs9.2 Dd (Nat.ne_of_lt hDC)).trans ((hs8.2 Dd bD.1).trans hDd), bD⟩
  · have z := N7 q hq
    exact ⟨(hs9.2 _ (Nat.ne_of_lt (lC _ _ (N6 q hq).1))).trans ((hs8.2 _ z.2.1).trans z.1), z.2⟩
end
theorem isList_snoc {h : Heap} {d a : Nat} {l : List (Nat × List Value)} {n : Nat} (e : h.get? d = some (W.listOf ((l.map fun p => Value.ref p.1).toArray.push (.ref a)) n)) : h.IsList d (((l ++ [(a, ([] : List Value))]).map fun p : Nat × List Value => Value.ref p.1).toArray) :=
  ⟨_, e, rfl, n, by simp⟩
theorem flat_snoc {l : List (Nat × List Value)} {p : Nat × List Value} : flat (l ++ [p]) (l ++ [p]).length = p.2 ++ flat l l.length := by
  unfold flat
  rw [List.take_length, List.take_length, List.reverse_append, List.flatMap_append]
  simp
end
section
open PySem PySem.W PyProof.Rows PySem.Calls
set_option autoImplicit false
set_option maxRecDepth 100000
set_option maxHeartbeats 8000000
theorem chk_sig (a b : Value) : (match Manifest.signature? "list.append" with | some sig => Bind.checkArgs "list.append" { sig with full := s!"{Bind.lastOf "list"}.{Bind.lastOf "list.append"}" } ⟨[a, b], []⟩ | none => pure ()) = pure () := by kernel_rfl
theorem bk_append : builtinKind "list.append" = some .method := by decide +kernel
theorem va_append : Manifest.varargsMethods.contains "list.append" = false := by decide +kernel
theorem sub_list_module : isSubtype (.type "list") (.type "module") = pure false := by rw [isSubtype_type]; kernel_rfl
theorem sub_list_type : isSubtype (.type "list") (.type "type") = pure false := by rw [isSubtype_type]; kernel_rfl
theorem chk_append {M : Model} {A : Around} {E : Value → Shared → Prop} {s : Shared} {l : Addr} {x : Value} {Q : Unit → Shared → Prop} {its : Array Value} {n : Nat} (hl : s.heap.get? l = some { cls := .type "list", data := .seq its n }) (h : Q () s) :
    wpAny M A (checkBoundCall "list.append" ⟨[.ref l, x], []⟩) Q E s := by
  have hT : s.TypeIs (.ref l) "list" := ⟨_, hl, rfl⟩
  have e := chk_sig (.ref l) x
  unfold checkBoundCall
  cases hs : Manifest.signature? "list.append" with
  | none => exact wpAny_pure h
  | some sig =>
    rw [hs] at e
    dsimp only at e ⊢
    rw [bk_append]
    dsimp only
    rw [if_neg (by decide)]
    refine wpAny_bind (wpAny_isInstance hT sub_list_module ?_)
    rw [va_append]
    simp only [Bool.false_or, Bool.false_eq_true, if_false]
    refine wpAny_bind ?_
    unfold isType
    refine wpAny_bind (wpAny_load hl ?_)
    refine wpAny_pure ?_
    dsimp only
    rw [if_neg Bool.false_ne_true]
    refine wpAny_bind (wpAny_typeOf hT ?_)
    dsimp only
    exact wpAny_of_eq e h
theorem plain_append : plainId "list.append" = true := by decide +kernel
section
variable {prog : Program} {w : World} {A : Around} {E : Value → Shared → Prop} {s : Shared} {h₀ : Heap} {L : Addr} {m : Str → Option Value} {news news' : List (Addr × Obj)}
theorem call_bm {bm l : Addr} {its : Array Value} {n : Nat} {x : Value} {Q : Value → Shared → Prop} (hb : s.heap.get? bm = some (bmO l)) (hl : s.heap.get? l = some { cls := .type "list", data := .seq its n })
    (h : ∀ h', Heap.SameBut l s.heap h' → h'.get? l = some { cls := .type "list", data := .seq (its.push x) (n + 1) } → Q .none { s with heap := h' })
    (hsz : its.size ≤ sizeLine) : wpAny (model prog w) A (call (.ref bm) [x]) Q E s := by
  obtain ⟨hh, g, d, t, os⟩ := s
  refine wpAny_call (codeAny_of_tree ?_)
  show wpAny _ _ (callAny (.ref bm) ⟨[x], []⟩) _ _ _
  unfold callAny
  refine wpAny_bind (wpAny_load hb ?_)
  show wpAny _ _ (checkBoundCall "list.append" ⟨[.ref l, x], []⟩ >>= _) _ _ _
  refine wpAny_bind (chk_append hl ?_)
  refine wpAny_pure ⟨plainId_quiet plain_append _, codeAny_builtin entry_list_append ?_⟩
  rw [Around.under_plainId plain_append _]
  show wpAny _ A.in1 (updateSeq l (·.push x) >>= fun _ => ret .none) _ _ _
  refine wpAny_bind ?_
  refine wpAny_updateSeq hl rfl (wpAny_pure (h _ (Heap.SameBut.update ..) ?_))
  rw [Heap.get?_update_self _ hl (by rw [mapSeq_push]; rfl), mapSeq_push]
theorem call_bmK {bm D : Addr} {its : Array Value} {n : Nat} {x : Value} {Q : Value → Shared → Prop} (F : Fr h₀ L s.heap m) (N : News h₀ L s.heap news) (hb : (bm, bmO D) ∈ news) (U : Upd D (listOf its n) (listOf (its.push x) (n + 1)) news news')
    (h : ∀ h', Fr h₀ L h' m → News h₀ L h' news' → Q .none { s with heap := h' }) (hsz : its.size ≤ sizeLine) : wpAny (model prog w) A (call (.ref bm) [x]) Q E s := by
  obtain ⟨pre, post, rfl, rfl, a, b⟩ := U.split
  have z := N (D, listOf its n) (List.mem_append.mpr (.inr (.head _)))
  exact call_bm (N _ hb).1 z.1 (fun h' hs ho' => h h' (F.change hs z.2.1 z.2.2) (PySem.W.news_set N a b hs ho')) hsz
def BmP (q l : Addr) (h : Heap) : Prop := h.get? q = some (bmO l)
theorem keeps_bm {M : Model} {q l : Addr} (h : Heap) (X : BmP q l h) : ∃ k, (k = Keeper.frame ∨ k = Keeper.machine ∨ k = Keeper.boundFrame) ∧ Looks M h (keeperOf (.ref q)) k :=
  ⟨.machine, .inr (.inl rfl), (Looks.ld (part := none) X).andThen .now⟩
theorem callWith_bm {M : Model} {q l : Addr} {pos : Pos} {env : Env} {first : List Value} {e : PySem.Expr} {rest : List PySem.Expr} {Q : Value → Shared → Prop} (_N : News h₀ L s.heap news) (_q : (q, bmO l) ∈ news) (h : wpAny M A (spliced (backTo pos (starEach (e :: rest) env))) (fun vs s₁ => BmP q l s₁.heap ∧ wpAny M A (call (.ref q) (first ++ vs)) Q E s₁) E s)
    (he : starEach (e :: rest) env = (false, eval e env) :: starEach rest env := by rfl) (hplain : (backTo pos (starEach rest env)).any (·.1) = false := by rfl) :
    wpAny M A (callWith pos (.ref q) first (backTo pos (starEach (e :: rest) env)) []) Q E s := by
  rw [he] at h ⊢
  exact callWith_of (by show ((false || (backTo pos (starEach rest env)).any (·.1)) || false) = false; rw [hplain]; rfl) keeps_bm (evalArgs_plain h)
theorem bmP {h₀ : Heap} {L : Addr} {h : Heap} {news : List (Addr × Obj)} {q l : Addr} (N : News h₀ L h news) (hq : (q, bmO l) ∈ news) : BmP q l h := (N _ hq).1
theorem popK {D : Addr} {xs : List Value} {y : Value} {n : Nat} {Q : Value → Shared → Prop} (F : Fr h₀ L s.heap m) (N : News h₀ L s.heap news) (U : Upd D (listOf (xs ++ [y]).toArray n) (listOf xs.toArray (n + 1)) news news') (hz : xs.length ≤ 1000)
    (h : ∀ h', Fr h₀ L h' m → News h₀ L h' news' → Q y { s with heap := h' }) : wpAny (model prog w) A (call (.builtin "list.pop") [.ref D]) Q E s :=
  kl_pop F N (by rw [List.toList_toArray]; exact kpa_last y xs) U (by rw [List.toList_toArray, List.length_append, sizeLine_eq]; simp; omega) h
theorem addNew {h h' : Heap} {r : Addr} {o : Obj} (F : Fr h₀ L h m) (N : News h₀ L h news) (hkp : ∀ b o, h.get? b = some o → h'.get? b = some o) (hlt : ∀ b o, h.get? b = some o → b < r) (hro : h'.get? r = some o) : Fr h₀ L h' m ∧ News h₀ L h' ((r, o) :: news) ∧ ∀ p ∈ news, p.1 < r := by
  obtain ⟨oL, esL, epL, eL, _⟩ := id F.ns
  refine ⟨⟨F.ns.keeps hkp, fun b o e => hkp b o (F.keep b o e), F.above⟩, fun q hq => ?_, fun q hq => hlt _ _ (N q hq).1⟩
  rcases List.mem_cons.mp hq with rfl | hq
  · refine ⟨hro, Nat.ne_of_gt (hlt _ _ eL), ?_⟩
    cases q : h₀.get? r with
    | none => rfl
    | some o => exact absurd (hlt _ _ (F.keep _ _ q)) (Nat.lt_irrefl _)
  · exact ⟨hkp _ _ (N q hq).1, (N q hq).2⟩
theorem item_last {value slice : PySem.Expr} {l : Addr} {vs : Array Value} {v : Value} {n : Nat} {u : Tok} {Q : Value → Shared → Prop} (N : News h₀ L s.heap news) (hm : (l, listOf (vs.push v) n) ∈ news) (hsz : vs.size ≤ 1000) (h : Q v s)
    (hs : subscripted slice false (.ref l) (.int (-1) u) = operate [.ref l, .int (-1) u] (getItem (.ref l) (.int (-1) u)) := by with_unfolding_all rfl) :
    wpAny (model prog w) A (subscriptTail value slice (.ref l) (.int (-1) u)) Q E s := by
  have hl : s.heap.IsList l (vs.push v) := ⟨_, (N _ hm).1, rfl, _, rfl⟩
  refine tail_any hl.typeIs slot_list_getitem.lookup (wpAny_getItem_list_neg hl (by decide) (by rw [Array.size_push]; omega) (by decide) ?_ h) hs
  rw [Array.size_push, show ((-1 : Int) + ((vs.size + 1 : Nat) : Int)).toNat = vs.size by omega]
  exact Array.getElem?_push_size
end
end
section
open PySem PySem.W PyProof.Rows PySem.W.X PySem.Calls
set_option autoImplicit false
set_option pp.deepTerms false
set_option pp.proofs false
set_option maxRecDepth 100000
set_option maxHeartbeats 8000000
abbrev lamQual : Str := (envOfC (Str.ofString "C14NWriterTarget._start") { kind := .function, names := [], isGenerator := false, isCoroutine := false } 0 126 (.ref 125)).qual ++ Str.ofString "<lambda>"
abbrev dArr (dlists : List (Nat × List Value)) : Array Value := (dlists.map fun p => Value.ref p.1).toArray
theorem dArr_snoc {l : List (Nat × List Value)} {a : Nat} : dArr (l ++ [(a, [])]) = (l.map (fun p => Value.ref p.1) ++ [Value.ref a]).toArray := by simp [dArr]
theorem isList_snoc2 {h : Heap} {d a : Nat} {l : List (Nat × List Value)} {n : Nat} (e : h.get? d = some (lstO (l.map (fun p => Value.ref p.1) ++ [Value.ref a]).toArray n)) : h.IsList d (((l ++ [(a, ([] : List Value))]).map fun p : Nat × List Value => Value.ref p.1).toArray) :=
  ⟨_, e, rfl, n, by simp⟩
/-- the ledger at start's beginning -/
abbrev startLed (w : World) (k : Nat → Tok) (kz : Tok) (dd ds ns ps pc da bm wr dx pm : Nat) (od : Obj) (dlists : List (Nat × List Value)) (nI pI cI : Array Value) (pv : Value) (rs rd : Bool) (n1 n2 n3 n4 n5 : Nat) (tb : Obj) : List (Addr × Obj) :=
  [(dd, od), (ds, lstO (dArr dlists) n1), (ns, lstO nI n2), (ps, lstO (pI.push pv) n3), (pc, lstO cI n4), (da, lstO #[] n5), (bm, bmO pc), (wr, instObj 150 dx), (dx, wDict w k kz bm da ds ns pm ps rs rd 17), (123, tb)]
/-- what start leaves -/
abbrev startEnd (w : World) (k : Nat → Tok) (kz : Tok) (ds ns ps pc da bm dx pm lD lN c' : Nat) (oc' : Obj) (dlists : List (Nat × List Value)) (nI pI cI : Array Value) (pv : Value) (word : Str) (tA tB : Tok) (rd : Bool) (n1 n2 n3 n4 : Nat) (tb : Obj) : List (Addr × Obj) :=
  [(ds, lstO (dArr (dlists ++ [(lD, [])])) n1), (ns, lstO (nI.push (.ref lN)) n2), (ps, lstO ((pI.push pv).push pv) n3), (pc, lstO ((cI.push (.str (Str.ofString "<" ++ word) tA)).push (.str (Str.ofString ">") tB)) n4), (dx, wDict w k kz bm da ds ns pm ps true rd 17), (123, tb), (c', oc'), (lD, lstO #[] 0), (lN, lstO #[] 0)]
def StartRet (w : World) (L : Addr) (h₀ : Heap) (m : Str → Option Value) (s : Shared) (Q : Value → Shared → Prop) (k : Nat → Tok) (kz : Tok) (ds ns ps pc da bm dx pm : Nat) (dlists : List (Nat × List Value)) (nI pI cI : Array Value) (pv : Value) (word : Str) (rd : Bool) : Prop :=
  ∀ h' tk' gs (lD lN c' : Nat) oc' vs' tq tA tB n1' n2' n3' n4', Fr h₀ L h' m →
      News h₀ L h' (startEnd w k kz ds ns ps pc da bm dx pm lD lN c' oc' dlists nI pI cI pv word tA tB rd n1' n2' n3' n4' (tabObj (#[] ++ #[rawInt 139, rawInt 71, .ref c']))) →
      oc'.data = .fields vs' → vs'[1]? = some (.str lamQual tq) → GenState.bare gs = true → s.heap.get? lD = none → s.heap.get? lN = none → lD ≠ lN → ps < c' → ps < lN →
      (∀ b o, s.heap.get? b = some o → b ∉ [ds, ns, ps, pc, dx, 123] → h'.get? b = some o) → (∀ b o, s.heap.get? b = some o → b ≠ c' ∨ h'.get? b = some o) → Q .none { s with heap := h', toks := tk', gens := s.gens.push gs }
theorem startLed_le {w : World} {k : Nat → Tok} {kz : Tok} {dd ds ns ps pc da bm wr dx pm : Nat} {od : Obj} {dlists : List (Nat × List Value)} {nI pI cI : Array Value} {pv : Value} {rs rd : Bool} {n1 n2 n3 n4 n5 : Nat} {tb : Obj}
    (hnd : 123 < pc ∧ pc < bm ∧ bm < dx ∧ dx < wr ∧ wr < da ∧ da < ds ∧ ds < ns ∧ ns < ps ∧ ps < dd) : ∀ p ∈ startLed w k kz dd ds ns ps pc da bm wr dx pm od dlists nI pI cI pv rs rd n1 n2 n3 n4 n5 tb, p.1 ≤ dd := by
  obtain ⟨h1, h2, h3, h4, h5, h6, h7, h8, h9⟩ := hnd
  intro p hp
  have hx : (p.1 : Nat) ∈ [dd, ds, ns, ps, pc, da, bm, wr, dx, 123] := List.mem_map_of_mem (f := fun p : Addr × Obj => p.1) hp
  have hy := sub_idx (F := [123, pc, bm, dx, wr, da, ds, ns, ps, dd]) 10 [9, 6, 7, 8, 1, 5, 2, 4, 3, 0] rfl (by decide) p.1 hx
  rcases List.mem_append.mp (show (p.1 : Nat) ∈ [123, pc, bm, dx, wr, da, ds, ns, ps] ++ [dd] from hy) with h | h
  · exact Nat.le_of_lt (Asc.le_last (l := [123, pc, bm, dx, wr, da, ds, ns, ps]) (.cons h1 (.cons h2 (.cons h3 (.cons h4 (.cons h5 (.cons h6 (.cons h7 (.cons h8 (.cons h9 (.one _)))))))))) _ h)
  · exact Nat.le_of_eq (List.mem_singleton.mp h)
theorem start_fin {w : World} {h₀ g' h' : Heap} {L L' : Addr} {m m' : Str → Option Value} {s : Shared} {Q : Value → Shared → Prop} {wr dx bm da ds ns pm ps pc dd : Nat} {k : Nat → Tok} {kz : Tok} {rs rd : Bool} {n1 n2 n3 n4 n5 : Nat} {word : Str}
    {nI pI cI : Array Value} {pv : Value} {od tb : Obj} {cd : List (Addr × Obj)} {dlists : List (Nat × List Value)} {gs : GenState} {tk' : Nat} {lN lA r Dd D5 f' c' q' d' D' lD : Nat} {x2 x1 : Addr} {oA orr oDd oD5 of' oc' oq' od' oD' ox2 ox1 : Obj} {tA tB tq : Tok} {vs' : Array Value} {lq : Str}
    (hg : ∀ b o, s.heap.get? b = some o → b ∉ (startLed w k kz dd ds ns ps pc da bm wr dx pm od dlists nI pI cI pv rs rd n1 n2 n3 n4 n5 tb ++ cd).map (·.1) → g'.get? b = some o)
    (N : News h₀ L s.heap (startLed w k kz dd ds ns ps pc da bm wr dx pm od dlists nI pI cI pv rs rd n1 n2 n3 n4 n5 tb ++ cd))
    (hnd : 123 < pc ∧ pc < bm ∧ bm < dx ∧ dx < wr ∧ wr < da ∧ da < ds ∧ ds < ns ∧ ns < ps ∧ ps < dd)
    (hret : StartRet w L h₀ m s Q k kz ds ns ps pc da bm dx pm dlists nI pI cI pv word rd) (hgb : GenState.bare gs = true) (hcd : ∀ p ∈ cd, ps < p.1 ∧ p.1 < dd) (hc : cd = [((c' : Addr), oc')] ∨ cd = [] ∧ dd < c') (l1 : dd < lD) (l3 : lD < lN)
    (hd1 : oc'.data = .fields vs') (hd2 : vs'[1]? = some (.str lq tq)) (hlq : lq = lamQual)
    (FY : Fr g' L' h' m')
    (NY : News g' L' h' [(lN, W.listOf #[] 0), (lA, oA), (r, orr), (Dd, oDd), (D5, oD5), (f', of'), (c', oc'), (q', oq'), (d', od'), (D', oD'), (x2, ox2), (x1, ox1), (lD, W.listOf #[] 0), (dd, od), (ds, W.listOf (dlists.map (fun p => Value.ref p.1) ++ [Value.ref lD]).toArray (n1 + 1)), (ns, W.listOf (nI.push (.ref lN)) (n2 + 1)), (ps, W.listOf ((pI.push pv).push pv) (n3 + 1)), (pc, W.listOf ((cI.push (.str (Str.ofString "<" ++ word) tA)).push (.str (Str.ofString ">") tB)) (n4 + 1 + 1)), (da, lstO #[] n5), (bm, bmO pc), (wr, instObj 150 dx), (dx, wDict w k kz bm da ds ns pm ps true rd 17), (123, tabObj (#[] ++ #[rawInt 139, rawInt 71, .ref c']))])
    (FZ : Fr h₀ L h' m)
    (NZ : News h₀ L h' [(lN, W.listOf #[] 0), (lA, oA), (r, orr), (Dd, oDd), (D5, oD5), (f', of'), (c', oc'), (q', oq'), (d', od'), (D', oD'), (x2, ox2), (x1, ox1), (lD, W.listOf #[] 0), (dd, od), (ds, W.listOf (dlists.map (fun p => Value.ref p.1) ++ [Value.ref lD]).toArray (n1 + 1)), (ns, W.listOf (nI.push (.ref lN)) (n2 + 1)), (ps, W.listOf ((pI.push pv).push pv) (n3 + 1)), (pc, W.listOf ((cI.push (.str (Str.ofString "<" ++ word) tA)).push (.str (Str.ofString ">") tB)) (n4 + 1 + 1)), (da, lstO #[] n5), (bm, bmO pc), (wr, instObj 150 dx), (dx, wDict w k kz bm da ds ns pm ps true rd 17), (123, tabObj (#[] ++ #[rawInt 139, rawInt 71, .ref c']))]) :
    Q .none { s with heap := h', toks := tk', gens := s.gens.push gs } := by
  subst hlq
  have hps : ps < dd := hnd.2.2.2.2.2.2.2.2
  have hle : ∀ p ∈ startLed w k kz dd ds ns ps pc da bm wr dx pm od dlists nI pI cI pv rs rd n1 n2 n3 n4 n5 tb ++ cd, p.1 ≤ dd := fun p hp => (List.mem_append.mp hp).elim (startLed_le hnd p) fun hp => Nat.le_of_lt (hcd p hp).2
  have hnx : ∀ {x : Nat}, dd < x → ∀ p ∈ startLed w k kz dd ds ns ps pc da bm wr dx pm od dlists nI pI cI pv rs rd n1 n2 n3 n4 n5 tb ++ cd, p.1 ≠ x := fun h p hp => Nat.ne_of_lt (Nat.lt_of_le_of_lt (hle p hp) h)
  have hcps : ps < c' := by
    rcases hc with rfl | ⟨_, h⟩
    · exact (hcd _ (.head _)).1
    · exact Nat.lt_trans hps h
  have kp : ∀ b o, s.heap.get? b = some o → b ∉ [ds, ns, ps, pc, dx, 123] → h'.get? b = some o := by
    intro b o e hb
    rcases in_case hg e with ⟨p, hp, rfl⟩ | e2
    · have hq := (N p hp).1
      rw [e] at hq
      cases hq
      rcases List.mem_append.mp hp with hp | hp
      · simp only [startLed, List.mem_cons, List.not_mem_nil, or_false] at hp hb
        rcases hp with rfl | rfl | rfl | rfl | rfl | rfl | rfl | rfl | rfl | rfl
        · exact (NZ (_, _) (by k_mem)).1
        · exact absurd (by simp) hb
        · exact absurd (by simp) hb
        · exact absurd (by simp) hb
        · exact absurd (by simp) hb
        · exact (NZ (_, _) (by k_mem)).1
        · exact (NZ (_, _) (by k_mem)).1
        · exact (NZ (_, _) (by k_mem)).1
        · exact absurd (by simp) hb
        · exact absurd (by simp) hb
      · rcases hc with rfl | ⟨rfl, _⟩
        · rw [List.mem_singleton.mp hp]; exact (NZ (_, _) (by k_mem)).1
        · cases hp
    · exact FY.keep b o e2
  refine hret h' tk' gs lD lN c' oc' vs' tq tA tB _ _ _ _ FZ (newsCons NZ (by rw [dArr_snoc]; k_mem) (newsCons NZ (by k_mem) (newsCons NZ (by k_mem) (newsCons NZ (by k_mem) (newsCons NZ (by k_mem) (newsCons NZ (by k_mem) (newsCons NZ (by k_mem) (newsCons NZ (by k_mem) (newsCons NZ (by k_mem) newsNil))))))))) hd1 hd2 hgb
    (fresh_of hg NY (o := W.listOf #[] 0) (by k_mem) (hnx l1)) (fresh_of hg NY (o := W.listOf #[] 0) (by k_mem) (hnx (Nat.lt_trans l1 l3))) (Nat.ne_of_lt l3) hcps (Nat.lt_trans hps (Nat.lt_trans l1 l3)) kp (fun b o e => ?_)
  rcases hc with rfl | ⟨rfl, h⟩
  · by_cases q : b = c'
    · subst q
      have hq := (N (b, oc') (List.mem_append_right _ (.head _))).1
      rw [e] at hq
      cases hq
      exact .inr (NZ (b, oc') (by k_mem)).1
    · exact .inl q
  · have := fresh_of (a := c') hg NY (o := oc') (by k_mem) (hnx h)
    exact .inl fun q => by rw [← q, e] at this; cases this
theorem comp_used {M : Model} {A : Around} {E : Value → Shared → Prop} {s : Shared} {env : Env} {e : PySem.Expr} {scope : Scope} {pos : Pos} {newAcc first : Sem Value} {g : Comprehension} {gs : List Comprehension} {cl : List (Str × Addr)} {u : Value → Sem Unit}
    {Q : Shared → Prop}
    (hcl : clausesOf e = g :: gs) (hs : ∀ x, foldedSetIterable g.iter env x = pure x) (hclos : closureFor scope env = pure cl)
    (hkind : scope.kind = .function) (hnames : ∀ x ∈ scope.names, x.2 = .local → scope.names.lookup x.1 = some .local)
    (h : wpAny M A first (fun x s₁ => wpAny M A (pyIter x) (fun it s₂ => wpAny M A newAcc (fun acc s₃ =>
      wpAny M A (newFunctionEnv scope env.globals cl [] env.qual none .none (some env)) (fun cenv s₄ =>
        codeAny M A (.compStart e 0 it acc { cenv with scope := relabel scope env }) (compPost M A E (some u) (fun _ s' => Q s') acc cenv.locals) s₄) E s₃) E s₂) E s₁) E s) :
    wpAny M A (comprehension e scope env pos newAcc false first (some u) >>= fun _ => pure PUnit.unit) (fun _ s' => wpAny M A (pure Flow.next) (fun _ s' => Q s') E s') E s :=
  wpAny_bind (wpAny_mono (wpAny_comprehension_free (use := some u) (Q := fun _ s' => Q s') hcl hs hclos hkind hnames h) (fun _ s' hq => wpAny_pure (wpAny_pure hq)) fun _ _ e => e)
end
section
open PySem PySem.W PyProof.Rows PySem.W.X PySem.Calls
set_option pp.deepTerms false
set_option pp.proofs false
set_option maxRecDepth 100000
set_option maxHeartbeats 8000000
end
local macro_rules | `(tactic| walk_at "eval Set") => `(tactic| ((have hG9 : HoldK "set2" := (by with_reducible assumption)); clear hG9; k_here; k_dflt (refine' set_two ?F ?N ?X ?c ?p ?_; (case F => k_asm); (case N => k_asm); (case X => k_asm); (case c => first | k_is | kernel_rfl!); (case p => rfl)); intro D' h' F' N' l1; (try k_lt l1)))
local macro_rules | `(tactic| walk_at "call ref") => `(tactic| (k_here; (with_reducible show wpAny _ _ (call (Value.ref _) [Value.str _ _] []) _ _ _); k_dflt (refine' call_bmK ?F ?N ?b ?U ?_ ?z; (case F => k_asm); (case N => k_asm); (case b => k_mem); (case U => k_upd); (case z => first | size_fits | (rw [sizeLine_eq]; (try simp only [Array.size_push]); omega))); intro h' F' N'; (try k_sweep)))
local macro_rules | `(tactic| walk_at "callWith ref nil nil") => `(tactic| (k_here; k_dflt (refine' callWith_bm ?N ?q ?_; (case N => k_asm); (case q => k_mem))))
local macro_rules | `(tactic| walk_at "And") => `(tactic| ((with_reducible show BmP _ _ _ ∧ _); refine ⟨?bmp, ?_⟩; (case bmp => (refine' bmP ?N ?q; (case N => k_asm); (case q => k_mem))); try dsimp only [List.nil_append, List.cons_append]))
local macro_rules | `(tactic| walk_at "BmP") => `(tactic| (refine' bmP ?N ?q; (case N => k_asm); (case q => k_mem)))
local macro_rules | `(tactic| walk_at "call builtin:list.pop") => `(tactic| ((have hG9 : HoldK "pop" := (by with_reducible assumption)); clear hG9; k_here; k_dflt (refine' popK ?F ?N ?U ?z ?_; (case F => k_asm); (case N => k_asm); (case U => k_upd); (case z => first | omega | (rw [List.length_map]; omega))); intro h' F' N'; (try k_sweep)))
section
open PySem PySem.W PyProof.Rows PySem.W.X PySem.Calls
set_option pp.deepTerms false
set_option pp.proofs false
set_option maxRecDepth 100000
set_option maxHeartbeats 8000000
theorem t_start {w : World} {cn : Str} {cs : Scope} {a : Addr} {ccd : Value} {base h₀ : Heap} {L : Addr}
    {m mg mb : Str → Option Value} {loose : List Str} {mean : ExcName → Option Value} {s : Shared} {Q E : Value → Shared → Prop} {wr dx bm da ds ns pm ps pc dd : Nat} {tb : Obj} {cd : List (Addr × Obj)} {k : Nat → Tok} {kz : Tok} {rs rd : Bool} {n1 n2 n3 n4 n5 : Nat} {word : Str} {t1 : Tok}
    {nI pI cI : Array Value} {pv : Value} {od : Obj} {dlists : List (Nat × List Value)} {xa : Nat} {x1 x2 : Tok}
    (B : Below callerA base [] h₀) (F : Fr h₀ L s.heap m) (X : (hd.heap_39 w.params).In h₀) (T : Top topProg loose mean mg mb h₀) (hk : cs.kind = .function) (HC : CodeHd base 125 123)
    (N : News h₀ L s.heap ([(dd, od), (ds, lstO (dlists.map fun p => Value.ref p.1).toArray n1), (ns, lstO nI n2), (ps, lstO (pI.push pv) n3), (pc, lstO cI n4), (da, lstO #[] n5), (bm, bmO pc), (wr, instObj 150 dx), (dx, wDict w k kz bm da ds ns pm ps rs rd 17), (123, tb)] ++ cd))
    (hnd : 123 < pc ∧ pc < bm ∧ bm < dx ∧ dx < wr ∧ wr < da ∧ da < ds ∧ ds < ns ∧ ns < ps ∧ ps < dd) (hNd0 : NdA (([dd, ds, ns, ps, pc, da, bm, wr, dx, 123] : List Nat) ++ cd.map (·.1))) (hcd : ∀ p ∈ cd, ps < p.1 ∧ p.1 < dd) (hTB : TabHas 139 71 lamQual tb cd) (hs1 : dlists.length ≤ 1000) (hs2 : nI.size ≤ 1000) (hs3 : pI.size ≤ 1000) (hs4 : cI.size ≤ 1000)
    (hod : od.IsDictOf (strKind lawProg w) []) (hod2 : od.IsDictOf (intKind lawProg w) []) (lo : (dd == sysModules) = false)
    (hdl : ∀ p ∈ dlists, s.heap.IsList p.1 p.2.toArray) (hdo : ∀ p ∈ dlists, p.1 ∉ ([dd, ds, ns, ps, pc, da, bm, wr, dx, 123] : List Nat) ++ cd.map (·.1)) (hdz : ∀ p ∈ dlists, p.2.length < 2 ^ 62) (hdf : flat dlists dlists.length = [.ref xa])
    (hxa : s.heap.get? xa = some (tupO [vstr "http://www.w3.org/XML/1998/namespace" x1, vstr "xml" x2])) (hxo : xa ∉ ([dd, ds, ns, ps, pc, da, bm, wr, dx, 123] : List Nat) ++ cd.map (·.1))
    (hwl : word.length ≤ 1000) (hwo : PyData.strOk word = true) (hwb : (Txt.slice word none (some 1) == Str.ofString "{") = false)
    (hret : StartRet w L h₀ m s Q k kz ds ns ps pc da bm dx pm dlists nI pI cI pv word rd) :
    wpAny (model lawProg w) (callerA.deeper (envOf cn cs L a ccd)) (call (.ref 120) [.ref wr, .str word t1, .ref dd]) Q E s := by
  have hk0 : HoldK "exec For Tuple Name cons nil" := .on _
  have hk1 : HoldK "exec For Tuple Call cons nil" := .on _
  have hk2 : HoldK "set2" := .on _
  have hk3 : HoldK "setAdd str" := .on _
  have hk4 : HoldK "exec Assign cons DictComp" := .on _
  have hk5 : HoldK "call builtin:sorted" := .on _
  have hk6 : HoldK "subscriptTail Attribute Name UnaryOp ref int" := .on _
  have hk7 : HoldK "call builtin:dict.get" := .on _
  have hk8 : HoldK "app" := .on _
  have hk10 : HoldK "eval Lambda" := .on _
  have hk9 : HoldK "subscriptTail Name Name ref str" := .on _
  dsimp only [List.cons_append, List.nil_append] at N hNd0 hdo hxo
  refine wpAny_call ?_
  ktr_enter
  intro g' L' h' hg FG' F' N' B' X' T'; (try dsimp only); (try k_fold)
  k_steps
  refine Held.mk ?_
  rename Fr _ _ _ _ => F3
  rename News _ _ _ _ => N3
  refine setAddK F3 N3 (by k_all) (strKind_is _ _ _ _) rfl fun h' o F' N' hone => ?_
  clear F3 N3
  k_steps
  rename Fr _ _ _ _ => F3
  rename News _ _ _ _ => N3
  refine starK rfl F3 N3 (.head _) hone (by k_mem) hod lo fun h' F' N' => ?_
  clear F3 N3
  k_steps
  refine Held.mk ?_
  rw [exec_Assign_Name_used _ _ _ _ (by with_unfolding_all rfl)]
  refine wpAny_bind (wpAny_standAt (wpAny_bind ?_))
  refine comp_used (by rfl) (by intro _; with_unfolding_all rfl) (by with_unfolding_all rfl) (by rfl) (by decide) ?_
  show wpAny _ _ (eval _ _) _ _ _
  k_steps
  refine Held.mk ?_
  rename Fr _ _ _ _ => F4
  rename News _ _ _ _ => N4
  rename Top _ _ _ _ _ _ => T4
  rename NdA _ => hNd4
  refine' lam_any F4 N4 T4 (HC.keeps (Below.stays (by assumption))) rfl ?lamU hNd4 hTB rfl rfl rfl ?_
  case lamU => exact .tail (.tail (.tail (.tail (.tail (.tail (.tail (.tail (.tail (.tail (.tail (.tail (.tail (.tail (.tail .head))))))))))))))
  intro f' c₂ oc₂ vs₂ tq₂ ctv₂ h' tk F' N' hd1 hd2 hNd hc₂ lf lf2
  dsimp only [List.map] at hNd
  dsimp only at N'
  replace lf := allLt_of lf
  simp only [AllLt, and_true] at lf
  replace hc₂ := hc₂.imp id (fun h => And.intro h.1 (h.2 (dd, od) (by k_mem)))
  clear F4 N4 hNd4
  k_steps
  refine Held.mk ?_
  rename Fr _ _ _ _ => F5
  rename News _ _ _ _ => N5
  rename Below _ _ _ _ => B5
  rename (hd.heap_39 w.params).In _ => X5
  rename Top _ _ _ _ _ _ => T5
  show wpAny _ _ (call (.builtin "sorted") [.ref _] [(Str.ofString "key", .ref _)]) _ _ _
  refine sorted_one rfl F5 N5 (by k_mem) hone (ksk_s1 _ _) (fun _ => ksk_l1 _ _) ?turn ?done
  case turn =>
    intro x h tk own hx FH NH
    obtain ⟨t, rfl⟩ := Value.isStrOf_shape (show Value.isStrOf word x = true from hx)
    refine t_key B5 FH X5 T5 rfl NH (by ktr_room) (by k_mem) (codeRec_news NH (by k_mem) hd1 hd2) hwl
  case done =>
    intro D5 x c5 h5 tk5 hx F6 N6 l6
    obtain ⟨t, rfl⟩ := Value.isStrOf_shape (show Value.isStrOf word x = true from hx)
    rename _ = Data.cell (some (Value.ref _)) => dcell
    have HK : ∀ b o, s.heap.get? b = some o → b ∉ ([dd, ds, ns, ps, pc, da, bm, wr, dx, 123] : List Nat) ++ cd.map (·.1) → h5.get? b = some o := fun b o e hb => F6.keep b o ((by assumption : Fr g' L' _ _).keep b o (hg b o e hb))
    refine dictcomp_one (P := fun o => ∃ te, o = tupO [.str word t, .str word t, .str (Str.ofString "") te]) (G := fun g => ∃ gs, g = s.gens.push gs ∧ GenState.bare gs = true) rfl ⟨_, (N6 _ (.head _)).1, rfl, _, rfl⟩ hx (by decide) rfl rfl (by decide +kernel) ?val ?dn
    case val =>
      intro C m₃ h tk E' hns hm hk6
      have F7 := Mine.Fr.kept F6 hk6
      have N7 := Mine.News.kept N6 hk6
      dsimp only
      refine Call_ ?_
      refine' wpAny_Name (wpAny_loadName_cell rfl rfl rfl ⟨_, (N7 (_, _) ?cel).1, dcell⟩ ?_)
      case cel => k_mem
      refine callWith_M X5 N7 (by k_mem) (by k_is) ?_
      refine args_cons (wpAny_Name (wpAny_loadName_local rfl rfl hns hm (args_nil ⟨methP N7 (by k_mem) (X5.keeps F7.keep), ?_⟩)))
      refine call_meth N7 (by k_mem) ?_
      have HK7 : ∀ b o, s.heap.get? b = some o → b ∉ ([dd, ds, ns, ps, pc, da, bm, wr, dx, 123] : List Nat) ++ cd.map (·.1) → h.get? b = some o := fun b o e hb => hk6 b o (HK b o e hb)
      refine t_qname (wr := wr) (dx := dx) (k := k) (kz := kz) (bm := bm) (da := da) (ds := ds) (ns := ns) (pm := pm) (ps := ps) (rs := rs) (rd := rd) (nd := 17) (lists := dlists ++ [(_, [])]) B5 F7 X5 T5 rfl (fun p hp => N7 p ?mem) (by ktr_room) ⟨isList_snoc (N7 (ds, _) (by k_mem)).1, ?fl⟩ ?fz ?ff (HK7 _ _ hxa hxo) hwl hwb (fun r te h' tk' gs hkp hb hlt hro => ⟨h', tk', _, r, _, rfl, rfl, hkp, hlt, hro, ⟨te, rfl⟩, gs, rfl, hb⟩)
      case mem => simp only [List.mem_cons, List.not_mem_nil, or_false] at hp; rcases hp with rfl | rfl <;> k_mem
      case fl =>
        intro p hp
        rcases List.mem_append.mp hp with hp | hp
        · obtain ⟨o, e, r⟩ := hdl p hp
          exact ⟨o, HK7 _ _ e (hdo p hp), r⟩
        · rw [List.mem_singleton.mp hp]
          exact ⟨_, (N7 (_, _) (by k_mem)).1, rfl, _, rfl⟩
      case fz =>
        intro p hp
        rcases List.mem_append.mp hp with hp | hp
        · exact hdz p hp
        · rw [List.mem_singleton.mp hp]; exact Nat.two_pow_pos 62
      case ff => rw [flat_snoc]; exact hdf
    case dn =>
      intro Dd C r h' tk g9 o m' lD lC hDC hCr hdict hro hP hG hkp hns
      dsimp only
      obtain ⟨te, rfl⟩ := hP
      obtain ⟨gs, rfl, hgb⟩ := hG
      obtain ⟨od2, hod2, hdo2⟩ := Heap.dictOf_iff.mp hdict
      show wpAny _ _ (assign (Expr.Name _ _) _ _) _ _ _
      refine dn_step F6 N6 hkp lD lC hDC hCr hod2 hro hns rfl rfl rfl fun h9 tk9 F9 N9 l9 l10 => ?_
      dsimp only
      k_lt l6
      k_lt l9
      k_lt2 l10
      clear F6 N6 hkp lD lC hDC hCr hod2 hro hns hdict F5 N5 HK
      k_steps
      refine Held.mk ?_
      rename News _ _ _ _ => N10
      refine kdg_get1 (knd := PySem.strKind lawProg w) N10 (by k_mem) hod lo (strKind_is _ _ _ _) none rfl ?_
      dsimp only [Option.getD]
      k_steps
      refine Held.mk ?_
      rename News _ _ _ _ => N11
      refine item_last N11 (by k_mem) hs3 ?_
      k_steps
      refine Held.mk ?_
      rename News _ _ _ _ => N12
      refine kda_item (knd := PySem.strKind lawProg w) (v := .ref r) N12 (by k_mem) hdo2 (strKind_is _ _ _ _) (by simp [valueAt]) ?_
      k_steps
      rename Fr h₀ L _ m => FZ
      rename News h₀ L _ _ => NZ
      rename Fr g' L' _ _ => FY
      rename News g' L' _ _ => NY
      refine' start_fin hg N hnd hret hgb hcd hc₂ ?l1 ?l3 hd1 hd2 rfl FY NY FZ NZ
      case l1 => exact ltN (by omega)
      case l3 => exact ltN (by omega)
end
section
open PySem PySem.W PyProof.Rows PySem.W.X PySem.Calls
set_option autoImplicit false
set_option pp.deepTerms false
set_option pp.proofs false
set_option maxRecDepth 100000
set_option maxHeartbeats 8000000
theorem end_len {u : Str} (h : u.length ≤ 1000) : (Str.empty ++ Str.ofString "</" ++ u ++ Str.ofString ">").length ≤ sizeLine := by
  have e1 : (Str.ofString "</").length = 2 := by decide +kernel
  have e2 : (Str.ofString ">").length = 1 := by decide +kernel
  have e5 : Str.empty.length = 0 := by decide +kernel
  simp only [PySem.Str.length_append, e1, e2, e5, sizeLine]
  omega
def EndRet (w : World) (L : Addr) (h₀ : Heap) (m : Str → Option Value) (s : Shared) (Q : Value → Shared → Prop) (k : Nat → Tok) (kz : Tok) (ds ns ps pc da bm dx pm : Nat) (dlists : List (Nat × List Value)) (nL pL : List Value) (cI : Array Value) (word : Str) (rs : Bool) : Prop :=
  ∀ h' tk' gs rd' n1' n2' n3' n4' tA, Fr h₀ L h' m →
      News h₀ L h' [(ds, lstO (dArr dlists) n1'), (ns, lstO nL.toArray n2'), (ps, lstO pL.toArray n3'), (pc, lstO (cI.push (.str (Str.empty ++ Str.ofString "</" ++ word ++ Str.ofString ">") tA)) n4'), (dx, wDict w k kz bm da ds ns pm ps rs rd' 17)] → GenState.bare gs = true →
      (∀ b o, s.heap.get? b = some o → b ∉ [ds, ns, ps, pc, dx] → h'.get? b = some o) → Q .none { s with heap := h', toks := tk', gens := s.gens.push gs }
theorem end_fin {w : World} {h₀ g' h' : Heap} {L L' : Addr} {m m' : Str → Option Value} {s : Shared} {Q : Value → Shared → Prop} {wr dx bm da ds ns pm ps pc lD r : Nat} {k : Nat → Tok} {kz : Tok} {rs rd rd' : Bool} {n1 n2 n3 n4 n5 : Nat} {word : Str}
    {nL pL : List Value} {cI : Array Value} {pv vN : Value} {dlists : List (Nat × List Value)} {orr : Obj} {tA : Tok} {gs : GenState} {tk' : Nat}
    (hg : ∀ b o, s.heap.get? b = some o → b ∉ [(ds, lstO (dlists.map (fun p => Value.ref p.1) ++ [Value.ref lD]).toArray n1), (ns, lstO (nL ++ [vN]).toArray n2), (ps, lstO (pL ++ [pv]).toArray n3), (pc, lstO cI n4), (da, lstO #[] n5), (bm, bmO pc), (wr, instObj 150 dx), (dx, wDict w k kz bm da ds ns pm ps rs rd 17)].map (·.1) → g'.get? b = some o)
    (N : News h₀ L s.heap [(ds, lstO (dlists.map (fun p => Value.ref p.1) ++ [Value.ref lD]).toArray n1), (ns, lstO (nL ++ [vN]).toArray n2), (ps, lstO (pL ++ [pv]).toArray n3), (pc, lstO cI n4), (da, lstO #[] n5), (bm, bmO pc), (wr, instObj 150 dx), (dx, wDict w k kz bm da ds ns pm ps rs rd 17)])
    (hret : EndRet w L h₀ m s Q k kz ds ns ps pc da bm dx pm dlists nL pL cI word rs) (hgb : GenState.bare gs = true) (FY : Fr g' L' h' m') (FZ : Fr h₀ L h' m)
    (NZ : News h₀ L h' [(r, orr), (ds, W.listOf (dlists.map (fun p => Value.ref p.1)).toArray (n1 + 1)), (ns, W.listOf nL.toArray (n2 + 1)), (ps, W.listOf pL.toArray (n3 + 1)), (pc, W.listOf (cI.push (.str (Str.empty ++ Str.ofString "</" ++ word ++ Str.ofString ">") tA)) (n4 + 1)), (da, lstO #[] n5), (bm, bmO pc), (wr, instObj 150 dx), (dx, wDict w k kz bm da ds ns pm ps rs rd' 17)]) :
    Q .none { s with heap := h', toks := tk', gens := s.gens.push gs } := by
  refine hret h' tk' gs rd' _ _ _ _ tA FZ (newsCons NZ (by k_mem) (newsCons NZ (by k_mem) (newsCons NZ (by k_mem) (newsCons NZ (by k_mem) (newsCons NZ (by k_mem) newsNil))))) hgb ?_
  intro b o e hb
  rcases in_case hg e with ⟨p, hp, rfl⟩ | e2
  · have hq := (N p hp).1
    rw [e] at hq
    cases hq
    simp only [List.mem_cons, List.not_mem_nil, or_false] at hp hb
    rcases hp with rfl | rfl | rfl | rfl | rfl | rfl | rfl | rfl
    · exact absurd (by simp) hb
    · exact absurd (by simp) hb
    · exact absurd (by simp) hb
    · exact absurd (by simp) hb
    · exact (NZ (_, _) (by k_mem)).1
    · exact (NZ (_, _) (by k_mem)).1
    · exact (NZ (_, _) (by k_mem)).1
    · exact absurd (by simp) hb
  · exact FY.keep b o e2
theorem t_end {w : World} {cn : Str} {cs : Scope} {a : Addr} {ccd : Value} {base h₀ : Heap} {L : Addr}
    {m mg mb : Str → Option Value} {loose : List Str} {mean : ExcName → Option Value} {s : Shared} {Q E : Value → Shared → Prop} {wr dx bm da ds ns pm ps pc lD : Nat} {k : Nat → Tok} {kz : Tok} {rs rd : Bool} {n1 n2 n3 n4 n5 : Nat} {word : Str} {t1 : Tok}
    {nL pL : List Value} {cI : Array Value} {pv vN : Value} {dlists : List (Nat × List Value)} {xa : Nat} {x1 x2 : Tok}
    (B : Below callerA base [] h₀) (F : Fr h₀ L s.heap m) (X : (hd.heap_39 w.params).In h₀) (T : Top topProg loose mean mg mb h₀) (hk : cs.kind = .function)
    (N : News h₀ L s.heap [(ds, lstO (dlists.map (fun p => Value.ref p.1) ++ [Value.ref lD]).toArray n1), (ns, lstO (nL ++ [vN]).toArray n2), (ps, lstO (pL ++ [pv]).toArray n3), (pc, lstO cI n4), (da, lstO #[] n5), (bm, bmO pc), (wr, instObj 150 dx), (dx, wDict w k kz bm da ds ns pm ps rs rd 17)])
    (hnd : 123 < pc ∧ pc < bm ∧ bm < dx ∧ dx < wr ∧ wr < da ∧ da < ds ∧ ds < ns ∧ ns < ps) (hs1 : dlists.length ≤ 1000) (hs2 : nL.length ≤ 1000) (hs3 : pL.length ≤ 1000) (hs4 : cI.size ≤ 1000)
    (hdl : ∀ p ∈ dlists, s.heap.IsList p.1 p.2.toArray) (hlD : s.heap.IsList lD #[]) (hdz : ∀ p ∈ dlists, p.2.length < 2 ^ 62) (hdf : flat dlists dlists.length = [.ref xa])
    (hxa : s.heap.get? xa = some (tupO [vstr "http://www.w3.org/XML/1998/namespace" x1, vstr "xml" x2]))
    (hwl : word.length ≤ 1000) (hwb : (Txt.slice word none (some 1) == Str.ofString "{") = false)
    (hret : EndRet w L h₀ m s Q k kz ds ns ps pc da bm dx pm dlists nL pL cI word rs) :
    wpAny (model lawProg w) (callerA.deeper (envOf cn cs L a ccd)) (call (.ref 133) [.ref wr, .str word t1]) Q E s := by
  have hk0 : HoldK "exec For Tuple Name cons nil" := .on _
  have hk1 : HoldK "exec For Tuple Call cons nil" := .on _
  have hk2 : HoldK "jp" := .on _
  have hk3 : HoldK "pop" := .on _
  have hk4 : HoldK "call builtin:len" := .on _
  have hr90 : HoldR 90 := .on _
  refine wpAny_call ?_
  ktr_enter
  intro g' L' h' hg FG' F' N' B' X' T'; (try dsimp only); (try k_fold)
  have hNd0 := nd8 hnd
  k_steps
  refine Held.mk ?_
  rename Fr g' L' _ _ => F3
  rename News g' L' _ _ => N3
  have HK := keeps_of hg (fun p hp => (N p hp).1) F3 N3
  refine wpAny_call ?_
  refine t_qname (wr := wr) (dx := dx) (k := k) (kz := kz) (bm := bm) (da := da) (ds := ds) (ns := ns) (pm := pm) (ps := ps) (rs := rs) (rd := rd) (nd := 17) (lists := dlists ++ [(lD, [])]) B' F3 X' T' rfl (fun p hp => N3 p ?mem) (by ktr_room) ⟨isList_snoc2 (N3 (ds, _) (by k_mem)).1, ?fl⟩ ?fz ?ff (HK _ _ hxa) hwl hwb (fun r te h2 tk2 gs hkp hgb hlt hro => ?rest)
  case mem => simp only [List.mem_cons, List.not_mem_nil, or_false] at hp; rcases hp with rfl | rfl <;> k_mem
  case fl =>
    intro p hp
    rcases List.mem_append.mp hp with hp | hp
    · obtain ⟨o, e, r⟩ := hdl p hp
      exact ⟨o, HK _ _ e, r⟩
    · rw [List.mem_singleton.mp hp]
      obtain ⟨o, e, r⟩ := hlD
      exact ⟨o, HK _ _ e, r⟩
  case fz =>
    intro p hp
    rcases List.mem_append.mp hp with hp | hp
    · exact hdz p hp
    · rw [List.mem_singleton.mp hp]; exact Nat.two_pow_pos 62
  case ff => rw [flat_snoc]; exact hdf
  case rest =>
    obtain ⟨F4, N4, l4⟩ := addNew F3 N3 hkp hlt hro
    k_lt l4
    dsimp only
    clear F3 N3 HK hkp hlt hro
    k_steps
    refine Held.mk ?_
    with_reducible refine joinParts_nilE ?_
    with_reducible refine joinParts_nil ?_ (end_len hwl)
    k_steps
    refine Held.mk ?_
    rename News g' L' _ _ => N5
    refine PySem.Calls.call_len_list (items := pL.toArray) ⟨_, (N5 (ps, _) (by k_mem)).1, rfl, _, rfl⟩ (by rw [List.size_toArray]; omega) ?_
    rw [List.size_toArray]
    k_steps
    rename Fr h₀ L _ m => FZ
    rename News h₀ L _ _ => NZ
    rename Fr g' L' _ _ => FY
    exact end_fin hg N hret hgb FY FZ NZ
end
section
open PySem PySem.W PyProof.Rows PySem.W.X PySem.Calls
set_option autoImplicit false
set_option pp.deepTerms false
set_option pp.proofs false
set_option maxRecDepth 100000
set_option maxHeartbeats 8000000
def NsRet (L : Addr) (h₀ : Heap) (m : Str → Option Value) (s : Shared) (Q : Value → Shared → Prop) (lN : Nat) (eI : Array Value) (pre uri : Str) (t1 t2 : Tok) : Prop :=
  ∀ h' tk' (t : Nat) n9', Fr h₀ L h' m → News h₀ L h' [(lN, lstO (eI.push (.ref t)) n9'), (t, tupO [.str uri t2, .str pre t1])] → s.heap.get? t = none →
      (∀ b o, s.heap.get? b = some o → b ≠ lN → h'.get? b = some o) → Q .none { s with heap := h', toks := tk' }
theorem ns_fin {w : World} {h₀ g' h' : Heap} {L L' : Addr} {m m' : Str → Option Value} {s : Shared} {Q : Value → Shared → Prop} {wr dx bm da ds ns pm ps lN t : Nat} {k : Nat → Tok} {kz : Tok} {rs rd : Bool} {n2 n5 n9 : Nat} {pre uri : Str}
    {nI eI : Array Value} {t1 t2 : Tok} {tk' : Nat}
    (hg : ∀ b o, s.heap.get? b = some o → b ∉ [(lN, lstO eI n9), (ns, lstO (nI.push (.ref lN)) n2), (da, lstO #[] n5), (wr, instObj 150 dx), (dx, wDict w k kz bm da ds ns pm ps rs rd 17)].map (·.1) → g'.get? b = some o)
    (N : News h₀ L s.heap [(lN, lstO eI n9), (ns, lstO (nI.push (.ref lN)) n2), (da, lstO #[] n5), (wr, instObj 150 dx), (dx, wDict w k kz bm da ds ns pm ps rs rd 17)])
    (hret : NsRet L h₀ m s Q lN eI pre uri t1 t2) (l1 : lN < t ∧ ns < t ∧ da < t ∧ wr < t ∧ dx < t) (FY : Fr g' L' h' m') 
    (NY : News g' L' h' [(t, tupO [.str uri t2, .str pre t1]), (lN, W.listOf (eI.push (.ref t)) (n9 + 1)), (ns, lstO (nI.push (.ref lN)) n2), (da, lstO #[] n5), (wr, instObj 150 dx), (dx, wDict w k kz bm da ds ns pm ps rs rd 17)])
    (FZ : Fr h₀ L h' m)
    (NZ : News h₀ L h' [(t, tupO [.str uri t2, .str pre t1]), (lN, W.listOf (eI.push (.ref t)) (n9 + 1)), (ns, lstO (nI.push (.ref lN)) n2), (da, lstO #[] n5), (wr, instObj 150 dx), (dx, wDict w k kz bm da ds ns pm ps rs rd 17)]) :
    Q .none { s with heap := h', toks := tk' } := by
  refine hret h' tk' t _ FZ (newsCons NZ (by k_mem) (newsCons NZ (by k_mem) newsNil)) (fresh_of hg NY (o := tupO [.str uri t2, .str pre t1]) (by k_mem) (by k_all)) ?_
  intro b o e hb
  rcases in_case hg e with ⟨p, hp, rfl⟩ | e2
  · have hq := (N p hp).1
    rw [e] at hq
    cases hq
    simp only [List.mem_cons, List.not_mem_nil, or_false] at hp
    rcases hp with rfl | rfl | rfl | rfl | rfl
    · exact absurd rfl hb
    · exact (NZ (_, _) (by k_mem)).1
    · exact (NZ (_, _) (by k_mem)).1
    · exact (NZ (_, _) (by k_mem)).1
    · exact (NZ (_, _) (by k_mem)).1
  · exact FY.keep b o e2
theorem t_startns {w : World} {cn : Str} {cs : Scope} {a : Addr} {ccd : Value} {base h₀ : Heap} {L : Addr}
    {m mg mb : Str → Option Value} {loose : List Str} {mean : ExcName → Option Value} {s : Shared} {Q E : Value → Shared → Prop} {wr dx bm da ds ns pm ps lN : Nat} {k : Nat → Tok} {kz : Tok} {rs rd : Bool} {n2 n5 n9 : Nat} {pre uri : Str} {t1 t2 : Tok}
    {nI eI : Array Value}
    (B : Below callerA base [] h₀) (F : Fr h₀ L s.heap m) (X : (hd.heap_39 w.params).In h₀) (T : Top topProg loose mean mg mb h₀) (hk : cs.kind = .function)
    (N : News h₀ L s.heap [(lN, lstO eI n9), (ns, lstO (nI.push (.ref lN)) n2), (da, lstO #[] n5), (wr, instObj 150 dx), (dx, wDict w k kz bm da ds ns pm ps rs rd 17)])
    (hnd : dx < wr ∧ wr < da ∧ da < ns ∧ ns < lN) (hs2 : nI.size ≤ 1000) (hs3 : eI.size ≤ 1000)
    (hret : NsRet L h₀ m s Q lN eI pre uri t1 t2) :
    wpAny (model lawProg w) (callerA.deeper (envOf cn cs L a ccd)) (call (.ref 113) [.ref wr, .str pre t1, .str uri t2]) Q E s := by
  have hk0 : HoldK "exec For Tuple Name cons nil" := .on _
  have hk1 : HoldK "exec For Tuple Call cons nil" := .on _
  have hk2 : HoldK "subscriptTail Attribute Name UnaryOp ref int" := .on _
  have hk3 : HoldK "app" := .on _
  refine wpAny_call ?_
  ktr_enter
  intro g' L' h' hg FG' F' N' B' X' T'; (try dsimp only); (try k_fold)
  have hNd0 := nd5 hnd
  k_steps
  refine Held.mk ?_
  rename News g' L' _ _ => N3
  refine item_last N3 (by k_mem) hs2 ?_
  k_steps
  rename Fr h₀ L _ m => FZ
  rename News h₀ L _ _ => NZ
  rename Fr g' L' _ _ => FY
  rename News g' L' _ _ => NY
  refine' ns_fin hg N hret ?l1 FY NY FZ NZ
  case l1 => refine ⟨ltN ?_, ltN ?_, ltN ?_, ltN ?_, ltN ?_⟩ <;> omega
end
section
open PySem PySem.W PyProof.Rows PySem.W.X PySem.Calls
set_option autoImplicit false
set_option maxRecDepth 100000
set_option maxHeartbeats 8000000
/-- what a turn's end must show, where the ledger may grow -/
def TurnEnd2 (base : Heap) (L it : Addr) (oit : Obj) (J : Nat → (Str → Option Value) → List (Addr × Obj) → Array GenState → Prop) (i : Nat) (d : Drawn) (os : OsState) (s₃ : Shared) : Prop :=
  ∃ m' news', Fr base L s₃.heap m' ∧ News base L s₃.heap ((it, oit) :: news') ∧ (∀ q ∈ news', q.1 ≠ it) ∧ J i m' news' s₃.gens ∧ s₃.drawn = d ∧ s₃.os = os
def TurnPost2 (base : Heap) (L it : Addr) (oit : Obj) (J : Nat → (Str → Option Value) → List (Addr × Obj) → Array GenState → Prop) (i : Nat) (d : Drawn) (os : OsState) (Rr : Result → Shared → Prop) (f : Flow) (s₃ : Shared) : Prop :=
  match f with
  | .next | .cont => TurnEnd2 base L it oit J i d os s₃
  | .brk => Rr (.ok .next) s₃
  | .ret v => Rr (.ok (.ret v)) s₃
section
variable {w : World} {A : Around} {E : Value → Shared → Prop} {s : Shared} {env : Env} {base : Heap} {m₀ : Str → Option Value} {news₀ : List (Addr × Obj)} {l : Addr} {items : Array Value}
/-- a for-loop over a list, its ledger growing -/
theorem for_K2 {target : PySem.Expr} {body : List Stmt} {Rr : Result → Shared → Prop} (J : Nat → (Str → Option Value) → List (Addr × Obj) → Array GenState → Prop) (hh : A.handled = none)
    (F : Fr base env.locals s.heap m₀) (N : News base env.locals s.heap news₀) (hj : J 0 m₀ news₀ s.gens)
    (hlist : ∀ i m news g h, J i m news g → Fr base env.locals h m → News base env.locals h news → h.IsList l items)
    (turn : ∀ (it : Addr) oit i v m news g h tk, items[i]? = some v → J i m news g → Fr base env.locals h m → News base env.locals h ((it, oit) :: news) → IsLi oit l (i + 1) → (∀ p ∈ news, p.1 ≠ it) → (∀ p ∈ news₀, p.1 < it) →
      wpAny (LM w) A (letOwnedTupleGo target (.ref it) v) (fun _ s₁ => wpAny (LM w) A (assign target env v) (fun _ s₂ => wpAny (LM w) A (execs body env) (TurnPost2 base env.locals it oit J (i + 1) s.drawn s.os Rr)
        (notedBy (LM w) A env fun e s' => Rr (.error e) s') s₂) (notedBy (LM w) A env fun e s' => Rr (.error e) s') s₁) (notedBy (LM w) A env fun e s' => Rr (.error e) s') ⟨h, g, s.drawn, tk, s.os⟩)
    (done : ∀ m news g h tk, J items.size m news g → Fr base env.locals h m → News base env.locals h news → Rr (.ok .next) ⟨h, g, s.drawn, tk, s.os⟩) :
    wpAny (LM w) A (pyIter (.ref l)) (fun it s₂ => codeAny (LM w) A (.forLoop target it body [] env) Rr s₂) E s := by
  have hls := hlist 0 m₀ news₀ s.gens s.heap hj F N
  refine wpAny_pyIter_list hls ?_
  have hlt0 : ∀ p ∈ news₀, p.1 < s.heap.objs.size := fun p hp => Heap.lt_size (N p hp).1
  refine codeAny_forLoop_any (fun n s₁ => ∃ i m news oit, n = items.size - i ∧ i ≤ items.size ∧ IsLi oit l i ∧ Fr base env.locals s₁.heap m ∧ News base env.locals s₁.heap ((s.heap.objs.size, oit) :: news) ∧ (∀ q ∈ news, q.1 ≠ s.heap.objs.size) ∧ J i m news s₁.gens ∧ s₁.drawn = s.drawn ∧ s₁.os = s.os)
    (fun n s₁ hI => ?_) items.size ⟨0, m₀, news₀, liO l 0, rfl, Nat.zero_le _, ⟨rfl, rfl⟩, F.push _, News.push F N _, fun q hq => Nat.ne_of_lt (hlt0 q hq), hj, rfl, rfl⟩
  obtain ⟨i, m, news, oit, rfl, hi, hli, F₁, N₁, hoff, hJ, hd, ho⟩ := hI
  obtain ⟨h₁, g₁, d₁, t₁, os₁⟩ := s₁
  cases hd; cases ho
  have N₂ : News base env.locals h₁ news := fun p hp => N₁ p (.tail _ hp)
  have hls₁ := hlist i m news g₁ h₁ hJ F₁ N₂
  have hit₁ : h₁.IsListIter s.heap.objs.size l i := ⟨_, (N₁ _ (.head _)).1, hli.1, hli.2⟩
  have hI2 := (N₁ _ (.head _)).2
  by_cases hlt : i < items.size
  · refine wpAny_pyNext_list_item hit₁ hls₁ (x := items[i]) (by simp [hlt]) fun h₂ hit₂ hs₂ => ?_
    obtain ⟨o₂, ho₂, hc₂, hd₂⟩ := hit₂
    have F₂ := Fr.but F₁ (fun b o hb e => (hs₂.2 b hb).trans e) hI2.1 hI2.2
    have N₃ := News.but N₂ (fun b o hb e => (hs₂.2 b hb).trans e) hoff
    refine wpAny_mono (turn s.heap.objs.size o₂ i items[i] m news g₁ h₂ t₁ (by simp [hlt]) hJ F₂ (fun p hp => ?_) ⟨hc₂, hd₂⟩ hoff hlt0) (fun _ s₂ h₂ => wpAny_mono h₂ (fun _ s₃ h₃ => wpAny_mono h₃ (fun f s₄ h₄ => ?_) fun _ _ x => x) fun _ _ x => x) fun _ _ x => x
    · rcases List.mem_cons.mp hp with rfl | hp
      · exact ⟨ho₂, hI2⟩
      · exact N₃ p hp
    · have fin : TurnEnd2 base env.locals s.heap.objs.size o₂ J (i + 1) s.drawn s.os s₄ → ∃ n', n' < items.size - i ∧ ∃ i m news oit, n' = items.size - i ∧ i ≤ items.size ∧ IsLi oit l i ∧ Fr base env.locals s₄.heap m ∧ News base env.locals s₄.heap ((s.heap.objs.size, oit) :: news) ∧ (∀ q ∈ news, q.1 ≠ s.heap.objs.size) ∧ J i m news s₄.gens ∧ s₄.drawn = s.drawn ∧ s₄.os = s.os := by
        rintro ⟨m', news', F', N', ho', hJ', hd', hos'⟩
        exact ⟨items.size - (i + 1), by omega, i + 1, m', news', o₂, rfl, hlt, ⟨hc₂, hd₂⟩, F', N', ho', hJ', hd', hos'⟩
      cases f with
      | next => exact fin h₄
      | cont => exact fin h₄
      | brk => exact h₄
      | ret v => exact h₄
  · have hie : i = items.size := Nat.le_antisymm hi (Nat.le_of_not_lt hlt)
    refine wpAny_pyNext_list_end hh hit₁ hls₁ (by simp [hie]) fun h' hx => ?_
    refine wpAny_pure ?_
    exact done m news g₁ h' t₁ (hie ▸ hJ) (Fr.but F₁ hx hI2.1 hI2.2) (News.but N₂ hx hoff)
end
end
section
open PySem PySem.W PyProof.Rows PySem.W.X PySem.Calls PySem.Builtin PySem.Builtin.Str
set_option autoImplicit false
set_option maxRecDepth 100000
set_option maxHeartbeats 8000000
/-- a deed: what, where, the word -/
structure PD where
  kind : Int
  here : Str
  word : Str
structure DSt where
  pre : List Str
  cur : Str
  cnt : Str → Option Int
  out : List PD
abbrev aS (c : Int) : Str := Txt.mul (PySem.Str.ofString "a") c
abbrev slS : Str := Str.ofString "/"
def lastPart (x : Str) : Str := (Txt.split x slS).getLastD Str.empty
def dStep (st : DSt) (z : Int) : DSt :=
  if z.fmod 4 = 0 then
    { pre := st.pre ++ [st.cur], cur := st.cur ++ slS ++ aS ((st.cnt st.cur).getD 0 + 1),
      cnt := fun x => if x = st.cur ++ slS ++ aS ((st.cnt st.cur).getD 0 + 1) then some 0 else if x = st.cur then some ((st.cnt st.cur).getD 0 + 1) else st.cnt x,
      out := st.out ++ [⟨0, st.cur ++ slS ++ aS ((st.cnt st.cur).getD 0 + 1), aS ((st.cnt st.cur).getD 0 + 1)⟩] }
  else if z.fmod 4 = 1 ∧ 1 < st.pre.length then
    { pre := st.pre.dropLast, cur := st.pre.getLastD Str.empty, cnt := st.cnt, out := st.out ++ [⟨1, st.pre.getLastD Str.empty, lastPart st.cur⟩] }
  else { st with out := st.out ++ [⟨2, st.cur, if (z.fdiv 4).fmod 2 = 0 then Str.ofString "p" else Str.ofString "xs"⟩] }
def dStart : DSt := { pre := [], cur := Str.ofString "", cnt := fun x => if x = Str.ofString "" then some 0 else none, out := [] }
def dRun (zs : List Int) : DSt := zs.foldl dStep dStart
/-- the sizes of what has been done so far -/
structure DBd (i : Nat) (st : DSt) : Prop where
  pre : st.pre.length ≤ i
  len : ∀ x ∈ st.pre ++ [st.cur], x.length ≤ 20 * i
  cnt : ∀ x ∈ st.pre ++ [st.cur], ∃ c, st.cnt x = some c ∧ 0 ≤ c ∧ c ≤ i
  out : st.out.length = i
theorem aS_len {c : Int} (h : 0 ≤ c) : (aS c).length = c.toNat := by
  have e := len_mul_k1 (x := Str.ofString "a") (n := c) (by decide +kernel)
  rw [if_neg (by omega)] at e
  have e2 : ((aS c).length : Int) = 1 * c := e
  omega
theorem path_ne {cur x : Str} : cur ++ slS ++ x ≠ cur := fun h => by
  have := congrArg PySem.Str.length h
  rw [PySem.Str.length_append, PySem.Str.length_append, show slS.length = 1 from by decide +kernel] at this
  omega
theorem split_ne (x y : Str) : Txt.split x y ≠ [] := by
  unfold Txt.split
  split
  · simp
  split
  · simp
  · unfold partsBetween
    cases h : occurrences x y 0 x.length (x.length + 1) with
    | nil => simp
    | cons a l => simp
theorem va_same {kvs : List (Str × Value)} {k : Str} {v : Value} : valueAt (stored kvs k v) k = some v := by
  unfold stored valueAt
  by_cases h : (kvs.any fun kv => decide (kv.1 = k)) = true
  · rw [if_pos h]
    induction kvs with
    | nil => cases h
    | cons x r ih =>
      rw [List.map_cons, List.find?_cons]
      by_cases hx : x.1 = k
      · simp [hx]
      · simp only [hx, if_false, decide_false]
        refine ih ?_
        simpa [hx] using h
  · rw [if_neg h, List.find?_append]
    have : (kvs.find? fun kv => decide (kv.1 = k)) = none := by
      rw [List.find?_eq_none]
      intro x hx hk
      exact h (List.any_eq_true.mpr ⟨x, hx, hk⟩)
    rw [this]
    simp
theorem va_other {kvs : List (Str × Value)} {k k' : Str} {v : Value} (hn : k' ≠ k) : valueAt (stored kvs k v) k' = valueAt kvs k' := by
  unfold stored valueAt
  by_cases h : (kvs.any fun kv => decide (kv.1 = k)) = true
  · rw [if_pos h]
    clear h
    induction kvs with
    | nil => rfl
    | cons x r ih =>
      rw [List.map_cons, List.find?_cons, List.find?_cons]
      by_cases hx : x.1 = k
      · have : x.1 ≠ k' := fun q => hn (q ▸ hx)
        simp only [hx, if_true]
        simp_all
      · simp only [hx, if_false]
        by_cases hx' : x.1 = k'
        · simp [hx']
        · simp only [hx', decide_false]
          exact ih
  · rw [if_neg h, List.find?_append]
    have : (List.find? (fun kv : Str × Value => decide (kv.1 = k')) [(k, v)]) = none := by
      simp [Ne.symm hn]
    rw [this]
    simp
theorem stored_len {kvs : List (Str × Value)} {k : Str} {v : Value} : (stored kvs k v).length ≤ kvs.length + 1 := by
  unfold stored
  split
  · simp
  · simp
theorem dBd_step {i : Nat} {st : DSt} (z : Int) (h : DBd i st) (hi : i ≤ 13) : DBd (i + 1) (dStep st z) := by
  obtain ⟨c, hc, hc0, hc1⟩ := h.cnt st.cur (by simp)
  have hcl := h.len st.cur (by simp)
  unfold dStep
  split
  · rw [hc]
    simp only [Option.getD_some]
    have hpl : (st.cur ++ slS ++ aS (c + 1)).length ≤ 20 * (i + 1) := by
      rw [PySem.Str.length_append, PySem.Str.length_append, show slS.length = 1 from by decide +kernel, aS_len (by omega)]
      omega
    refine ⟨?_, ?_, ?_, ?_⟩
    · simp; exact h.pre
    · intro x hx
      rcases List.mem_append.mp hx with hx | hx
      · have := h.len x hx; omega
      · rw [List.mem_singleton.mp hx]; exact hpl
    · intro x hx
      by_cases h1 : x = st.cur ++ slS ++ aS (c + 1)
      · exact ⟨0, by simp only [if_pos h1], by omega, by omega⟩
      · simp only [if_neg h1]
        by_cases h2 : x = st.cur
        · exact ⟨c + 1, by simp only [if_pos h2], by omega, by omega⟩
        · simp only [if_neg h2]
          rcases List.mem_append.mp hx with hx | hx
          · obtain ⟨d, q1, q2, q3⟩ := h.cnt x hx
            exact ⟨d, q1, q2, by omega⟩
          · exact absurd (List.mem_singleton.mp hx) h1
    · simp [h.out]
  · split
    · rename_i h2
      have hne : st.pre ≠ [] := fun q => by rw [q] at h2; simp at h2
      have e : st.pre.dropLast ++ [st.pre.getLastD Str.empty] = st.pre := by
        rw [List.getLastD_eq_getLast?, List.getLast?_eq_some_getLast hne]
        simp only [Option.getD_some]
        exact List.dropLast_concat_getLast hne
      refine ⟨?_, ?_, ?_, ?_⟩
      · have := h.pre; simp; omega
      · dsimp only; rw [e]
        intro x hx
        have := h.len x (List.mem_append_left _ hx); omega
      · dsimp only; rw [e]
        intro x hx
        obtain ⟨d, q1, q2, q3⟩ := h.cnt x (List.mem_append_left _ hx)
        exact ⟨d, q1, q2, by omega⟩
      · simp [h.out]
    · refine ⟨Nat.le_succ_of_le h.pre, ?_, ?_, ?_⟩
      · intro x hx
        have := h.len x hx; omega
      · intro x hx
        obtain ⟨d, q1, q2, q3⟩ := h.cnt x hx
        exact ⟨d, q1, q2, by omega⟩
      · simp [h.out]
theorem dBd_run {zs : List Int} (h : zs.length ≤ 13) : ∀ i, i ≤ zs.length → DBd i ((zs.take i).foldl dStep dStart) := by
  intro i
  induction i with
  | zero =>
    intro _
    refine ⟨Nat.le_refl _, ?_, ?_, rfl⟩
    · intro x hx
      rw [List.mem_singleton.mp hx]
      show (Str.ofString "").length ≤ 20 * 0
      decide +kernel
    · intro x hx
      rw [List.mem_singleton.mp hx]
      exact ⟨0, by simp [dStart], by omega, by omega⟩
  | succ i ih =>
    intro hi
    rw [List.take_succ_eq_append_getElem (by omega), List.foldl_append]
    exact dBd_step _ (ih (by omega)) (by omega)
theorem dStep_A {pre out cnt} {cur : PySem.Str} {z c : Int} (h : z.fmod 4 = 0) (hc : cnt cur = some c) : dStep ⟨pre, cur, cnt, out⟩ z =
    { pre := pre ++ [cur], cur := cur ++ slS ++ aS (c + 1), cnt := fun x => if x = cur ++ slS ++ aS (c + 1) then some 0 else if x = cur then some (c + 1) else cnt x, out := out ++ [⟨0, cur ++ slS ++ aS (c + 1), aS (c + 1)⟩] } := by
  unfold dStep
  rw [if_pos h]
  simp only [hc, Option.getD_some]
theorem dStep_B {pre out cnt} {cur : PySem.Str} {z : Int} (h : z.fmod 4 = 1) (hp : 1 < pre.length) : dStep ⟨pre, cur, cnt, out⟩ z =
    { pre := pre.dropLast, cur := pre.getLastD Str.empty, cnt := cnt, out := out ++ [⟨1, pre.getLastD Str.empty, lastPart cur⟩] } := by
  unfold dStep
  rw [if_neg (by omega), if_pos ⟨h, hp⟩]
theorem dStep_C {pre out cnt} {cur : PySem.Str} {z : Int} (h : ¬ z.fmod 4 = 0) (hp : ¬ (z.fmod 4 = 1 ∧ 1 < pre.length)) : dStep ⟨pre, cur, cnt, out⟩ z =
    { pre := pre, cur := cur, cnt := cnt, out := out ++ [⟨2, cur, if (z.fdiv 4).fmod 2 = 0 then PySem.Str.ofString "p" else PySem.Str.ofString "xs"⟩] } := by
  unfold dStep
  rw [if_neg h, if_neg hp]
/-- a deed where it lies -/
structure DeedAt where
  a : Nat
  pd : PD
  t0 : Tok
  t1 : Tok
  t2 : Tok
abbrev DeedAt.obj (e : DeedAt) : Obj := tupO [.int e.pd.kind e.t0, .str e.pd.here e.t1, .str e.pd.word e.t2]
abbrev dRefs (ds : List DeedAt) : List Value := ds.map fun e => Value.ref e.a
abbrev dNews (ds : List DeedAt) : List (Addr × Obj) := ds.map fun e => ((e.a : Addr), e.obj)
def IsStr (v : Value) (x : PySem.Str) : Prop := ∃ t, v = .str x t
noncomputable def Strs : List Value → List PySem.Str → Prop
  | [], [] => True
  | v :: vs, x :: xs => IsStr v x ∧ Strs vs xs
  | _, _ => False
theorem Strs.length : ∀ {vs : List Value} {xs : List PySem.Str}, Strs vs xs → vs.length = xs.length
  | [], [], _ => rfl
  | _ :: _, _ :: _, h => congrArg (· + 1) (Strs.length h.2)
  | [], _ :: _, h => h.elim
  | _ :: _, [], h => h.elim
theorem Strs.snoc : ∀ {vs : List Value} {xs : List PySem.Str} {v : Value} {x : PySem.Str}, Strs vs xs → IsStr v x → Strs (vs ++ [v]) (xs ++ [x])
  | [], [], _, _, _, h => ⟨h, trivial⟩
  | _ :: _, _ :: _, _, _, h, h2 => ⟨h.1, Strs.snoc h.2 h2⟩
  | [], _ :: _, _, _, h, _ => h.elim
  | _ :: _, [], _, _, h, _ => h.elim
theorem Strs.last : ∀ {vs : List Value} {xs : List PySem.Str}, Strs vs xs → xs ≠ [] → ∃ vs' t, vs = vs' ++ [.str (xs.getLastD Str.empty) t] ∧ Strs vs' xs.dropLast
  | [], [], _, h => absurd rfl h
  | [v], [x], ⟨⟨t, h⟩, _⟩, _ => ⟨[], t, by rw [h]; rfl, trivial⟩
  | v :: v2 :: vs, x :: x2 :: xs, ⟨h1, h2⟩, _ => by
    obtain ⟨vs', t, e, h⟩ := Strs.last h2 (by simp)
    exact ⟨v :: vs', t, by rw [e]; rfl, h1, h⟩
  | [], _ :: _, h, _ => h.elim
  | _ :: _, [], h, _ => h.elim
  | [_], _ :: _ :: _, h, _ => h.2.elim
  | _ :: _ :: _, [_], h, _ => h.2.elim
def Cnt (kvs : List (PySem.Str × Value)) (cnt : PySem.Str → Option Int) : Prop := ∀ x, match cnt x with
  | some c => ∃ t, valueAt kvs x = some (.int c t)
  | none => valueAt kvs x = none
theorem Cnt.at {kvs : List (PySem.Str × Value)} {cnt : PySem.Str → Option Int} (h : Cnt kvs cnt) {x : PySem.Str} {c : Int} (e : cnt x = some c) : ∃ t, valueAt kvs x = some (.int c t) := by
  have := h x
  rw [e] at this
  exact this
theorem Cnt.stored {kvs : List (PySem.Str × Value)} {cnt : PySem.Str → Option Int} (h : Cnt kvs cnt) {x : PySem.Str} {c : Int} {t : Tok} : Cnt (stored kvs x (.int c t)) (fun y => if y = x then some c else cnt y) := by
  intro y
  by_cases hy : y = x
  · simp only [if_pos hy, hy]
    exact ⟨t, va_same⟩
  · simp only [if_neg hy]
    rw [va_other hy]
    exact h y
abbrev dAt (zs : List Int) (i : Nat) : DSt := (zs.take i).foldl dStep dStart
theorem dAt_succ {zs : List Int} {i : Nat} {z : Int} (h : zs[i]? = some z) : dAt zs (i + 1) = dStep (dAt zs i) z := by
  obtain ⟨hi, e⟩ := List.getElem?_eq_some_iff.mp h
  unfold dAt
  rw [List.take_succ_eq_append_getElem hi, List.foldl_append, e]
  rfl
theorem cnt_start {t : Tok} : Cnt [(PySem.Str.ofString "", .int 0 t)] dStart.cnt := by
  intro x
  unfold dStart
  by_cases h : x = PySem.Str.ofString ""
  · simp only [if_pos h]
    exact ⟨t, by rw [h]; simp [valueAt]⟩
  · simp only [if_neg h]
    simp [valueAt, Ne.symm h]
def DJ (w : World) (g0 : Array GenState) (m0 : PySem.Str → Option Value) (dl bl ll nl : Nat) (vs : List Value) (nz : Nat) (zs : List Int) (i : Nat) (m : PySem.Str → Option Value) (news : List (Addr × Obj)) (g : Array GenState) : Prop :=
  g = g0 ∧ ∃ u1 u2 lv tc nL ob kvs nD ds, m = fmM (PySem.Str.ofString "n") (PySem.Str.ofString "here") m0 u1 u2 ∧
    news = (dl, lstO (dRefs ds).toArray nD) :: (bl, ob) :: (ll, lstO (lv ++ [Value.str (dAt zs i).cur tc]).toArray nL) :: (nl, lstO vs.toArray nz) :: dNews ds ∧ ob.IsDictOf (PySem.strKind lawProg w) kvs ∧
    kvs.length ≤ 2 * i + 1 ∧ Strs lv (dAt zs i).pre ∧ Cnt kvs (dAt zs i).cnt ∧ ds.map DeedAt.pd = (dAt zs i).out ∧ (∀ p ∈ dNews ds, p.1 ≠ dl) ∧ (∀ p ∈ dNews ds, p.1 ≠ bl) ∧ (∀ p ∈ dNews ds, p.1 ≠ ll)
theorem deeds_end {w : World} {g' h : Heap} {L it : Addr} {oit ob' : Obj} {m0 : PySem.Str → Option Value} {dl bl ll nl D' : Nat} {vs : List Value} {nz : Nat} {zs : List Int} {i : Nat} {ds : List DeedAt} {u1 u2 : Option Value} {va vb : Value} {pd : PD} {t0 t1 t2 tc' : Tok}
    {nD' nL' : Nat} {lv' : List Value} {cur' : PySem.Str} {kvs' : List (PySem.Str × Value)} {g0 : Array GenState} {d : Drawn} {os : OsState} {tk : Nat}
    (F : Fr g' L h (fun y => if y = PySem.Str.ofString "here" then some vb else if y = PySem.Str.ofString "n" then some va else fmM (PySem.Str.ofString "n") (PySem.Str.ofString "here") m0 u1 u2 y))
    (N : News g' L h ((it, oit) :: (dl, lstO (dRefs ds ++ [Value.ref D']).toArray nD') :: (bl, ob') :: (ll, lstO (lv' ++ [Value.str cur' tc']).toArray nL') :: (nl, lstO vs.toArray nz) :: (D', tupO [.int pd.kind t0, .str pd.here t1, .str pd.word t2]) :: dNews ds))
    (hD : it < D' ∧ dl < D' ∧ bl < D' ∧ ll < D') (hoff : ∀ p ∈ dNews ds, p.1 ≠ it) (hlo : dl < it ∧ bl < it ∧ ll < it ∧ nl < it) (ht1 : ∀ p ∈ dNews ds, p.1 ≠ dl) (ht2 : ∀ p ∈ dNews ds, p.1 ≠ bl) (ht3 : ∀ p ∈ dNews ds, p.1 ≠ ll)
    (hob : ob'.IsDictOf (PySem.strKind lawProg w) kvs') (hk : kvs'.length ≤ 2 * (i + 1) + 1) (hcur : (dAt zs (i + 1)).cur = cur') (hlv : Strs lv' (dAt zs (i + 1)).pre) (hcnt : Cnt kvs' (dAt zs (i + 1)).cnt) (hds : ds.map DeedAt.pd ++ [pd] = (dAt zs (i + 1)).out) :
    TurnEnd2 g' L it oit (DJ w g0 m0 dl bl ll nl vs nz zs) (i + 1) d os ⟨h, g0, d, tk, os⟩ := by
  subst hcur
  have snoc : ∀ a : Nat, D' ≠ a → (∀ p ∈ dNews ds, p.1 ≠ a) → ∀ p ∈ dNews (ds ++ [⟨D', pd, t0, t1, t2⟩]), p.1 ≠ a := fun a h1 h2 p hp => by
    unfold dNews at hp
    rw [List.map_append] at hp
    rcases List.mem_append.mp hp with hp | hp
    · exact h2 p hp
    · rw [List.mem_singleton.mp hp]; exact h1
  have hoff' := snoc it (Nat.ne_of_gt hD.1) hoff
  refine ⟨_, (dl, lstO (dRefs (ds ++ [⟨D', pd, t0, t1, t2⟩])).toArray nD') :: (bl, ob') :: (ll, lstO (lv' ++ [Value.str (dAt zs (i + 1)).cur tc']).toArray nL') :: (nl, lstO vs.toArray nz) :: dNews (ds ++ [⟨D', pd, t0, t1, t2⟩]), Mine.Fr.congr F (fun y => fmM_next y), ?_, ?_, ⟨rfl, _, _, lv', tc', nL', ob', kvs', nD', _, rfl, rfl, hob, hk, hlv, hcnt, ?_, snoc dl (Nat.ne_of_gt hD.2.1) ht1, snoc bl (Nat.ne_of_gt hD.2.2.1) ht2, snoc ll (Nat.ne_of_gt hD.2.2.2) ht3⟩, rfl, rfl⟩
  · refine newsCons N (by k_mem) (newsCons N ?_ (newsCons N (by k_mem) (newsCons N (by k_mem) (newsCons N (by k_mem) fun p hp => N p ?_))))
    · rw [show dRefs (ds ++ [⟨D', pd, t0, t1, t2⟩]) = dRefs ds ++ [Value.ref D'] by simp [dRefs]]
      k_mem
    · unfold dNews at hp
      rw [List.map_append] at hp
      rcases List.mem_append.mp hp with hp | hp
      · exact .tail _ (.tail _ (.tail _ (.tail _ (.tail _ (.tail _ hp)))))
      · rw [List.mem_singleton.mp hp]; k_mem
  · intro q hq
    rcases List.mem_cons.mp hq with rfl | hq
    · exact Nat.ne_of_lt hlo.1
    rcases List.mem_cons.mp hq with rfl | hq
    · exact Nat.ne_of_lt hlo.2.1
    rcases List.mem_cons.mp hq with rfl | hq
    · exact Nat.ne_of_lt hlo.2.2.1
    rcases List.mem_cons.mp hq with rfl | hq
    · exact Nat.ne_of_lt hlo.2.2.2
    · exact hoff' q hq
  · rw [List.map_append]; exact hds
theorem deeds_end2 {w : World} {g' h : Heap} {L it : Addr} {oit ob' : Obj} {m0 : PySem.Str → Option Value} {dl bl ll nl D' : Nat} {vs : List Value} {nz : Nat} {zs : List Int} {i : Nat} {ds : List DeedAt} {u1 u2 : Option Value} {va vb : Value} {kind : Int} {here word : PySem.Str} {t0 t1 t2 tc' : Tok}
    {nD' nL' : Nat} {lv' : List Value} {cur' : PySem.Str} {kvs' : List (PySem.Str × Value)} {g0 : Array GenState} {d : Drawn} {os : OsState} {tk : Nat} {big : List (Addr × Obj)} {pre' : List PySem.Str} {cnt' : PySem.Str → Option Int} {out : List PD}
    (F : Fr g' L h (fun y => if y = PySem.Str.ofString "here" then some vb else if y = PySem.Str.ofString "n" then some va else fmM (PySem.Str.ofString "n") (PySem.Str.ofString "here") m0 u1 u2 y))
    (N : News g' L h big) (m1 : (D', tupO [.int kind t0, .str here t1, .str word t2]) ∈ big) (m2 : (it, oit) ∈ big) (m3 : (dl, lstO (dRefs ds ++ [Value.ref D']).toArray nD') ∈ big) (m4 : (bl, ob') ∈ big) (m5 : (ll, lstO (lv' ++ [Value.str cur' tc']).toArray nL') ∈ big) (m6 : (nl, lstO vs.toArray nz) ∈ big) (m7 : ∀ p ∈ dNews ds, p ∈ big)
    (hst : dAt zs (i + 1) = { pre := pre', cur := cur', cnt := cnt', out := out ++ [⟨kind, here, word⟩] })
    (hD : it < D' ∧ dl < D' ∧ bl < D' ∧ ll < D') (hoff : ∀ p ∈ dNews ds, p.1 ≠ it) (hlo : dl < it ∧ bl < it ∧ ll < it ∧ nl < it) (ht1 : ∀ p ∈ dNews ds, p.1 ≠ dl) (ht2 : ∀ p ∈ dNews ds, p.1 ≠ bl) (ht3 : ∀ p ∈ dNews ds, p.1 ≠ ll)
    (hob : ob'.IsDictOf (PySem.strKind lawProg w) kvs') (hk : kvs'.length ≤ 2 * (i + 1) + 1) (hlv : Strs lv' pre') (hcnt : Cnt kvs' cnt') (hds : ds.map DeedAt.pd = out) :
    TurnEnd2 g' L it oit (DJ w g0 m0 dl bl ll nl vs nz zs) (i + 1) d os ⟨h, g0, d, tk, os⟩ :=
  deeds_end (pd := ⟨kind, here, word⟩) F (newsCons N m2 (newsCons N m3 (newsCons N m4 (newsCons N m5 (newsCons N m6 (newsCons N m1 fun p hp => N p (m7 p hp))))))) hD hoff hlo ht1 ht2 ht3 hob hk (by rw [hst]) (by rw [hst]; exact hlv) (by rw [hst]; exact hcnt) (by rw [hst, hds])
section
variable {prog : Program} {w : World} {A : Around} {E : Value → Shared → Prop} {s : Shared} {h₀ : Heap} {L : Addr} {m : PySem.Str → Option Value} {news : List (Addr × Obj)}
theorem item_lastN {value slice : PySem.Expr} {l : Addr} {vs : List Value} {v : Value} {n : Nat} {u : Tok} {Q : Value → Shared → Prop} (N : News h₀ L s.heap news) (hm : (l, lstO (vs ++ [v]).toArray n) ∈ news) (h : Q v s)
    (hs : subscripted slice false (.ref l) (.int (-1) u) = operate [.ref l, .int (-1) u] (getItem (.ref l) (.int (-1) u)) := by with_unfolding_all rfl) :
    wpAny (model prog w) A (subscriptTail value slice (.ref l) (.int (-1) u)) Q E s := by
  have hl : s.heap.IsList l (vs ++ [v]).toArray := ⟨_, (N _ hm).1, rfl, _, rfl⟩
  have e : (vs ++ [v]).toArray.size = vs.length + 1 := by simp
  refine tail_any hl.typeIs slot_list_getitem.lookup (wpAny_getItem_list_neg hl (by decide) (by rw [e]; omega) (by decide) ?_ h) hs
  rw [e, show ((-1 : Int) + ((vs.length + 1 : Nat) : Int)).toNat = vs.length by omega]
  simp
theorem item_at {value slice : PySem.Expr} {l : Addr} {vs : Array Value} {v : Value} {n : Nat} {k : Int} {u : Tok} {Q : Value → Shared → Prop} (N : News h₀ L s.heap news) (hm : (l, lstO vs n) ∈ news) (h0 : 0 ≤ k) (h1 : k < 2 ^ 63) (hx : vs[k.toNat]? = some v) (h : Q v s)
    (hs : subscripted slice false (.ref l) (.int k u) = operate [.ref l, .int k u] (getItem (.ref l) (.int k u)) := by with_unfolding_all rfl) :
    wpAny (model prog w) A (subscriptTail value slice (.ref l) (.int k u)) Q E s := by
  have hl : s.heap.IsList l vs := ⟨_, (N _ hm).1, rfl, _, rfl⟩
  exact tail_any hl.typeIs slot_list_getitem.lookup (wpAny_getItem_list hl h0 h1 hx h) hs
theorem fmod2 (x : Int) : x.fmod 2 = 0 ∨ x.fmod 2 = 1 := by
  rw [Int.fmod_eq_emod_of_nonneg _ (by decide)]
  omega
theorem splitL {x : PySem.Str} {t u : Tok} {Q : Value → Shared → Prop} (hF : Fr h₀ L s.heap m) (hN : News h₀ L s.heap news) (hx : x.length ≤ 1000)
    (h : ∀ (D : Addr) vs tk' h' k, Fr h₀ L h' m → News h₀ L h' ((D, lstO (vs ++ [Value.str (lastPart x) tk']).toArray 0) :: news) → (∀ p ∈ news, p.1 < D) → Q (.ref D) { s with heap := h', toks := k }) :
    wpAny (model prog w) A (call (.builtin "str.split") [.str x t, .str slS u]) Q E s := by
  refine splitN1 hF hN (by decide +kernel) (fun l h' k hl F' N' => ?_) (by rw [sizeLine_eq]; omega)
  have hne : l ≠ [] := fun q => by
    rw [q] at hl
    exact split_ne _ _ hl.symm
  have el : l = l.dropLast ++ [l.getLast hne] := (List.dropLast_concat_getLast hne).symm
  have ey : (l.getLast hne).1 = lastPart x := by
    unfold lastPart
    rw [← hl, List.getLastD_eq_getLast?, List.getLast?_map, List.getLast?_eq_some_getLast hne]
    rfl
  refine h s.heap.objs.size (strValues l.dropLast) (l.getLast hne).2 h' k F' (fun p hp => ?_) (fun p hp => Heap.lt_size (hN p hp).1)
  refine N' p ?_
  rcases List.mem_cons.mp hp with rfl | hp
  · have : strValues l.dropLast ++ [Value.str (lastPart x) (l.getLast hne).2] = strValues l := by
      conv => rhs; rw [el]
      rw [strValues, strValues, List.map_append, ← ey]; rfl
    rw [this]
    exact .head _
  · exact .tail _ hp
end
theorem deeds_done {h₀ g' h' : Heap} {s : Shared} {L L' : Addr} {m' : PySem.Str → Option Value} {nl dl bl ll nz nD : Nat} {vs : List Value} {ob oll : Obj} {ds : List DeedAt}
    (hg : ∀ b o, s.heap.get? b = some o → b ∉ [(nl, lstO vs.toArray nz)].map (·.1) → g'.get? b = some o) (N : News h₀ L s.heap [(nl, lstO vs.toArray nz)]) (F2 : Fr g' L' h' m')
    (N2 : News g' L' h' ((dl, lstO (dRefs ds).toArray nD) :: (bl, ob) :: (ll, oll) :: (nl, lstO vs.toArray nz) :: dNews ds)) (hdl : nl < dl) :
    Mine.Keeps s.heap h' ∧ s.heap.get? dl = none ∧ ∀ p ∈ dNews ds, s.heap.get? p.1 = none := by
  refine ⟨?_, fresh_of hg N2 (.head _) (fun p hp => by rw [List.mem_singleton.mp hp]; exact Nat.ne_of_lt hdl), fun p hp => ?_⟩
  · intro b o e
    rcases in_case hg e with ⟨p, hp, rfl⟩ | e2
    · rw [List.mem_singleton.mp hp] at e ⊢
      have hq := (N _ (.head _)).1
      rw [e] at hq
      cases hq
      exact (N2 _ (.tail _ (.tail _ (.tail _ (.head _))))).1
    · exact F2.keep b o e2
  · refine fresh_of (o := p.2) hg N2 (.tail _ (.tail _ (.tail _ (.tail _ hp)))) (fun q hq e => ?_)
    rw [List.mem_singleton.mp hq] at e
    have h1 := (N2 p (.tail _ (.tail _ (.tail _ (.tail _ hp))))).1
    have h2 := (N2 (nl, lstO vs.toArray nz) (.tail _ (.tail _ (.tail _ (.head _))))).1
    obtain ⟨x, _, rfl⟩ := List.mem_map.mp hp
    have e' : nl = x.a := e
    dsimp only at h1 h2
    rw [← e', h2] at h1
    exact absurd (congrArg Obj.cls (Option.some.inj h1)) (by simp)
theorem dRun_at {zs : List Int} {vs : List Value} (h : IntsAre vs zs) : dAt zs vs.toArray.size = dRun zs := by
  unfold dAt dRun
  rw [List.size_toArray, h.length, List.take_length]
end
section
open PySem PySem.W PyProof.Rows PySem.W.X PySem.Calls
set_option autoImplicit false
set_option pp.deepTerms false
set_option pp.proofs false
set_option maxRecDepth 100000
set_option maxHeartbeats 8000000
theorem item_lastL {prog : Program} {w : World} {A : Around} {E : Value → Shared → Prop} {s : Shared} {h₀ : Heap} {L : Addr} {news : List (Addr × Obj)} {value slice : PySem.Expr} {l : Addr} {vs : List Value} {v : Value} {n : Nat} {u : Tok} {Q : Value → Shared → Prop} (N : News h₀ L s.heap news) (hm : (l, lstO (vs ++ [v]).toArray n) ∈ news) (hsz : vs.length ≤ 1000) (h : Q v s)
    (hs : subscripted slice false (.ref l) (.int (-1) u) = operate [.ref l, .int (-1) u] (getItem (.ref l) (.int (-1) u)) := by with_unfolding_all rfl) :
    wpAny (model prog w) A (subscriptTail value slice (.ref l) (.int (-1) u)) Q E s := by
  have e : (vs ++ [v]).toArray = vs.toArray.push v := by simp
  refine item_last (vs := vs.toArray) (n := n) N ?_ (by simpa using hsz) h hs
  rw [e] at hm; exact hm
theorem fmod2_le (x : Int) : 0 ≤ x.fmod 2 ∧ x.fmod 2 < 2 ^ 63 := by rcases fmod2 x with h | h <;> rw [h] <;> decide
theorem fmod2_at {a b : PySem.Str} {t t' : Tok} (x : Int) : #[Value.str a t, Value.str b t'][(x.fmod 2).toNat]? = some (.str (if x.fmod 2 = 0 then a else b) (if x.fmod 2 = 0 then t else t')) := by
  rcases fmod2 x with h | h <;> rw [h] <;> rfl
theorem t_deeds {w : World} {cn : Str} {cs : Scope} {a : Addr} {ccd : Value} {base h₀ : Heap} {L : Addr}
    {m mg mb : Str → Option Value} {loose : List Str} {mean : ExcName → Option Value} {s : Shared} {Q E : Value → Shared → Prop} {nl : Nat} {vs : List Value} {zs : List Int}
    (B : Below callerA base [] h₀) (F : Fr h₀ L s.heap m) (X : (hd.heap_39 w.params).In h₀) (T : Top topProg loose mean mg mb h₀) (hk : cs.kind = .function)
    {nz : Nat} (N : News h₀ L s.heap [(nl, lstO vs.toArray nz)]) (hzs : IntsAre vs zs) (hlen : zs.length ≤ 13)
    (hret : ∀ (dl : Nat) ds nD h' tk', Fr h₀ L h' m → News h₀ L h' ((dl, lstO (dRefs ds).toArray nD) :: dNews ds) → Mine.Keeps s.heap h' → s.heap.get? dl = none → (∀ p ∈ dNews ds, s.heap.get? p.1 = none) → (∀ p ∈ dNews ds, p.1 ≠ dl) → ds.map DeedAt.pd = (dRun zs).out → Q (.ref dl) { s with heap := h', toks := tk' }) :
    wpAny (model lawProg w) (callerA.deeper (envOf cn cs L a ccd)) (call (.ref 225) [.ref nl]) Q E s := by
  have hk0 : HoldK "exec For Tuple Name cons nil" := .on _
  have hk1 : HoldK "exec For Tuple Call cons nil" := .on _
  have hk2 : HoldK "exec For Name Name cons nil" := .on _
  have hk3 : HoldK "subscriptTail Name UnaryOp ref int" := .on _
  have hk4 : HoldK "getItem ref str" := .on _
  have hk5 : HoldK "setItem ref str" := .on _
  have hk6 : HoldK "call builtin:len" := .on _
  have hk7 : HoldK "call builtin:list.pop" := .on _
  have hk8 : HoldK "call builtin:str.split" := .on _
  have hk9 : HoldK "subscriptTail Name Name ref str" := .on _
  have hk10 : HoldK "subscriptTail List cons BinOp ref int" := .on _
  have hk11 : HoldK "tup" := .on _
  have hk12 : HoldK "app" := .on _
  have hk14 : HoldK "isTrue BoolOp" := .on _
  have hk13 : HoldK "subscriptTail Call Attribute cons nil UnaryOp ref int" := .on _
  refine wpAny_call ?_
  ktr_enter
  intro g' L' h' hg FG' F' N' B' X' T'; (try dsimp only); (try k_fold)
  k_steps
  refine Held.mk ?_
  rename Fr g' L' _ _ => F1
  rename News g' L' _ _ => N1
  refine wpAny_For (wpAny_Name (wpAny_loadName_local rfl rfl F1.ns rfl ?_))
  rename Obj.IsDictOf (PySem.strKind lawProg w) _ _ => HD
  refine' for_K2 (items := vs.toArray) (DJ w s.gens _ _ _ _ nl vs nz zs) rfl F1 N1 ⟨rfl, _, _, [], _, 0, _, _, 0, [], funext fmM_self, rfl, HD, ?_, trivial, ?_, rfl, (fun _ h => nomatch h), (fun _ h => nomatch h), (fun _ h => nomatch h)⟩ ?_ ?_ ?_
  · exact Nat.le_of_ble_eq_true rfl
  · exact cnt_start
  · rintro i m news g h ⟨_, u1, u2, lv, tc, nL, ob, kvs, nD, ds, _, rfl, _⟩ _ N2
    exact ⟨_, (N2 (nl, _) (by k_mem)).1, rfl, _, rfl⟩
  · rintro it oit i v m news g h tk hv ⟨rfl, u1, u2, lv, tc, nL, ob, kvs, nD, ds, rfl, rfl, hob, hkl, hlv, hcn, hds, ht1, ht2, ht3⟩ F2 N2 hli hoff hit
    have hvz : vs[i]? = some v := by simpa using hv
    obtain ⟨z, tz, rfl, hz⟩ := hzs.at i v hvz
    k_lt hit
    have hi13 : i < 13 := Nat.lt_of_lt_of_le (List.getElem?_eq_some_iff.mp hz).1 hlen
    have hbd : DBd i (dAt zs i) := dBd_run hlen i (Nat.le_of_lt (List.getElem?_eq_some_iff.mp hz).1)
    have hsu := dAt_succ hz
    have hoffT : ∀ p ∈ dNews ds, p.1 ≠ it := fun p hp => hoff p (.tail _ (.tail _ (.tail _ (.tail _ hp))))
    clear hoff
    generalize dAt zs i = st at *
    obtain ⟨pre, cur, cnt, out⟩ := st
    dsimp only at hlv hcn hds N2
    obtain ⟨c, hc, hc0, hc1⟩ := hbd.cnt cur (by simp)
    obtain ⟨t, hcv⟩ := hcn.at hc
    have hcl := hbd.len cur (by simp)
    have hlv1 : lv.length ≤ 13 := by have := hlv.length; have := hbd.pre; dsimp only at this; omega
    have hdl : ds.length ≤ 13 := by have e1 := congrArg List.length hds; rw [List.length_map] at e1; have := hbd.out; dsimp only at this; omega
    have hdr : (dRefs ds).length ≤ 13 := by rw [List.length_map]; exact hdl
    generalize hT : dNews ds = tail at *
    refine wpAny_of_eq (a := ()) rfl ?_
    refine wpAny_assign_Name (wpAny_storeName_local rfl F2.ns (fun h3 hns hsb => ?_) rfl)
    have F3 := F2.set hns hsb
    have N3 := N2.set hsb
    clear F2 N2 hns hsb F1 N1 hbd
    generalize hqf : TurnPost2 _ _ _ _ _ _ _ _ _ = qf
    k_steps
    refine Held.mk ?_
    rename News g' L' _ _ => N4
    refine item_lastL N4 (by k_mem) (by omega) ?_
    k_steps
    · refine Held.mk ?_
      rename News g' L' _ _ => N5
      refine wpAny_getItem_of (knd := PySem.strKind lawProg w) (strKind_is _ _ _ _) (kda_dict N5 (by k_mem) hob).mapOf hcv ?_
      k_steps
      refine Held.mk ?_
      rename Fr g' L' _ _ => F6
      rename News g' L' _ _ => N6
      refine kda_set (knd := PySem.strKind lawProg w) F6 N6 (by k_updF) hob (strKind_is _ _ _ _) (by rw [sizeLine_eq]; omega) (fun h7 ob7 F7 N7 hob7 => ?_)
      (try dsimp only at N7)
      clear F6 N6
      k_steps
      refine Held.mk ?_
      rename News g' L' _ _ => N8
      refine kda_item (knd := PySem.strKind lawProg w) N8 (by k_mem) hob7 (strKind_is _ _ _ _) va_same ?_
      k_steps
      refine Held.mk ?_
      rename News g' L' _ _ => N9
      refine item_last N9 (by k_mem) (by rw [List.size_toArray, List.length_append, List.length_singleton]; omega) ?_
      k_steps
      refine Held.mk ?_
      rename Fr g' L' _ _ => FA
      rename News g' L' _ _ => NA
      refine kda_set (knd := PySem.strKind lawProg w) FA NA (by k_updF) hob7 (strKind_is _ _ _ _) (by rw [sizeLine_eq]; exact Nat.le_trans stored_len (by omega)) (fun h8 ob8 F8 N8' hob8 => ?_)
      (try dsimp only at N8')
      clear FA NA
      k_steps
      refine Held.mk ?_
      rename News g' L' _ _ => NB
      refine item_last NB (by k_mem) (by rw [List.size_toArray, List.length_append, List.length_singleton]; omega) ?_
      k_steps
      refine Held.mk ?_
      rename News g' L' _ _ => NC
      refine kda_item (knd := PySem.strKind lawProg w) NC (by k_mem) hob8 (strKind_is _ _ _ _) ((va_other (Ne.symm path_ne)).trans va_same) ?_
      k_steps
      rename Fr g' L' _ _ => F9
      rename News g' L' _ _ => N9
      (try simp only [List.push_toArray] at N9)
      rw [← hqf]
      subst hT
      have hA := hsu.trans (dStep_A (by assumption) hc)
      refine' deeds_end2 F9 N9 ?am1 ?am2 ?am3 ?am4 ?am5 ?am6 (fun p hp => .tail _ (.tail _ (.tail _ (.tail _ (.tail _ (.tail _ hp)))))) hA ⟨ltN ?al1, ltN ?al2, ltN ?al3, ltN ?al4⟩ hoffT ⟨ltN ?al5, ltN ?al6, ltN ?al7, ltN ?al8⟩ ht1 ht2 ht3 hob8 ?akl (hlv.snoc ⟨_, rfl⟩) (hcn.stored).stored hds
      case am1 => k_mem
      case am2 => k_mem
      case am3 => k_mem
      case am4 => k_mem
      case am5 => k_mem
      case am6 => k_mem
      case akl => exact Nat.le_trans stored_len (Nat.le_trans (Nat.succ_le_succ stored_len) (by omega))
      all_goals omega
    refine Held.mk ?_
    (rename ¬ _ = _ => hz0)
    refine eval_cut (fun b => b = true ↔ (z.fmod 4 = 1 ∧ 1 < pre.length)) ?cond fun b t0 hb => ?_
    case cond =>
      clear hk14
      have hpl := hlv.length
      k_steps
      · refine Held.mk ?_
        rename News g' L' _ _ => N5
        refine PySem.Calls.call_len_list (items := (lv ++ [Value.str cur tc]).toArray) ⟨_, (N5 (_, lstO (lv ++ [Value.str cur tc]).toArray nL) (by k_mem)).1, rfl, _, rfl⟩ (by rw [List.size_toArray, List.length_append, List.length_singleton]; omega) ?_
        rw [List.size_toArray, List.length_append, List.length_singleton]
        k_steps
        · exact ⟨⟨fun _ => ⟨by assumption, by omega⟩, fun _ => rfl⟩, _, rfl⟩
        · exact ⟨⟨(fun q => nomatch q), (fun q => absurd q.2 (by omega))⟩, _, rfl⟩
      · exact ⟨⟨(fun q => nomatch q), (fun q => absurd q.1 (by assumption))⟩, _, rfl⟩
    cases b
    · have hn1 : ¬ (z.fmod 4 = 1 ∧ 1 < pre.length) := fun q => nomatch hb.mpr q
      clear hk14 hb
      k_steps
      refine Held.mk ?_
      rename News g' L' _ _ => N6
      refine item_at (v := .str (if (z.fdiv 4).fmod 2 = 0 then PySem.Str.ofString "p" else PySem.Str.ofString "xs") _) N6 (by k_mem) (fmod2_le _).1 (fmod2_le _).2 (fmod2_at _) ?_
      generalize hW : (if (z.fdiv 4).fmod 2 = 0 then PySem.Str.ofString "p" else PySem.Str.ofString "xs") = wd
      k_steps
      rename Fr g' L' _ _ => F9
      rename News g' L' _ _ => N9
      (try simp only [List.push_toArray] at N9)
      rw [← hqf]
      subst hT
      have hA := hsu.trans ((dStep_C hz0 hn1).trans (by rw [hW]))
      refine' deeds_end2 F9 N9 ?cm1 ?cm2 ?cm3 ?cm4 ?cm5 ?cm6 (fun p hp => ?cm7) hA ⟨ltN ?cl1, ltN ?cl2, ltN ?cl3, ltN ?cl4⟩ hoffT ⟨ltN ?cl5, ltN ?cl6, ltN ?cl7, ltN ?cl8⟩ ht1 ht2 ht3 hob ?ckl hlv hcn hds
      case cm1 => k_mem
      case cm2 => k_mem
      case cm3 => k_mem
      case cm4 => k_mem
      case cm5 => k_mem
      case cm6 => k_mem
      case cm7 => repeat (first | assumption | refine List.Mem.tail _ ?_)
      all_goals omega
    · obtain ⟨hz1, hpl⟩ := hb.mp rfl
      clear hk14 hb
      obtain ⟨lv', tl, rfl, hlv'⟩ := hlv.last (fun q => by rw [q] at hpl; simp at hpl)
      k_steps
      refine Held.mk ?_
      rename Fr g' L' _ _ => F6
      rename News g' L' _ _ => N6
      refine popK F6 N6 (by k_upd) (by omega) (fun h7 F7 N7 => ?_)
      (try dsimp only at N7)
      clear F6 N6
      k_steps
      refine Held.mk ?_
      rename News g' L' _ _ => N8
      refine item_lastN N8 (by k_mem) ?_
      k_steps
      refine Held.mk ?_
      rename Fr g' L' _ _ => FA
      rename News g' L' _ _ => NA
      refine splitL FA NA (by omega) (fun D vs2 tk2 h8 k8 F8 N8' l8 => ?_)
      k_lt l8
      clear FA NA
      k_steps
      refine Held.mk ?_
      rename News g' L' _ _ => NB
      refine item_lastN NB (by k_mem) ?_
      k_steps
      rename Fr g' L' _ _ => F9
      rename News g' L' _ _ => N9
      (try simp only [List.push_toArray] at N9)
      rw [← hqf]
      subst hT
      have hA := hsu.trans (dStep_B hz1 hpl)
      refine' deeds_end2 F9 N9 ?bm1 ?bm2 ?bm3 ?bm4 ?bm5 ?bm6 (fun p hp => ?bm7) hA ⟨ltN ?bl1, ltN ?bl2, ltN ?bl3, ltN ?bl4⟩ hoffT ⟨ltN ?bl5, ltN ?bl6, ltN ?bl7, ltN ?bl8⟩ ht1 ht2 ht3 hob ?bkl hlv' hcn hds
      case bm1 => k_mem
      case bm2 => k_mem
      case bm3 => k_mem
      case bm4 => k_mem
      case bm5 => k_mem
      case bm6 => k_mem
      case bm7 => repeat (first | assumption | refine List.Mem.tail _ ?_)
      all_goals omega
  · rintro m news g h tk ⟨rfl, u1, u2, lv, tc, nL, ob, kvs, nD, ds, rfl, rfl, hob, hkl, hlv, hcn, hds, ht1, ht2, ht3⟩ F2 N2
    dsimp only
    obtain ⟨q1, q2, q3⟩ := deeds_done hg N F2 N2 (ltN (by omega))
    rw [dRun_at hzs] at hds
    clear F1 N1
    k_steps
    rename Fr h₀ L _ m => FZ
    rename News h₀ L _ _ => NZ
    exact hret _ ds nD _ _ FZ (newsCons NZ (.head _) (fun p hp => NZ p (.tail _ (.tail _ (.tail _ (.tail _ hp)))))) q1 q2 q3 ht1 hds
end
section
open PySem PySem.W PyProof.Rows PySem.W.X PySem.Calls
set_option autoImplicit false
set_option maxRecDepth 100000
set_option maxHeartbeats 8000000
/-- the signs of a path -/
noncomputable def encL : List Nat → List Nat
  | [] => []
  | k :: ks => 47 :: (List.replicate k 97 ++ encL ks)
def IsPath (x : PySem.Str) (K : List Nat) : Prop := x.cps.toList = encL K ∧ ∀ k ∈ K, 1 ≤ k
theorem encL_append : ∀ (K J : List Nat), encL (K ++ J) = encL K ++ encL J
  | [], _ => rfl
  | k :: ks, J => by
    show 47 :: (List.replicate k 97 ++ encL (ks ++ J)) = 47 :: (List.replicate k 97 ++ encL ks) ++ encL J
    rw [encL_append ks J]
    simp
def Sep (l : List Nat) : Prop := l = [] ∨ ∃ r, l = 47 :: r
theorem sep_enc : ∀ K, Sep (encL K)
  | [] => .inl rfl
  | _ :: _ => .inr ⟨_, rfl⟩
theorem rep_eq : ∀ (k j : Nat) (u v : List Nat), Sep u → Sep v → List.replicate k 97 ++ u = List.replicate j 97 ++ v → k = j ∧ u = v
  | 0, 0, u, v, _, _, h => ⟨rfl, by simpa using h⟩
  | 0, j + 1, u, v, hu, _, h => by
    rcases hu with rfl | ⟨r, rfl⟩
    · simp [List.replicate_succ] at h
    · simp [List.replicate_succ] at h
  | k + 1, 0, u, v, _, hv, h => by
    rcases hv with rfl | ⟨r, rfl⟩
    · simp [List.replicate_succ] at h
    · simp [List.replicate_succ] at h
  | k + 1, j + 1, u, v, hu, hv, h => by
    have h' : List.replicate k 97 ++ u = List.replicate j 97 ++ v := by
      simpa [List.replicate_succ] using h
    obtain ⟨e, e2⟩ := rep_eq k j u v hu hv h'
    exact ⟨by omega, e2⟩
theorem enc_inj : ∀ (K J : List Nat), encL K = encL J → K = J
  | [], [], _ => rfl
  | [], _ :: _, h => by cases h
  | _ :: _, [], h => by cases h
  | k :: ks, j :: js, h => by
    have h' : List.replicate k 97 ++ encL ks = List.replicate j 97 ++ encL js := (List.cons.inj h).2
    obtain ⟨e, e2⟩ := rep_eq k j _ _ (sep_enc ks) (sep_enc js) h'
    rw [e, enc_inj ks js e2]
theorem enc_prefix : ∀ (K J r : List Nat), encL K ++ 47 :: r = encL J → ∃ Z, J = K ++ Z
  | [], J, _, _ => ⟨J, rfl⟩
  | _ :: _, [], _, h => by cases h
  | k :: ks, j :: js, r, h => by
    have h' : List.replicate k 97 ++ (encL ks ++ 47 :: r) = List.replicate j 97 ++ encL js := by
      have := (List.cons.inj h).2
      simpa using this
    have hs : Sep (encL ks ++ 47 :: r) := by
      rcases sep_enc ks with e | ⟨q, e⟩ <;> rw [e]
      · exact .inr ⟨r, rfl⟩
      · exact .inr ⟨_, rfl⟩
    obtain ⟨e, e2⟩ := rep_eq k j _ _ hs (sep_enc js) h'
    obtain ⟨Z, hZ⟩ := enc_prefix ks js r e2
    exact ⟨Z, by rw [e, hZ]; rfl⟩
theorem app_cps (x y : PySem.Str) : (x ++ y).cps.toList = x.cps.toList ++ y.cps.toList := by
  rw [PySem.Str.cps_append]; simp
theorem slS_cps : slS.cps.toList = [47] := by decide +kernel
theorem aS_cps (c : Int) : (aS c).cps.toList = List.replicate c.toNat 97 := by
  have e : Str.ofString "a" = ⟨#[97]⟩ := by decide +kernel
  show (Txt.mul (Str.ofString "a") c).cps.toList = _
  rw [e]
  exact mul_one_list 97 c
theorem path_nil : IsPath (Str.ofString "") [] := ⟨by decide +kernel, fun _ h => nomatch h⟩
theorem path_snoc {x : PySem.Str} {K : List Nat} {c : Int} (h : IsPath x K) (hc : 1 ≤ c) : IsPath (x ++ slS ++ aS c) (K ++ [c.toNat]) := by
  refine ⟨?_, fun k hk => ?_⟩
  · rw [app_cps, app_cps, slS_cps, aS_cps, h.1, encL_append]
    simp [encL]
  · rcases List.mem_append.mp hk with hk | hk
    · exact h.2 k hk
    · rw [List.mem_singleton.mp hk]; omega
theorem path_eq {x y : PySem.Str} {K : List Nat} (h : IsPath x K) (h2 : IsPath y K) : x = y := by
  have : x.cps.toList = y.cps.toList := h.1.trans h2.1.symm
  exact PySem.Str.ext' (Array.toList_inj.mp this)
theorem path_inj {x : PySem.Str} {K J : List Nat} (h : IsPath x K) (h2 : IsPath x J) : K = J := enc_inj _ _ (h.1.symm.trans h2.1)
theorem starts_iff (x y : PySem.Str) : Txt.startswith x y = true ↔ y.cps.toList <+: x.cps.toList := by
  unfold Txt.startswith
  rw [StrLaws.subAt_eq]
  simp only [List.drop_zero, Bool.and_eq_true, decide_eq_true_eq, beq_iff_eq, Nat.zero_add]
  constructor
  · rintro ⟨_, h⟩
    rw [← h]
    exact List.take_prefix _ _
  · intro h
    have hl := h.length_le
    refine ⟨by simpa [PySem.Str.length] using hl, ?_⟩
    obtain ⟨t, e⟩ := h
    rw [← e]
    simp [PySem.Str.length]
theorem last_enc : ∀ (K : List Nat), (∀ k ∈ K, 1 ≤ k) → (encL K).getLast? ≠ some 47
  | [], _ => by simp [encL]
  | [k], h => by
    have : 1 ≤ k := h k (by simp)
    obtain ⟨n, rfl⟩ : ∃ n, k = n + 1 := ⟨k - 1, by omega⟩
    have e : encL [n + 1] = (47 :: List.replicate n 97) ++ [97] := by simp [encL, List.replicate_succ']
    rw [e, List.getLast?_append]
    simp
  | k :: j :: js, h => by
    have ih := last_enc (j :: js) fun x hx => h x (by simp at hx ⊢; exact .inr hx)
    have e : encL (k :: j :: js) = (47 :: List.replicate k 97) ++ encL (j :: js) := rfl
    rw [e, List.getLast?_append]
    have hne : encL (j :: js) ≠ [] := by simp [encL]
    rw [List.getLast?_eq_some_getLast hne] at ih ⊢
    simpa using ih
theorem slice_last (x : PySem.Str) : Txt.slice x (some (-1)) none = ⟨(x.cps.toList.drop (x.length - 1)).toArray⟩ := by
  have hl : x.cps.toList.length = x.length := by simp [PySem.Str.length]
  have key : Builtin.Str.strSliceIndices (some (-1)) none 1 x.length = Builtin.Str.strSliceIndices (some ((x.length - 1 : Nat) : Int)) (some (x.length : Int)) 1 x.length := by
    rw [PySem.StrLaws.sliceIdx_none_hi]
    have e : max (0 : Int) (min (-1 + (x.length : Int)) (x.length : Int)) = max 0 (min ((x.length - 1 : Nat) : Int) (x.length : Int)) := by omega
    have n1 : ¬ (((x.length - 1 : Nat) : Int) < 0) := by omega
    simp only [Builtin.Str.strSliceIndices, n1, if_false]
    simp only [show (-1 : Int) < 0 by decide, if_true, show (1 : Int) > 0 by decide, e]
  have h2 := PySem.StrLaws.sliceText_nat x (a := x.length - 1) (b := x.length) (by omega) (Nat.le_refl _)
  unfold PySem.StrLaws.sliceText at h2
  unfold Txt.slice
  rw [key, h2]
  congr 1
  have hd : (x.cps.toList.drop (x.length - 1)).length ≤ x.length - (x.length - 1) := by rw [List.length_drop, hl]; exact Nat.le_refl _
  rw [List.take_of_length_le hd]
theorem not_slash {x : PySem.Str} {K : List Nat} (h : IsPath x K) : (Txt.slice x (some (-1)) none != Str.ofString "/") = true := by
  have e : Str.ofString "/" = ⟨#[47]⟩ := by decide +kernel
  rw [slice_last, e]
  rw [bne_iff_ne]
  intro q
  have q2 : x.cps.toList.drop (x.length - 1) = [47] := by
    have := congrArg (fun z : PySem.Str => z.cps.toList) q
    simpa using this
  have hl := last_enc K h.2
  rw [← h.1] at hl
  apply hl
  have hx : x.cps.toList = x.cps.toList.take (x.length - 1) ++ [47] := by rw [← q2, List.take_append_drop]
  rw [hx, List.getLast?_append]
  rfl
theorem sub_iff {p h : PySem.Str} {K J : List Nat} (hp : IsPath p K) (hh : IsPath h J) : sub p h = true ↔ ∃ Z, J = K ++ Z := by
  unfold sub
  rw [not_slash hp]
  simp only [if_true, Bool.or_eq_true, beq_iff_eq]
  rw [starts_iff, app_cps, hp.1, hh.1]
  constructor
  · rintro (rfl | ⟨r, e⟩)
    · exact ⟨[], by rw [List.append_nil]; exact path_inj hh hp⟩
    · have e1 : (Str.ofString "/").cps.toList = [47] := by decide +kernel
      rw [e1] at e
      exact enc_prefix K J r (by simpa using e)
  · rintro ⟨Z, rfl⟩
    cases Z with
    | nil => exact .inl (path_eq hp (by rw [List.append_nil] at hh; exact hh))
    | cons z zs =>
      refine .inr ⟨List.replicate z 97 ++ encL zs, ?_⟩
      have e1 : (Str.ofString "/").cps.toList = [47] := by decide +kernel
      rw [e1, encL_append]
      simp [encL]
end
section
open PySem PySem.W PyProof.Rows PySem.W.X PySem.Calls
set_option autoImplicit false
set_option maxRecDepth 100000
set_option maxHeartbeats 8000000
def hasP (pre : PySem.Str) (e : Ent) : Bool := e.p == pre
/-- the places of the open ones, from the root's outside in -/
structure IsLine (line : List PySem.Str) (K : List Nat) : Prop where
  len : line.length = K.length + 1
  at' : ∀ j x, line[j]? = some x → IsPath x (K.take j)
theorem enc_len_lt : ∀ (K : List Nat) (a b : Nat), a < b → b ≤ K.length → (encL (K.take a)).length < (encL (K.take b)).length := by
  intro K a b h hb
  have e : K.take b = K.take a ++ (K.drop a).take (b - a) := by
    rw [← List.take_append_drop a K]
    rw [List.take_append_drop]
    have : b = a + (b - a) := by omega
    rw [this, List.take_add]
    simp
  rw [e, encL_append, List.length_append]
  have hne : (K.drop a).take (b - a) ≠ [] := by
    intro q
    have := congrArg List.length q
    simp at this
    omega
  cases hq : (K.drop a).take (b - a) with
  | nil => exact absurd hq hne
  | cons x xs => simp [encL]
theorem line_len {line : List PySem.Str} {K : List Nat} (h : IsLine line K) {a b : Nat} {x y : PySem.Str} (ha : line[a]? = some x) (hb : line[b]? = some y) : x.length < y.length ↔ a < b := by
  have la := (List.getElem?_eq_some_iff.mp ha).1
  have lb := (List.getElem?_eq_some_iff.mp hb).1
  have hK := h.len
  have ex : x.length = (encL (K.take a)).length := by rw [← (h.at' a x ha).1]; simp [PySem.Str.length]
  have ey : y.length = (encL (K.take b)).length := by rw [← (h.at' b y hb).1]; simp [PySem.Str.length]
  rcases Nat.lt_trichotomy a b with hlt | rfl | hlt
  · have := enc_len_lt K a b hlt (by omega)
    omega
  · omega
  · have := enc_len_lt K b a hlt (by omega)
    omega
/-- a place that covers the open one is one of the line -/
theorem sub_line {line : List PySem.Str} {K Kp : List Nat} {cur p : PySem.Str} (h : IsLine line K) (hc : IsPath cur K) (hp : IsPath p Kp) : sub p cur = true ↔ ∃ j : Nat, line[j]? = some p := by
  rw [sub_iff hp hc]
  constructor
  · rintro ⟨Z, e⟩
    have hj : Kp.length < line.length := by rw [h.len, e, List.length_append]; omega
    refine ⟨Kp.length, ?_⟩
    rw [List.getElem?_eq_getElem hj]
    have := h.at' Kp.length _ (List.getElem?_eq_getElem hj)
    rw [e, List.take_left' rfl] at this
    rw [path_eq this hp]
  · rintro ⟨j, e⟩
    have := path_inj hp (h.at' j p e)
    rw [this]
    exact ⟨K.drop j, (List.take_append_drop j K).symm⟩
abbrev dText (u : PySem.Str) : PySem.Str := Str.ofString "{" ++ u ++ Str.ofString "}x"
abbrev atJ (pre : PySem.Str) (x : PySem.Str) (ts : List Tel) : List Tel := ts.filter fun e => decide (e.word = pre) && decide (e.place = x)
/-- what the fold of _law_due has after some tellings -/
def DueInv (pre : PySem.Str) (line : List PySem.Str) (ts : List Tel) (d : DueSt) : Prop :=
  ((∀ (j : Nat) x, line[j]? = some x → atJ pre x ts = []) ∧ d = dueStart pre) ∨
  ∃ (j : Nat) (x : PySem.Str) (e : Tel), line[j]? = some x ∧ (atJ pre x ts).head? = some e ∧ (∀ (j' : Nat) y, j < j' → line[j']? = some y → atJ pre y ts = []) ∧ d = ⟨x.length, some (dText e.uri)⟩
theorem atJ_snoc {pre x : PySem.Str} {ts : List Tel} {e : Tel} : atJ pre x (ts ++ [e]) = atJ pre x ts ++ (if e.word = pre ∧ e.place = x then [e] else []) := by
  unfold atJ
  rw [List.filter_append]
  by_cases h1 : e.word = pre <;> by_cases h2 : e.place = x <;> simp [h1, h2]
theorem due_step {pre cur : PySem.Str} {line : List PySem.Str} {K : List Nat} (hl : IsLine line K) (hc : IsPath cur K) {ts : List Tel} {e : Tel} {d : DueSt} {Kp : List Nat} (hKp : IsPath e.place Kp) (hih : DueInv pre line ts d) : DueInv pre line (ts ++ [e]) (dueStep pre cur d e) := by
  unfold dueStep
  by_cases hm : e.word = pre ∧ sub e.place cur = true
  · obtain ⟨hw, hs⟩ := hm
    obtain ⟨j0, hj0⟩ := (sub_line hl hc hKp).mp hs
    rcases hih with ⟨hno, rfl⟩ | ⟨j, x, e1, hj, hh, hno, rfl⟩
    · rw [if_pos ⟨hw, by show (-1 : Int) < _; omega, hs⟩]
      refine .inr ⟨j0, e.place, e, hj0, ?_, ?_, rfl⟩
      · rw [atJ_snoc, if_pos ⟨hw, rfl⟩, hno j0 _ hj0]; rfl
      · intro j' y hlt hy
        rw [atJ_snoc, hno j' y hy, if_neg]
        · rfl
        · rintro ⟨_, q⟩
          have := (line_len hl hj0 hy).mpr hlt
          rw [q] at this; omega
    · by_cases hlt : j < j0
      · have hl2 := (line_len hl hj hj0).mpr hlt
        rw [if_pos ⟨hw, by show ((x.length : Nat) : Int) < _; omega, hs⟩]
        refine .inr ⟨j0, e.place, e, hj0, ?_, ?_, rfl⟩
        · rw [atJ_snoc, if_pos ⟨hw, rfl⟩, hno j0 _ hlt hj0]; rfl
        · intro j' y hlt' hy
          rw [atJ_snoc, hno j' y (by omega) hy, if_neg]
          · rfl
          · rintro ⟨_, q⟩
            have := (line_len hl hj0 hy).mpr hlt'
            rw [q] at this; omega
      · have hl2 : ¬ x.length < e.place.length := fun q => hlt ((line_len hl hj hj0).mp q)
        rw [if_neg (fun q => hl2 (by have := q.2.1; dsimp only at this; omega))]
        refine .inr ⟨j, x, e1, hj, ?_, ?_, rfl⟩
        · rw [atJ_snoc, List.head?_append, hh]; rfl
        · intro j' y hlt' hy
          rw [atJ_snoc, hno j' y hlt' hy, if_neg]
          · rfl
          · rintro ⟨_, q⟩
            have h1 : j0 < j' := by omega
            have := (line_len hl hj0 hy).mpr h1
            rw [q] at this; omega
  · rw [if_neg (fun q => hm ⟨q.1, q.2.2⟩)]
    have same : ∀ j x, line[j]? = some x → atJ pre x (ts ++ [e]) = atJ pre x ts := fun j x hx => by
      rw [atJ_snoc, if_neg, List.append_nil]
      rintro ⟨h1, h2⟩
      exact hm ⟨h1, (sub_line hl hc hKp).mpr ⟨j, by rw [h2]; exact hx⟩⟩
    rcases hih with ⟨hno, rfl⟩ | ⟨j, x, e1, hj, hh, hno, rfl⟩
    · exact .inl ⟨fun j x hx => (same j x hx).trans (hno j x hx), rfl⟩
    · exact .inr ⟨j, x, e1, hj, by rw [same j x hj]; exact hh, fun j' y h1 h2 => (same j' y h2).trans (hno j' y h1 h2), rfl⟩
theorem due_go {pre cur : PySem.Str} {line : List PySem.Str} {K : List Nat} (hl : IsLine line K) (hc : IsPath cur K) : ∀ (ts acc : List Tel) (d : DueSt), (∀ e ∈ ts, ∃ Kp, IsPath e.place Kp) → DueInv pre line acc d → DueInv pre line (acc ++ ts) (ts.foldl (dueStep pre cur) d)
  | [], acc, d, _, h => by rw [List.append_nil]; exact h
  | e :: ts, acc, d, hp, h => by
    obtain ⟨Kp, hKp⟩ := hp e (by simp)
    have := due_go hl hc ts (acc ++ [e]) (dueStep pre cur d e) (fun x hx => hp x (by simp [hx])) (due_step hl hc hKp h)
    rw [List.append_assoc] at this
    exact this
theorem due_inv {pre cur : PySem.Str} {line : List PySem.Str} {K : List Nat} (hl : IsLine line K) (hc : IsPath cur K) (ts : List Tel) (hp : ∀ e ∈ ts, ∃ Kp, IsPath e.place Kp) : DueInv pre line ts (ts.foldl (dueStep pre cur) (dueStart pre)) := by
  have := due_go (pre := pre) hl hc ts [] (dueStart pre) hp (.inl ⟨fun _ _ _ => rfl, rfl⟩)
  exact this
/-- what the writer's lists hold, place by place -/
def Held2 (line : List PySem.Str) (rest : List (List Ent)) (ts : List Tel) : Prop := rest.length = line.length ∧ ∀ (j : Nat) x es, line[j]? = some x → rest[j]? = some es → es.map (fun e => (e.uri, e.p)) = (ts.filter fun e => decide (e.place = x)).map fun e => (e.uri, e.word)
theorem find_held {pre x : PySem.Str} : ∀ (es : List Ent) (ts : List Tel), es.map (fun e => (e.uri, e.p)) = (ts.filter fun e => decide (e.place = x)).map (fun e => (e.uri, e.word)) →
    (es.find? (hasP pre)).map (fun e => dText e.uri) = (atJ pre x ts).head?.map (fun e => dText e.uri) := by
  intro es ts h
  have h1 : ∀ (es : List Ent), (es.find? (hasP pre)).map (fun e => dText e.uri) = ((es.map fun e => (e.uri, e.p)).find? fun q => q.2 == pre).map fun q => dText q.1 := by
    intro es
    rw [List.find?_map]
    cases hq : es.find? (hasP pre) with
    | none =>
      have : es.find? ((fun q : PySem.Str × PySem.Str => q.2 == pre) ∘ fun e : Ent => (e.uri, e.p)) = none := hq
      rw [this]; rfl
    | some e =>
      have : es.find? ((fun q : PySem.Str × PySem.Str => q.2 == pre) ∘ fun e : Ent => (e.uri, e.p)) = some e := hq
      rw [this]; rfl
  rw [h1, h, List.find?_map]
  have h2 : atJ pre x ts = (ts.filter fun e => decide (e.place = x)).filter fun e => e.word == pre := by
    rw [List.filter_filter]
    congr 1
  rw [h2, List.head?_filter]
  cases hq : (ts.filter fun e => decide (e.place = x)).find? (fun e => e.word == pre) with
  | none =>
    have : (ts.filter fun e => decide (e.place = x)).find? ((fun q : PySem.Str × PySem.Str => q.2 == pre) ∘ fun e : Tel => (e.uri, e.word)) = none := hq
    rw [this]; rfl
  | some e =>
    have : (ts.filter fun e => decide (e.place = x)).find? ((fun q : PySem.Str × PySem.Str => q.2 == pre) ∘ fun e : Tel => (e.uri, e.word)) = some e := hq
    rw [this]; rfl
/-- the search through the lists from behind -/
def seek (pre : PySem.Str) (l : List (List Ent)) (tail : List Ent) : Option Ent := (l.reverse.flatten ++ tail).find? (hasP pre)
theorem seek_snoc {pre : PySem.Str} {l : List (List Ent)} {x tail : List Ent} : seek pre (l ++ [x]) tail = (x.find? (hasP pre)).or (seek pre l tail) := by
  unfold seek
  rw [List.reverse_append, List.reverse_singleton, List.singleton_append, List.flatten_cons, List.append_assoc, List.find?_append]
theorem seek_none {pre : PySem.Str} {l : List (List Ent)} {tail : List Ent} (n : Nat) (h : ∀ (j : Nat) es, n ≤ j → l[j]? = some es → es.find? (hasP pre) = none) : seek pre l tail = seek pre (l.take n) tail := by
  have go : ∀ k, n + k ≤ l.length → seek pre (l.take (n + k)) tail = seek pre (l.take n) tail := by
    intro k
    induction k with
    | zero => intro _; rfl
    | succ k ih =>
      intro hk
      have hlt : n + k < l.length := by omega
      rw [show n + (k + 1) = (n + k) + 1 by omega, List.take_succ_eq_append_getElem hlt, seek_snoc, h (n + k) _ (by omega) (List.getElem?_eq_getElem hlt), Option.none_or]
      exact ih (by omega)
  by_cases hn : n ≤ l.length
  · have := go (l.length - n) (by omega)
    rw [show n + (l.length - n) = l.length by omega, List.take_length] at this
    exact this
  · rw [List.take_of_length_le (by omega)]
theorem law_eq {pre cur : PySem.Str} {line : List PySem.Str} {K : List Nat} {rest : List (List Ent)} {nsE : List Ent} {ts : List Tel} (hl : IsLine line K) (hc : IsPath cur K) (hp : ∀ e ∈ ts, ∃ Kp, IsPath e.place Kp) (hr : Held2 line rest ts)
    (hpre : pre = Str.ofString "p" ∨ pre = Str.ofString "xs")
    (hns : nsE.map (fun e => (e.uri, e.p)) = [(Str.ofString "http://www.w3.org/XML/1998/namespace", Str.ofString "xml"), (Str.ofString "http://www.w3.org/1999/xhtml", Str.ofString "html"), (Str.ofString "http://www.w3.org/1999/02/22-rdf-syntax-ns#", Str.ofString "rdf"), (Str.ofString "http://schemas.xmlsoap.org/wsdl/", Str.ofString "wsdl"), (Str.ofString "http://www.w3.org/2001/XMLSchema", Str.ofString "xs"), (Str.ofString "http://www.w3.org/2001/XMLSchema-instance", Str.ofString "xsi"), (Str.ofString "http://purl.org/dc/elements/1.1/", Str.ofString "dc")]) :
    meant pre (rest.reverse.flatten ++ nsE) = due pre cur ts := by
  have hm : ∀ es, meant pre es = (es.find? (hasP pre)).map fun e => dText e.uri := fun _ => rfl
  have hdef : (nsE.find? (hasP pre)).map (fun e => dText e.uri) = (dueStart pre).found := by
    have h1 : (nsE.find? (hasP pre)).map (fun e => dText e.uri) = ((nsE.map fun e => (e.uri, e.p)).find? fun q => q.2 == pre).map fun q => dText q.1 := by
      rw [List.find?_map]
      cases hq : nsE.find? (hasP pre) with
      | none =>
        have : nsE.find? ((fun q : PySem.Str × PySem.Str => q.2 == pre) ∘ fun e : Ent => (e.uri, e.p)) = none := hq
        rw [this]; rfl
      | some e =>
        have : nsE.find? ((fun q : PySem.Str × PySem.Str => q.2 == pre) ∘ fun e : Ent => (e.uri, e.p)) = some e := hq
        rw [this]; rfl
    rw [h1, hns]
    rcases hpre with rfl | rfl <;> decide +kernel
  rw [hm, ← List.nil_append nsE] 
  unfold due
  have hinv := due_inv (pre := pre) hl hc ts hp
  generalize ts.foldl (dueStep pre cur) (dueStart pre) = d at hinv
  show Option.map _ (seek pre rest ([] ++ nsE)) = _
  rw [List.nil_append]
  have each : ∀ (j : Nat) x es, line[j]? = some x → rest[j]? = some es → (es.find? (hasP pre)).map (fun e => dText e.uri) = (atJ pre x ts).head?.map (fun e => dText e.uri) := fun j x es h1 h2 => find_held es ts (hr.2 j x es h1 h2)
  have lineOf : ∀ (j : Nat) es, rest[j]? = some es → ∃ x, line[j]? = some x := fun j es h => by
    have := (List.getElem?_eq_some_iff.mp h).1
    exact ⟨line[j]'(by rw [← hr.1]; exact this), List.getElem?_eq_getElem _⟩
  rcases hinv with ⟨hno, rfl⟩ | ⟨j, x, e, hj, hh, hno, rfl⟩
  · rw [seek_none 0]
    · rw [List.take_zero]
      show Option.map _ (nsE.find? (hasP pre)) = _
      exact hdef
    · intro j es _ hes
      obtain ⟨x, hx⟩ := lineOf j es hes
      have := each j x es hx hes
      rw [hno j x hx] at this
      simpa using this
  · have hjl : j < rest.length := by rw [hr.1]; exact (List.getElem?_eq_some_iff.mp hj).1
    rw [seek_none (j + 1)]
    · rw [List.take_succ_eq_append_getElem hjl, seek_snoc]
      have := each j x _ hj (List.getElem?_eq_getElem hjl)
      rw [hh] at this
      cases hf : (rest[j]).find? (hasP pre) with
      | none => rw [hf] at this; cases this
      | some e2 => rw [hf] at this; rw [Option.some_or]; exact this
    · intro j' es hlt hes
      obtain ⟨y, hy⟩ := lineOf j' es hes
      have := each j' y es hy hes
      rw [hno j' y (by omega) hy] at this
      simpa using this
end
section
open PySem PySem.W PyProof.Rows PySem.W.X PySem.Calls
set_option autoImplicit false
set_option maxRecDepth 100000
set_option maxHeartbeats 8000000
/-- a child's path tells its parent and its number -/
theorem child_inj {x y : PySem.Str} {K J : List Nat} {k j : Int} (hx : IsPath x K) (hy : IsPath y J) (hk : 1 ≤ k) (hj : 1 ≤ j) (h : x ++ slS ++ aS k = y ++ slS ++ aS j) : x = y ∧ k = j := by
  have h1 := path_snoc hx hk
  rw [h] at h1
  have h2 := path_inj h1 (path_snoc hy hj)
  obtain ⟨e1, e2⟩ := List.append_inj' h2 rfl
  subst e1
  refine ⟨path_eq hx hy, ?_⟩
  have := (List.cons.inj e2).1
  omega
theorem child_len {x : PySem.Str} {k : Int} : x.length < (x ++ slS ++ aS k).length := by
  rw [PySem.Str.length_append, PySem.Str.length_append, show slS.length = 1 from by decide +kernel]
  omega
theorem child_ne {x : PySem.Str} {k : Int} : x ++ slS ++ aS k ≠ x := path_ne
theorem grand_ne {x : PySem.Str} {k j : Int} : x ++ slS ++ aS k ++ slS ++ aS j ≠ x := fun h => by
  have h1 := child_len (x := x ++ slS ++ aS k) (k := j)
  have h2 := child_len (x := x) (k := k)
  rw [h] at h1
  omega
/-- which paths have begun -/
structure CntOk (cnt : PySem.Str → Option Int) : Prop where
  some' : ∀ x K c, IsPath x K → cnt x = some c → 0 ≤ c ∧ ∀ k : Int, c < k → cnt (x ++ slS ++ aS k) = none
  none' : ∀ x K, IsPath x K → cnt x = none → ∀ k : Int, 1 ≤ k → cnt (x ++ slS ++ aS k) = none
theorem cntOk_start : CntOk dStart.cnt := by
  refine ⟨fun x K c hx h => ?_, fun x K hx h k hk => ?_⟩
  · unfold dStart at h ⊢
    dsimp only at h ⊢
    by_cases e : x = Str.ofString ""
    · rw [if_pos e] at h
      cases h
      refine ⟨Int.le_refl _, fun k hk => ?_⟩
      rw [if_neg]
      intro q
      exact child_ne (q.trans e.symm)
    · rw [if_neg e] at h; cases h
  · unfold dStart
    dsimp only
    rw [if_neg]
    intro q
    have h1 := child_len (x := x) (k := k)
    rw [q] at h1
    have : (Str.ofString "").length = 0 := by decide +kernel
    omega
theorem cntOk_step {cnt : PySem.Str → Option Int} {cur : PySem.Str} {K : List Nat} {c : Int} (h : CntOk cnt) (hp : IsPath cur K) (hc : cnt cur = some c) :
    CntOk (fun x => if x = cur ++ slS ++ aS (c + 1) then some 0 else if x = cur then some (c + 1) else cnt x) := by
  obtain ⟨hc0, hcn⟩ := h.some' cur K c hp hc
  have hy := hcn (c + 1) (by omega)
  have hyp := path_snoc hp (show (1 : Int) ≤ c + 1 by omega)
  refine ⟨fun x Kx d hx hd => ?_, fun x Kx hx hd k hk => ?_⟩
  · by_cases e1 : x = cur ++ slS ++ aS (c + 1)
    · rw [if_pos e1] at hd
      cases hd
      subst e1
      refine ⟨Int.le_refl _, fun k hk => ?_⟩
      rw [if_neg child_ne, if_neg grand_ne]
      exact h.none' _ _ hyp hy k (by omega)
    · rw [if_neg e1] at hd
      by_cases e2 : x = cur
      · rw [if_pos e2] at hd
        cases hd
        subst e2
        refine ⟨by omega, fun k hk => ?_⟩
        rw [if_neg, if_neg child_ne]
        · exact hcn k (by omega)
        · intro q
          have := (child_inj hp hp (show (1 : Int) ≤ k by omega) (show (1 : Int) ≤ c + 1 by omega) q).2
          omega
      · rw [if_neg e2] at hd
        obtain ⟨d0, dn⟩ := h.some' x Kx d hx hd
        refine ⟨d0, fun k hk => ?_⟩
        rw [if_neg, if_neg]
        · exact dn k hk
        · intro q
          have := dn k hk
          rw [q, hc] at this
          cases this
        · intro q
          exact e2 (child_inj hx hp (show (1 : Int) ≤ k by omega) (show (1 : Int) ≤ c + 1 by omega) q).1
  · by_cases e1 : x = cur ++ slS ++ aS (c + 1)
    · rw [if_pos e1] at hd; cases hd
    rw [if_neg e1] at hd
    by_cases e2 : x = cur
    · rw [if_pos e2] at hd; cases hd
    rw [if_neg e2] at hd
    have hn := h.none' x Kx hx hd k hk
    rw [if_neg, if_neg]
    · exact hn
    · intro q
      rw [q, hc] at hn
      cases hn
    · intro q
      exact e2 (child_inj hx hp hk (show (1 : Int) ≤ c + 1 by omega) q).1
/-- the tellings and the writer's lists, in plain words -/
structure PlainOk (i : Nat) (st : DSt) (rest : List (List Ent)) (ts : List Tel) : Prop where
  line : ∃ K, IsLine (st.pre ++ [st.cur]) K
  cnt : CntOk st.cnt
  bd : DBd i st
  held : Held2 (st.pre ++ [st.cur]) rest ts
  tl : ∀ e ∈ ts, (∃ Kp, IsPath e.place Kp) ∧ st.cnt e.place ≠ none
theorem line_cur {pre : List PySem.Str} {cur : PySem.Str} {K : List Nat} (h : IsLine (pre ++ [cur]) K) : IsPath cur K := by
  have e : pre.length = K.length := by have := h.len; simp at this; exact this
  have := h.at' pre.length cur (by simp)
  rw [e, List.take_length] at this
  exact this
theorem line_snoc {line : List PySem.Str} {K : List Nat} {k : Nat} {y : PySem.Str} (h : IsLine line K) (hy : IsPath y (K ++ [k])) : IsLine (line ++ [y]) (K ++ [k]) := by
  refine ⟨by simp [h.len], fun j x hx => ?_⟩
  by_cases hj : j < line.length
  · rw [List.getElem?_append_left hj] at hx
    have := h.at' j x hx
    rw [List.take_append_of_le_length (by have := h.len; omega)]
    exact this
  · have hl : j < (line ++ [y]).length := (List.getElem?_eq_some_iff.mp hx).1
    have hl2 : (line ++ [y]).length = line.length + 1 := by simp
    have e : j = line.length := by omega
    subst e
    have hx2 : y = x := by simpa using hx
    subst hx2
    rw [List.take_of_length_le (by simp [h.len])]
    exact hy
theorem line_init {pre : List PySem.Str} {cur : PySem.Str} {K : List Nat} (h : IsLine (pre ++ [cur]) K) (hp : pre ≠ []) : IsLine pre K.dropLast := by
  have hl : pre.length = K.length := by have := h.len; simp at this; exact this
  have hp' : pre.length ≠ 0 := fun q => hp (List.length_eq_zero_iff.mp q)
  refine ⟨by rw [List.length_dropLast]; omega, fun j x hx => ?_⟩
  have hj := (List.getElem?_eq_some_iff.mp hx).1
  have := h.at' j x (by rw [List.getElem?_append_left hj]; exact hx)
  rw [List.dropLast_eq_take, List.take_take, Nat.min_eq_left (by omega)]
  exact this
theorem line_inj {line : List PySem.Str} {K : List Nat} (h : IsLine line K) {a b : Nat} {x : PySem.Str} (ha : line[a]? = some x) (hb : line[b]? = some x) : a = b := by
  have h1 := line_len h ha hb
  have h2 := line_len h hb ha
  have h3 : ¬ x.length < x.length := Nat.lt_irrefl _
  rcases Nat.lt_trichotomy a b with q | q | q
  · exact absurd (h1.mpr q) h3
  · exact q
  · exact absurd (h2.mpr q) h3
theorem plain_start (nl : List Ent) (hn : nl = []) : PlainOk 0 dStart [nl] [] := by
  subst hn
  refine ⟨⟨[], rfl, ?_⟩, cntOk_start, ⟨Nat.le_refl _, ?_, ?_, rfl⟩, ⟨rfl, ?_⟩, fun _ h => nomatch h⟩
  · intro j x hx
    have hj := (List.getElem?_eq_some_iff.mp hx).1
    have : j = 0 := by simp [dStart] at hj; exact hj
    subst this
    have : x = Str.ofString "" := by simpa [dStart] using hx.symm
    subst this
    exact path_nil
  · intro x hx
    rw [List.mem_singleton.mp hx]
    show (Str.ofString "").length ≤ 20 * 0
    decide +kernel
  · intro x hx
    rw [List.mem_singleton.mp hx]
    exact ⟨0, by simp [dStart], by omega, by omega⟩
  · intro j x es hx hes
    have hj := (List.getElem?_eq_some_iff.mp hes).1
    have : j = 0 := by simpa using hj
    subst this
    have : es = [] := by simpa using hes.symm
    subst this
    rfl
theorem plain_A {i : Nat} {st : DSt} {rest : List (List Ent)} {ts : List Tel} {z c : Int} (h : PlainOk i st rest ts) (hi : i ≤ 13) (hz : z.fmod 4 = 0) (hc : st.cnt st.cur = some c) : PlainOk (i + 1) (dStep st z) (rest ++ [[]]) ts := by
  obtain ⟨⟨K, hl⟩, hcnt, hbd, hheld, htl⟩ := h
  have hb2 := dBd_step z hbd hi
  obtain ⟨pre, cur, cnt, out⟩ := st
  dsimp only at hc hl hcnt hheld htl
  have hcur := line_cur hl
  rw [dStep_A hz hc] at hb2 ⊢
  obtain ⟨hc0, hcn⟩ := hcnt.some' cur K c hcur hc
  have hy := hcn (c + 1) (by omega)
  have hyp := path_snoc hcur (show (1 : Int) ≤ c + 1 by omega)
  have hl2 := line_snoc hl hyp
  refine ⟨⟨_, hl2⟩, cntOk_step hcnt hcur hc, hb2, ⟨?_, ?_⟩, fun e he => ?_⟩
  · dsimp only
    have := hheld.1
    simp only [List.length_append, List.length_singleton] at this ⊢
    omega
  · intro j x es hx hes
    dsimp only at hx
    by_cases hj : j < rest.length
    · rw [List.getElem?_append_left hj] at hes
      rw [List.getElem?_append_left (by rw [← hheld.1]; exact hj)] at hx
      exact hheld.2 j x es hx hes
    · have hj2 := (List.getElem?_eq_some_iff.mp hes).1
      have hj3 : (rest ++ [([] : List Ent)]).length = rest.length + 1 := by simp
      have e : j = rest.length := by omega
      subst e
      have e1 : es = [] := by simpa using hes.symm
      subst e1
      rw [hheld.1] at hx
      have e2 : cur ++ slS ++ aS (c + 1) = x := by simpa using hx
      subst e2
      have : ts.filter (fun e => decide (e.place = cur ++ slS ++ aS (c + 1))) = [] := by
        rw [List.filter_eq_nil_iff]
        intro e he q
        have q2 : e.place = cur ++ slS ++ aS (c + 1) := by simpa using q
        have := (htl e he).2
        rw [q2, hy] at this
        exact this rfl
      rw [this]
      rfl
  · refine ⟨(htl e he).1, ?_⟩
    dsimp only
    split
    · exact fun q => by cases q
    · split
      · exact fun q => by cases q
      · exact (htl e he).2
theorem pre_split {pre : List PySem.Str} (h : 1 < pre.length) : pre.dropLast ++ [pre.getLastD Str.empty] = pre := by
  have hne : pre ≠ [] := fun q => by rw [q] at h; simp at h
  rw [List.getLastD_eq_getLast?, List.getLast?_eq_some_getLast hne]
  simp only [Option.getD_some]
  exact List.dropLast_concat_getLast hne
theorem plain_B {i : Nat} {st : DSt} {rest : List (List Ent)} {ts : List Tel} {z : Int} {es : List Ent} (h : PlainOk i st (rest ++ [es]) ts) (hi : i ≤ 13) (hz : z.fmod 4 = 1) (hp : 1 < st.pre.length) : PlainOk (i + 1) (dStep st z) rest ts := by
  obtain ⟨⟨K, hl⟩, hcnt, hbd, hheld, htl⟩ := h
  have hb2 := dBd_step z hbd hi
  obtain ⟨pre, cur, cnt, out⟩ := st
  dsimp only at hl hcnt hheld htl hp
  have hps := pre_split hp
  have hne : pre ≠ [] := fun q => by rw [q] at hp; simp at hp
  rw [dStep_B hz hp] at hb2 ⊢
  refine ⟨⟨K.dropLast, ?_⟩, hcnt, hb2, ?_, htl⟩
  · dsimp only
    rw [hps]
    exact line_init hl hne
  · dsimp only
    rw [hps]
    have hlen : rest.length = pre.length := by have := hheld.1; simp at this; exact this
    refine ⟨hlen, fun j x es' hx hes => hheld.2 j x es' ?_ ?_⟩
    · rw [List.getElem?_append_left (List.getElem?_eq_some_iff.mp hx).1]; exact hx
    · rw [List.getElem?_append_left (List.getElem?_eq_some_iff.mp hes).1]; exact hes
theorem plain_C {i : Nat} {st : DSt} {rest : List (List Ent)} {ts : List Tel} {z : Int} {es : List Ent} {e : Ent} {t : Tel} (h : PlainOk i st (rest ++ [es]) ts) (hi : i ≤ 13) (hz : ¬ z.fmod 4 = 0) (hp : ¬ (z.fmod 4 = 1 ∧ 1 < st.pre.length))
    (he1 : e.uri = t.uri) (he2 : e.p = t.word) (ht : t.place = st.cur) : PlainOk (i + 1) (dStep st z) (rest ++ [es ++ [e]]) (ts ++ [t]) := by
  obtain ⟨⟨K, hl⟩, hcnt, hbd, hheld, htl⟩ := h
  have hb2 := dBd_step z hbd hi
  obtain ⟨pre, cur, cnt, out⟩ := st
  dsimp only at hl hcnt hheld htl hp ht
  have hcur := line_cur hl
  rw [dStep_C hz hp] at hb2 ⊢
  have hlen : rest.length = pre.length := by have := hheld.1; simp at this; exact this
  refine ⟨⟨_, hl⟩, hcnt, hb2, ⟨by dsimp only; have := hheld.1; simp at this ⊢; exact this, ?_⟩, ?_⟩
  · intro j x es' hx hes
    dsimp only at hx
    rw [List.filter_append, List.map_append]
    by_cases hj : j < rest.length
    · rw [List.getElem?_append_left hj] at hes
      have hne : ¬ t.place = x := fun q => by
        have h1 : (pre ++ [cur])[pre.length]? = some cur := by simp
        have := line_inj hl hx (by rw [← q, ht]; exact h1)
        omega
      have := hheld.2 j x es' hx (by rw [List.getElem?_append_left hj]; exact hes)
      rw [this]
      simp [hne]
    · have hj2 := (List.getElem?_eq_some_iff.mp hes).1
      have hj3 : (rest ++ [es ++ [e]]).length = rest.length + 1 := by simp
      have ej : j = rest.length := by omega
      subst ej
      have e1 : es ++ [e] = es' := by simpa using hes
      subst e1
      have ex : cur = x := by rw [hlen] at hx; simpa using hx
      subst ex
      have := hheld.2 rest.length cur es (by rw [hlen]; simp) (by simp)
      rw [List.map_append, this]
      simp [ht, he1, he2]
  · intro e' he'
    rcases List.mem_append.mp he' with he' | he'
    · exact htl e' he'
    · rw [List.mem_singleton.mp he', ht]
      refine ⟨⟨K, hcur⟩, ?_⟩
      obtain ⟨c, q, _⟩ := hbd.cnt cur (by simp)
      rw [q]
      exact fun q => by cases q
/-- what the law asks holds -/
theorem plain_ask {i : Nat} {st : DSt} {rest : List (List Ent)} {nsE : List Ent} {ts : List Tel} {pre : PySem.Str} (h : PlainOk i st rest ts) (hpre : pre = Str.ofString "p" ∨ pre = Str.ofString "xs")
    (hns : nsE.map (fun e => (e.uri, e.p)) = [(Str.ofString "http://www.w3.org/XML/1998/namespace", Str.ofString "xml"), (Str.ofString "http://www.w3.org/1999/xhtml", Str.ofString "html"), (Str.ofString "http://www.w3.org/1999/02/22-rdf-syntax-ns#", Str.ofString "rdf"), (Str.ofString "http://schemas.xmlsoap.org/wsdl/", Str.ofString "wsdl"), (Str.ofString "http://www.w3.org/2001/XMLSchema", Str.ofString "xs"), (Str.ofString "http://www.w3.org/2001/XMLSchema-instance", Str.ofString "xsi"), (Str.ofString "http://purl.org/dc/elements/1.1/", Str.ofString "dc")]) :
    meant pre (rest.reverse.flatten ++ nsE) = due pre st.cur ts := by
  obtain ⟨⟨K, hl⟩, _, _, hheld, htl⟩ := h
  exact law_eq hl (line_cur hl) (fun e he => (htl e he).1) hheld hpre hns
/-- the deed of a turn -/
theorem deed_out : ∀ (zs : List Int) (st : DSt), ∃ more, (zs.foldl dStep st).out = st.out ++ more
  | [], st => ⟨[], by simp⟩
  | z :: zs, st => by
    obtain ⟨more, e⟩ := deed_out zs (dStep st z)
    obtain ⟨pd, e2⟩ : ∃ pd, (dStep st z).out = st.out ++ [pd] := by
      unfold dStep
      split
      · exact ⟨_, rfl⟩
      · split
        · exact ⟨_, rfl⟩
        · exact ⟨_, rfl⟩
    exact ⟨[pd] ++ more, by rw [List.foldl_cons, e, e2, List.append_assoc]⟩
theorem deed_at {zs : List Int} {i : Nat} {z : Int} {pd : PD} (hz : zs[i]? = some z) (ho : (dAt zs i).out.length = i) (h : (dRun zs).out[i]? = some pd) : (dStep (dAt zs i) z).out = (dAt zs i).out ++ [pd] := by
  obtain ⟨hi, e⟩ := List.getElem?_eq_some_iff.mp hz
  have h1 : dRun zs = (zs.drop (i + 1)).foldl dStep (dAt zs (i + 1)) := by
    unfold dRun dAt
    rw [← List.foldl_append, List.take_append_drop]
  obtain ⟨more, h2⟩ := deed_out (zs.drop (i + 1)) (dAt zs (i + 1))
  rw [← h1, dAt_succ hz] at h2
  obtain ⟨p, e2⟩ : ∃ pd, (dStep (dAt zs i) z).out = (dAt zs i).out ++ [pd] := by
    unfold dStep
    split
    · exact ⟨_, rfl⟩
    · split
      · exact ⟨_, rfl⟩
      · exact ⟨_, rfl⟩
  rw [h2, e2] at h
  rw [e2]
  have : ((dAt zs i).out ++ [p] ++ more)[i]? = some p := by
    rw [List.append_assoc, List.getElem?_append_right (by omega), ho]
    simp
  rw [this] at h
  cases h
  rfl
/-- the three kinds of turn -/
theorem deed_case {zs : List Int} {i : Nat} {z : Int} {pd : PD} (hz : zs[i]? = some z) (hb : DBd i (dAt zs i)) (h : (dRun zs).out[i]? = some pd) :
    (z.fmod 4 = 0 ∧ ∃ c, (dAt zs i).cnt (dAt zs i).cur = some c ∧ 0 ≤ c ∧ c ≤ i ∧ pd = ⟨0, (dAt zs i).cur ++ slS ++ aS (c + 1), aS (c + 1)⟩) ∨
    (z.fmod 4 = 1 ∧ 1 < (dAt zs i).pre.length ∧ pd = ⟨1, (dAt zs i).pre.getLastD Str.empty, lastPart (dAt zs i).cur⟩) ∨
    (¬ z.fmod 4 = 0 ∧ ¬ (z.fmod 4 = 1 ∧ 1 < (dAt zs i).pre.length) ∧ (pd = ⟨2, (dAt zs i).cur, Str.ofString "p"⟩ ∨ pd = ⟨2, (dAt zs i).cur, Str.ofString "xs"⟩)) := by
  have hd := deed_at hz hb.out h
  obtain ⟨c, hc, hc0, hc1⟩ := hb.cnt (dAt zs i).cur (by simp)
  generalize dAt zs i = st at *
  obtain ⟨pre, cur, cnt, out⟩ := st
  dsimp only at *
  have last : ∀ {a b : PD}, out ++ [a] = out ++ [b] → b = a := fun h => by
    have := List.append_cancel_left h
    exact ((List.cons.inj this).1).symm
  by_cases h1 : z.fmod 4 = 0
  · rw [dStep_A h1 hc] at hd
    exact .inl ⟨h1, c, hc, hc0, hc1, last hd⟩
  · by_cases h2 : z.fmod 4 = 1 ∧ 1 < pre.length
    · rw [dStep_B h2.1 h2.2] at hd
      exact .inr (.inl ⟨h2.1, h2.2, last hd⟩)
    · rw [dStep_C h1 h2] at hd
      refine .inr (.inr ⟨h1, h2, ?_⟩)
      have := last hd
      split at this
      · exact .inl this
      · exact .inr this
end
section
open PySem PySem.W PyProof.Rows PySem.W.X PySem.Calls
set_option autoImplicit false
set_option maxRecDepth 100000
set_option maxHeartbeats 8000000
/-- the signs of paths alone -/
def PathSigns (x : PySem.Str) : Prop := ∀ c ∈ x.cps.toList, c = 47 ∨ c = 97
theorem enc_signs : ∀ K : List Nat, ∀ c ∈ encL K, c = 47 ∨ c = 97
  | [], c, h => nomatch h
  | k :: ks, c, h => by
    rcases List.mem_cons.mp h with rfl | h
    · exact .inl rfl
    · rcases List.mem_append.mp h with h | h
      · exact .inr (List.mem_replicate.mp h).2
      · exact enc_signs ks c h
theorem path_signs {x : PySem.Str} {K : List Nat} (h : IsPath x K) : PathSigns x := fun c hc => enc_signs K c (by rw [← h.1]; exact hc)
theorem aS_signs (c : Int) : PathSigns (aS c) := fun d hd => by
  rw [aS_cps] at hd
  exact .inr (List.mem_replicate.mp hd).2
theorem signs_ok {x : PySem.Str} (h : PathSigns x) : PyData.strOk x = true := by
  unfold PyData.strOk
  rw [Array.all_eq_true_iff_forall_mem]
  intro c hc
  have := h c (by simpa using hc)
  rw [decide_eq_true_eq]
  omega
theorem slice_one (x : PySem.Str) : Txt.slice x none (some 1) = ⟨(x.cps.toList.take 1).toArray⟩ := by
  have hl : x.cps.toList.length = x.length := by simp [PySem.Str.length]
  by_cases h0 : x.length = 0
  · have : x = Str.empty := by
      apply PySem.Str.ext'
      have : x.cps.size = 0 := h0
      exact Array.eq_empty_of_size_eq_zero this
    subst this
    decide +kernel
  · have key : Builtin.Str.strSliceIndices none (some 1) 1 x.length = Builtin.Str.strSliceIndices (some ((0 : Nat) : Int)) (some ((1 : Nat) : Int)) 1 x.length := by
      have e0 : max (0 : Int) (min 0 (x.length : Int)) = 0 := by omega
      unfold Builtin.Str.strSliceIndices
      simp [e0]
    have h2 := PySem.StrLaws.sliceText_nat x (a := 0) (b := 1) (by omega) (by omega)
    unfold PySem.StrLaws.sliceText at h2
    unfold Txt.slice
    rw [key, h2]
    simp
theorem signs_brace {x : PySem.Str} (h : PathSigns x) : (Txt.slice x none (some 1) == Str.ofString "{") = false := by
  have e : Str.ofString "{" = ⟨#[123]⟩ := by decide +kernel
  rw [slice_one, e, beq_eq_false_iff_ne]
  intro q
  have q2 : x.cps.toList.take 1 = [123] := by
    have := congrArg (fun z : PySem.Str => z.cps.toList) q
    simpa using this
  have : (123 : Nat) ∈ x.cps.toList := List.mem_of_mem_take (i := 1) (by rw [q2]; simp)
  have := h 123 this
  omega
theorem join_part (sep : PySem.Str) : ∀ (l : List PySem.Str) (x : PySem.Str), x ∈ l → (∀ c ∈ x.cps.toList, c ∈ (PySem.Str.join sep l).cps.toList) ∧ x.length ≤ (PySem.Str.join sep l).length
  | [], x, h => nomatch h
  | [y], x, h => by
    rw [List.mem_singleton.mp h]
    exact ⟨fun c hc => hc, Nat.le_refl _⟩
  | y :: z :: r, x, h => by
    show (∀ c ∈ x.cps.toList, c ∈ (y ++ sep ++ PySem.Str.join sep (z :: r)).cps.toList) ∧ _ ≤ (y ++ sep ++ PySem.Str.join sep (z :: r)).length
    rw [app_cps, app_cps, PySem.Str.length_append, PySem.Str.length_append]
    rcases List.mem_cons.mp h with rfl | h
    · exact ⟨fun c hc => by simp [hc], by omega⟩
    · obtain ⟨h1, h2⟩ := join_part sep (z :: r) x h
      exact ⟨fun c hc => List.mem_append_right _ (h1 c hc), by omega⟩
theorem last_part (x : PySem.Str) : (∀ c ∈ (lastPart x).cps.toList, c ∈ x.cps.toList) ∧ (lastPart x).length ≤ x.length := by
  have hne := split_ne x slS
  have hm : lastPart x ∈ Txt.split x slS := by
    unfold lastPart
    rw [List.getLastD_eq_getLast?, List.getLast?_eq_some_getLast hne]
    exact List.getLast_mem hne
  have := join_part slS _ _ hm
  rw [PySem.StrLaws.join_split] at this
  exact this
theorem last_signs {x : PySem.Str} (h : PathSigns x) : PathSigns (lastPart x) := fun c hc => h c ((last_part x).1 c hc)
theorem empty_app (x : PySem.Str) : Str.empty ++ x = x := PySem.Str.ext' (by rw [PySem.Str.cps_append]; simp [Str.empty])
theorem app_empty (x : PySem.Str) : x ++ Str.empty = x := PySem.Str.ext' (by rw [PySem.Str.cps_append]; simp [Str.empty])
theorem joinE_cons (y : PySem.Str) : ∀ l : List PySem.Str, PySem.Str.join Str.empty (y :: l) = y ++ PySem.Str.join Str.empty l
  | [] => (app_empty y).symm
  | z :: r => by
    show y ++ Str.empty ++ _ = _
    rw [app_empty]
theorem joinE_append : ∀ l r : List PySem.Str, PySem.Str.join Str.empty (l ++ r) = PySem.Str.join Str.empty l ++ PySem.Str.join Str.empty r
  | [], r => (empty_app _).symm
  | y :: l, r => by
    rw [List.cons_append, joinE_cons, joinE_cons, joinE_append l r, PySem.Str.append_assoc]
/-- the pieces and the text -/
structure TextOk (cI : List Value) (i : Nat) (txt : PySem.Str) : Prop where
  texts : ∃ ys, StrsAre cI ys ∧ PySem.Str.join Str.empty ys = txt ∧ (ys.map PySem.Str.length).sum = txt.length
  num : cI.length ≤ 2 * i
  len : txt.length ≤ 1000 * i
theorem strsAre_append {a b : List Value} {x y : List PySem.Str} (h1 : StrsAre a x) (h2 : StrsAre b y) : StrsAre (a ++ b) (x ++ y) := by
  induction h1 with
  | nil => exact h2
  | cons y t _ ih => exact .cons y t ih
theorem textOk_start : TextOk [] 0 (Str.ofString "") := ⟨⟨[], .nil, by decide +kernel, by decide +kernel⟩, Nat.le_refl _, by decide +kernel⟩
theorem textOk_same {cI : List Value} {i : Nat} {txt : PySem.Str} (h : TextOk cI i txt) : TextOk cI (i + 1) txt := ⟨h.texts, by have := h.num; omega, by have := h.len; omega⟩
theorem textOk_two {cI : List Value} {i : Nat} {txt a b : PySem.Str} {ta tb : Tok} (h : TextOk cI i txt) (hl : a.length + b.length ≤ 1000) : TextOk (cI ++ [.str a ta, .str b tb]) (i + 1) (txt ++ (a ++ b)) := by
  obtain ⟨ys, h1, h2, h3⟩ := h.texts
  refine ⟨⟨ys ++ [a, b], strsAre_append h1 (.cons a ta (.cons b tb .nil)), ?_, ?_⟩, ?_, ?_⟩
  · rw [joinE_append, h2, joinE_cons]; rfl
  · rw [List.map_append, List.sum_append, h3, PySem.Str.length_append, PySem.Str.length_append]
    simp
  · rw [List.length_append]; have := h.num; simp; omega
  · rw [PySem.Str.length_append, PySem.Str.length_append]; have := h.len; omega
theorem textOk_one {cI : List Value} {i : Nat} {txt a : PySem.Str} {ta : Tok} (h : TextOk cI i txt) (hl : a.length ≤ 1000) : TextOk (cI ++ [.str a ta]) (i + 1) (txt ++ a) := by
  obtain ⟨ys, h1, h2, h3⟩ := h.texts
  refine ⟨⟨ys ++ [a], strsAre_append h1 (.cons a ta .nil), ?_, ?_⟩, ?_, ?_⟩
  · rw [joinE_append, h2]; rfl
  · rw [List.map_append, List.sum_append, h3, PySem.Str.length_append]
    simp
  · rw [List.length_append]; have := h.num; simp; omega
  · rw [PySem.Str.length_append]; have := h.len; omega
end
section
open PySem PySem.W PyProof.Rows PySem.W.X PySem.Calls
set_option autoImplicit false
set_option pp.deepTerms false
set_option pp.proofs false
set_option maxRecDepth 100000
set_option maxHeartbeats 8000000
/-- a list of the namespace stack -/
structure NL where
  a : Nat
  es : List Ent
  n : Nat
abbrev NL.obj (q : NL) : Obj := lstO (eRefs q.es).toArray q.n
/-- a list of the stack of declared ones -/
structure DL where
  a : Nat
  vs : List Value
  n : Nat
abbrev DL.obj (p : DL) : Obj := lstO p.vs.toArray p.n
abbrev dlp (l : List DL) : List (Nat × List Value) := l.map fun p => (p.a, p.vs)
abbrev nlp (l : List NL) : List (Nat × List Value) := l.map fun q => (q.a, eRefs q.es)
/-- what the loop does not change -/
structure MC where
  pc : Nat
  tl : Nat
  ds : Nat
  ns : Nat
  ps : Nat
  dx : Nat
  da : Nat
  bm : Nat
  wr : Nat
  mx : Nat
  mdx : Nat
  pd : Nat
  pm : Nat
  dl : Nat
  xa : Nat
  k : Nat → Tok
  kz : Tok
  kd : Tok
  n5 : Nat
  nD : Nat
  d0 : DL
  n0 : NL
  dds : List DeedAt
/-- what it changes -/
structure MV where
  cI : List Value
  ts : List Tel
  more : List DL
  rest : List NL
  pvs : List Value
  rs : Bool
  rd : Bool
  tb : Obj
  n1 : Nat
  n2 : Nat
  n3 : Nat
  n4 : Nat
  nT : Nat
abbrev mLed (w : World) (C : MC) (V : MV) (tail : List (Addr × Obj)) : List (Addr × Obj) :=
  ((C.pc : Addr), lstO V.cI.toArray V.n4) :: (C.tl, lstO (tRefs V.ts) V.nT) :: (C.ds, lstO (dArr (dlp (C.d0 :: V.more))) V.n1) :: (C.ns, lstO (dArr (nlp (C.n0 :: V.rest))) V.n2) :: (C.ps, lstO V.pvs.toArray V.n3) ::
   (C.dx, wDict w C.k C.kz C.bm C.da C.ds C.ns C.pm C.ps V.rs V.rd 17) :: (C.da, lstO #[] C.n5) :: (C.bm, bmO C.pc) :: (C.wr, instObj 150 C.dx) :: (C.mx, instObj 214 C.mdx) :: (C.mdx, mgDict w C.kd C.pd) :: (123, V.tb) :: tail
theorem mTail {w : World} {C : MC} {V : MV} {tail : List (Addr × Obj)} {p : Addr × Obj} (h : p ∈ tail) : p ∈ mLed w C V tail :=
  .tail _ (.tail _ (.tail _ (.tail _ (.tail _ (.tail _ (.tail _ (.tail _ (.tail _ (.tail _ (.tail _ (.tail _ h)))))))))))
structure MOrd (C : MC) (it : Nat) : Prop where
  o : 123 < C.mdx ∧ C.mdx < C.mx ∧ C.mx < C.pc ∧ C.pc < C.bm ∧ C.bm < C.dx ∧ C.dx < C.wr ∧ C.wr < C.da ∧ C.da < C.ds ∧ C.ds < C.ns ∧ C.ns < C.ps ∧ C.ps < C.tl ∧ C.tl < it
/-- what the tail of the ledger bears -/
structure TailOk (C : MC) (V : MV) (tail : List (Addr × Obj)) : Prop where
  dl : ∀ p ∈ C.d0 :: V.more, ((p.a : Addr), p.obj) ∈ tail
  nl : ∀ q ∈ C.n0 :: V.rest, ((q.a : Addr), q.obj) ∈ tail
  nlo : ∀ q ∈ C.n0 :: V.rest, C.ns < q.a
  ent : ∀ q ∈ C.n0 :: V.rest, ∀ e ∈ q.es, ((e.a : Addr), e.obj) ∈ tail ∧ e.uri.length ≤ 1000
  tel : ∀ e ∈ V.ts, ((e.a : Addr), e.obj) ∈ tail
  deed : ∀ e ∈ C.dds, ((e.a : Addr), e.obj) ∈ tail
  deedl : ((C.dl : Addr), lstO (dRefs C.dds).toArray C.nD) ∈ tail
  xml : ∃ x1 x2, ((C.xa : Addr), tupO [vstr "http://www.w3.org/XML/1998/namespace" x1, vstr "xml" x2]) ∈ tail
  tab : V.tb = tabObj #[] ∨ ∃ (c' : Nat) (oc' : Obj) (vs' : Array Value) (tq : Tok), V.tb = tabObj (#[] ++ #[rawInt 139, rawInt 71, .ref c']) ∧ ((c' : Addr), oc') ∈ tail ∧ C.ps < c' ∧ oc'.data = .fields vs' ∧ vs'[1]? = some (.str lamQual tq)
  nd : ((C.n0 :: V.rest).map NL.a).Nodup
  nd2 : ∀ q ∈ C.n0 :: V.rest, (∀ p ∈ C.d0 :: V.more, q.a ≠ p.a) ∧ q.a ≠ C.dl
/-- sizes -/
structure MSize (C : MC) (V : MV) : Prop where
  more : V.more.length ≤ 900
  rest : V.rest.length ≤ 900
  pvs : V.pvs.length ≤ 900
  cI : V.cI.length ≤ 900
  ts : V.ts.length ≤ 900
  dv : ∀ p ∈ C.d0 :: V.more, p.vs.length ≤ 900
  nv : ∀ q ∈ C.n0 :: V.rest, q.es.length ≤ 900
/-- addresses off the tail -/
def OffAll (fx : List Nat) (tail : List (Addr × Obj)) : Prop := ∀ p ∈ tail, p.1 ∉ fx
abbrev mFix (C : MC) (it : Nat) : List Nat := [it, C.pc, C.tl, C.ds, C.ns, C.ps, C.dx, C.da, C.bm, C.wr, C.mx, C.mdx, 123]
theorem mNd {C : MC} {it : Nat} (O : MOrd C it) : NdA (mFix C it) := by
  obtain ⟨h1, h2, h3, h4, h5, h6, h7, h8, h9, h10, h11, h12⟩ := O.o
  exact nd_asc (F := [123, C.mdx, C.mx, C.pc, C.bm, C.dx, C.wr, C.da, C.ds, C.ns, C.ps, C.tl, it]) (.cons h1 (.cons h2 (.cons h3 (.cons h4 (.cons h5 (.cons h6 (.cons h7 (.cons h8 (.cons h9 (.cons h10 (.cons h11 (.cons h12 (.one _))))))))))))) 13 [12, 3, 11, 8, 9, 10, 5, 7, 4, 6, 2, 1, 0] rfl (by decide) (by decide)
theorem mLow {C : MC} {it c : Nat} (O : MOrd C it) (h : C.ps < c) : ∀ x ∈ [123, C.mdx, C.mx, C.pc, C.bm, C.dx, C.wr, C.da, C.ds, C.ns, C.ps], x < c := by
  obtain ⟨h1, h2, h3, h4, h5, h6, h7, h8, h9, h10, h11, h12⟩ := O.o
  exact Asc.le_last (l := [123, C.mdx, C.mx, C.pc, C.bm, C.dx, C.wr, C.da, C.ds, C.ns, C.ps]) (.cons h1 (.cons h2 (.cons h3 (.cons h4 (.cons h5 (.cons h6 (.cons h7 (.cons h8 (.cons h9 (.cons h10 (.cons h (.one _))))))))))))
theorem dArr_mDs {d0 : DL} {more : List DL} {x : DL} : dArr (dlp (d0 :: (more ++ [x]))) = dArr (dlp (d0 :: more) ++ [(x.a, x.vs)]) := by simp [dArr, dlp]
theorem nArr_snoc {n0 : NL} {rest : List NL} {x : NL} : dArr (nlp (n0 :: (rest ++ [x]))) = (dArr (nlp (n0 :: rest))).push (.ref x.a) := by simp [dArr, nlp]
theorem newsOf {h₀ h h' : Heap} {L : Addr} {news : List (Addr × Obj)} {S : List Nat} (N : News h₀ L h news) (kp : ∀ (b : Nat) o, h.get? b = some o → b ∉ S → h'.get? b = some o) {b : Nat} {o : Obj} (hp : ((b : Addr), o) ∈ news) (hs : b ∉ S) : h'.get? b = some o ∧ b ≠ L ∧ h₀.get? b = none :=
  ⟨kp _ _ (N _ hp).1 hs, (N _ hp).2⟩
theorem news_one {h₀ h : Heap} {L : Addr} {p : Addr × Obj} {news : List (Addr × Obj)} (h1 : h.get? p.1 = some p.2 ∧ p.1 ≠ L ∧ h₀.get? p.1 = none) (h2 : News h₀ L h news) : News h₀ L h (p :: news) := fun q hq => by
  rcases List.mem_cons.mp hq with rfl | hq
  · exact h1
  · exact h2 q hq
theorem news_mem {h₀ h : Heap} {L : Addr} {a b : Addr} {o o' : Obj} {news news' : List (Addr × Obj)} (N : News h₀ L h news) (N' : News h₀ L h news') (h1 : (a, o) ∈ news) (h2 : (b, o') ∈ news') (hn : o ≠ o') : a ≠ b := fun q => by
  subst q
  have e1 := (N _ h1).1
  have e2 := (N' _ h2).1
  rw [e1] at e2
  exact hn (Option.some.inj e2)
theorem flat_more {d0 : DL} {more : List DL} (h : ∀ p ∈ more, p.vs = []) : flat (dlp (d0 :: more)) (dlp (d0 :: more)).length = d0.vs := by
  unfold flat dlp
  rw [List.take_length, ← List.map_reverse, List.flatMap_map]
  simp only [List.reverse_cons, List.flatMap_append, List.flatMap_cons, List.flatMap_nil, List.append_nil]
  have : (more.reverse.flatMap fun p => p.vs) = [] := by
    rw [List.flatMap_eq_nil_iff]
    intro p hp
    exact h p (List.mem_reverse.mp hp)
  rw [this, List.nil_append]
theorem flat_nls (nls : List NL) : flat (nlp nls) (nlp nls).length = eRefs ((nls.map NL.es).reverse.flatten) := by
  unfold flat nlp eRefs
  rw [List.take_length, ← List.map_reverse, List.flatMap_map, ← List.map_reverse, List.map_flatten, List.map_map, List.flatMap_def]
  rfl
/-- what start leaves, on the whole ledger -/
def MStartRet (w : World) (L : Addr) (h₀ : Heap) (m : Str → Option Value) (s : Shared) (Q : Value → Shared → Prop) (C : MC) (V : MV) (it : Nat) (oit : Obj) (word : Str) (pv : Value) : Prop :=
  ∀ h' tk' gs (lD lN : Nat) tA tB tb' n1' n2' n3' n4' tail', Fr h₀ L h' m →
    News h₀ L h' (((it : Addr), oit) :: mLed w C { V with cI := V.cI ++ [.str (Str.ofString "<" ++ word) tA, .str (Str.ofString ">") tB], more := V.more ++ [⟨lD, [], 0⟩], rest := V.rest ++ [⟨lN, [], 0⟩], pvs := V.pvs ++ [pv], rs := true, tb := tb', n1 := n1', n2 := n2', n3 := n3', n4 := n4' } tail') →
    TailOk C { V with cI := V.cI ++ [.str (Str.ofString "<" ++ word) tA, .str (Str.ofString ">") tB], more := V.more ++ [⟨lD, [], 0⟩], rest := V.rest ++ [⟨lN, [], 0⟩], pvs := V.pvs ++ [pv], rs := true, tb := tb', n1 := n1', n2 := n2', n3 := n3', n4 := n4' } tail' →
    OffAll (mFix C it) tail' → GenState.bare gs = true → Q .none { s with heap := h', toks := tk', gens := s.gens.push gs }
theorem m_start_ret {w : World} {L : Addr} {h₀ : Heap} {m : Str → Option Value} {s : Shared} {Q : Value → Shared → Prop} {C : MC} {V : MV} {it : Nat} {oit : Obj} {tail : List (Addr × Obj)} {word : Str} {pI : List Value} {pv : Value}
    (N : News h₀ L s.heap (((it : Addr), oit) :: mLed w C V tail)) (O : MOrd C it) (Sp : OffAll (mFix C it) tail) (K : TailOk C V tail) (hli : ∃ l i, IsLi oit l i) (hpv : V.pvs = pI ++ [pv])
    (hret : MStartRet w L h₀ m s Q C V it oit word pv) :
    StartRet w L h₀ m s Q C.k C.kz C.ds C.ns C.ps C.pc C.da C.bm C.dx C.pm (dlp (C.d0 :: V.more)) (dArr (nlp (C.n0 :: V.rest))) pI.toArray V.cI.toArray pv word V.rd := by
  intro h' tk' gs lD lN c' oc' vs' tq tA tB n1' n2' n3' n4' F' N' hd1 hd2 hgb hfD hfN hne hpc hpn hkeep hkc
  have nd := mNd O
  have low := mLow O hpc
  have hnsps : C.ns < C.ps := O.o.2.2.2.2.2.2.2.2.2.1
  obtain ⟨l, li, hli⟩ := hli
  have sub : ∀ b : Nat, b ∈ [C.ds, C.ns, C.ps, C.pc, C.dx, 123] → b ∈ mFix C it := sub_idx (F := mFix C it) 13 [3, 4, 5, 1, 6, 12] rfl (by decide)
  have off : ∀ p ∈ tail, p.1 ∉ [C.ds, C.ns, C.ps, C.pc, C.dx, 123] := fun p hp q => Sp p hp (sub _ q)
  have NT : News h₀ L h' tail := fun p hp => newsOf N hkeep (.tail _ (mTail hp)) (off p hp)
  have NN : News h₀ L h' (((it : Addr), oit) :: mLed w C { V with cI := V.cI ++ [.str (Str.ofString "<" ++ word) tA, .str (Str.ofString ">") tB], more := V.more ++ [⟨lD, [], 0⟩], rest := V.rest ++ [⟨lN, [], 0⟩], pvs := V.pvs ++ [pv], rs := true, tb := tabObj (#[] ++ #[rawInt 139, rawInt 71, .ref c']), n1 := n1', n2 := n2', n3 := n3', n4 := n4' } ((lD, lstO #[] 0) :: (lN, lstO #[] 0) :: (c', oc') :: tail)) := by
    dsimp only [mLed]
    rw [dArr_mDs, nArr_snoc, hpv]
    refine news_one (newsOf N hkeep (.head _) (off_idx nd 13 [3, 4, 5, 1, 6, 12] 0 rfl (by decide) (by decide))) ?_
    refine news_one ?pc (news_one (newsOf N hkeep (by k_mem) (off_idx nd 13 [3, 4, 5, 1, 6, 12] 2 rfl (by decide) (by decide))) (news_one (N' _ (by k_mem)) (news_one (N' _ (by k_mem)) (news_one ?ps (news_one (N' _ (by k_mem)) ?_)))))
    case pc =>
      have := N' (C.pc, _) (by k_mem)
      simpa using this
    case ps =>
      have := N' (C.ps, _) (by k_mem)
      simpa using this
    refine news_one (newsOf N hkeep (by k_mem) (off_idx nd 13 [3, 4, 5, 1, 6, 12] 7 rfl (by decide) (by decide))) ?_
    refine news_one (newsOf N hkeep (by k_mem) (off_idx nd 13 [3, 4, 5, 1, 6, 12] 8 rfl (by decide) (by decide))) ?_
    refine news_one (newsOf N hkeep (by k_mem) (off_idx nd 13 [3, 4, 5, 1, 6, 12] 9 rfl (by decide) (by decide))) ?_
    refine news_one (newsOf N hkeep (by k_mem) (off_idx nd 13 [3, 4, 5, 1, 6, 12] 10 rfl (by decide) (by decide))) ?_
    refine news_one (newsOf N hkeep (by k_mem) (off_idx nd 13 [3, 4, 5, 1, 6, 12] 11 rfl (by decide) (by decide))) ?_
    exact news_one (N' _ (by k_mem)) (news_one (N' _ (by k_mem)) (news_one (N' _ (by k_mem)) (news_one (N' _ (by k_mem)) NT)))
  have fresh : ∀ x : Nat, s.heap.get? x = none → ∀ (a : Nat) o, ((a : Addr), o) ∈ tail → x ≠ a := fun x hx a o ha q => by
    have e := (N _ (.tail _ (mTail ha))).1
    dsimp only at e
    rw [← q, hx] at e; cases e
  have oldN : ∀ q ∈ C.n0 :: V.rest, q.a ≠ lN := fun q hq => Ne.symm (fresh lN hfN q.a _ (K.nl q hq))
  have oldD : ∀ q ∈ C.n0 :: V.rest, q.a ≠ lD := fun q hq => Ne.symm (fresh lD hfD q.a _ (K.nl q hq))
  have hin : ∀ b ∈ mFix C it, ∃ o, s.heap.get? b = some o := fun b hb => by
    simp only [mFix, List.mem_cons, List.not_mem_nil, or_false] at hb
    rcases hb with rfl | rfl | rfl | rfl | rfl | rfl | rfl | rfl | rfl | rfl | rfl | rfl | rfl <;> exact ⟨_, (N (_, _) (by k_mem)).1⟩
  have hcode : ∀ (b : Nat) o, (b, o) ∈ ((it : Addr), oit) :: mLed w C { V with cI := V.cI ++ [.str (Str.ofString "<" ++ word) tA, .str (Str.ofString ">") tB], more := V.more ++ [⟨lD, [], 0⟩], rest := V.rest ++ [⟨lN, [], 0⟩], pvs := V.pvs ++ [pv], rs := true, tb := tabObj (#[] ++ #[rawInt 139, rawInt 71, .ref c']), n1 := n1', n2 := n2', n3 := n3', n4 := n4' } ((lD, lstO #[] 0) :: (lN, lstO #[] 0) :: (c', oc') :: tail) →
      (∀ vs, o.data = .fields vs → ∀ t, vs[1]? ≠ some (.str lamQual t)) → b ≠ c' := fun b o hb hn q => by
    subst q
    have e1 := (NN _ hb).1
    have e2 := (N' (b, oc') (by k_mem)).1
    rw [e1] at e2
    cases e2
    exact hn vs' hd1 tq hd2
  have hcf : c' ∉ mFix C it := by
    have e1 := hcode it oit (.head _) (fun vs h t => by rw [hli.2] at h; cases h; simp)
    have e2 := hcode C.tl _ (.tail _ (.tail _ (.head _))) (fun vs h => by cases h)
    intro q
    rcases List.mem_cons.mp q with q | q
    · exact e1 q.symm
    rcases List.mem_cons.mp q with q | q
    · exact absurd q (Nat.ne_of_gt (low _ (by k_mem)))
    rcases List.mem_cons.mp q with q | q
    · exact e2 q.symm
    · exact Nat.lt_irrefl _ (low c' (sub_idx (F := [123, C.mdx, C.mx, C.pc, C.bm, C.dx, C.wr, C.da, C.ds, C.ns, C.ps]) 11 [8, 9, 10, 5, 7, 4, 6, 2, 1, 0] rfl (by decide) c' q))
  refine hret h' tk' gs lD lN tA tB _ n1' n2' n3' n4' _ F' NN ⟨?_, ?_, ?_, ?_, ?_, ?_, ?_, ?_, ?_, ?_, ?_⟩ ?_ hgb
  · intro p hp
    rcases List.mem_cons.mp hp with rfl | hp
    · exact .tail _ (.tail _ (.tail _ (K.dl _ (.head _))))
    · rcases List.mem_append.mp hp with hp | hp
      · exact .tail _ (.tail _ (.tail _ (K.dl p (.tail _ hp))))
      · rw [List.mem_singleton.mp hp]; exact .head _
  · intro p hp
    rcases List.mem_cons.mp hp with rfl | hp
    · exact .tail _ (.tail _ (.tail _ (K.nl _ (.head _))))
    · rcases List.mem_append.mp hp with hp | hp
      · exact .tail _ (.tail _ (.tail _ (K.nl p (.tail _ hp))))
      · rw [List.mem_singleton.mp hp]; exact .tail _ (.head _)
  · intro q hq
    rcases List.mem_cons.mp hq with rfl | hq
    · exact K.nlo _ (.head _)
    · rcases List.mem_append.mp hq with hq | hq
      · exact K.nlo q (.tail _ hq)
      · rw [List.mem_singleton.mp hq]; exact Nat.lt_trans hnsps hpn
  · intro q hq e he
    rcases List.mem_cons.mp hq with rfl | hq
    · exact ⟨.tail _ (.tail _ (.tail _ (K.ent _ (.head _) e he).1)), (K.ent _ (.head _) e he).2⟩
    · rcases List.mem_append.mp hq with hq | hq
      · exact ⟨.tail _ (.tail _ (.tail _ (K.ent q (.tail _ hq) e he).1)), (K.ent q (.tail _ hq) e he).2⟩
      · rw [List.mem_singleton.mp hq] at he; cases he
  · exact fun e he => .tail _ (.tail _ (.tail _ (K.tel e he)))
  · exact fun e he => .tail _ (.tail _ (.tail _ (K.deed e he)))
  · exact .tail _ (.tail _ (.tail _ K.deedl))
  · obtain ⟨x1, x2, h⟩ := K.xml
    exact ⟨x1, x2, .tail _ (.tail _ (.tail _ h))⟩
  · exact .inr ⟨c', oc', vs', tq, rfl, .tail _ (.tail _ (.head _)), hpc, hd1, hd2⟩
  · dsimp only
    rw [← List.cons_append, List.map_append, List.nodup_append]
    refine ⟨K.nd, by simp, ?_⟩
    intro a ha b hb q
    obtain ⟨x, hx, rfl⟩ := List.mem_map.mp ha
    rw [List.map_singleton, List.mem_singleton] at hb
    subst hb
    exact oldN x hx q
  · intro q hq
    have hq' : q ∈ (C.n0 :: V.rest) ++ [⟨lN, [], 0⟩] := by simpa using hq
    rcases List.mem_append.mp hq' with hq | hq
    · refine ⟨fun p hp => ?_, (K.nd2 q hq).2⟩
      have hp' : p ∈ (C.d0 :: V.more) ++ [⟨lD, [], 0⟩] := by simpa using hp
      rcases List.mem_append.mp hp' with hp | hp
      · exact (K.nd2 q hq).1 p hp
      · rw [List.mem_singleton.mp hp]
        exact oldD q hq
    · rw [List.mem_singleton.mp hq]
      refine ⟨fun p hp => ?_, ?_⟩
      · have hp' : p ∈ (C.d0 :: V.more) ++ [⟨lD, [], 0⟩] := by simpa using hp
        rcases List.mem_append.mp hp' with hp | hp
        · exact fresh lN hfN p.a _ (K.dl p hp)
        · rw [List.mem_singleton.mp hp]
          exact Ne.symm hne
      · exact fresh lN hfN C.dl _ K.deedl
  · intro p hp q
    rcases List.mem_cons.mp hp with rfl | hp
    · obtain ⟨o, e⟩ := hin _ q
      rw [hfD] at e; cases e
    rcases List.mem_cons.mp hp with rfl | hp
    · obtain ⟨o, e⟩ := hin _ q
      rw [hfN] at e; cases e
    rcases List.mem_cons.mp hp with rfl | hp
    · exact hcf q
    · exact Sp p hp q
end
section
open PySem PySem.W PyProof.Rows PySem.W.X PySem.Calls
set_option autoImplicit false
set_option pp.deepTerms false
set_option pp.proofs false
set_option maxRecDepth 100000
set_option maxHeartbeats 8000000
theorem isListOf {h₀ h : Heap} {L : Addr} {news : List (Addr × Obj)} (N : News h₀ L h news) {a : Nat} {vs : List Value} {n : Nat} (hm : ((a : Addr), lstO vs.toArray n) ∈ news) : h.IsList a vs.toArray := ⟨_, (N _ hm).1, rfl, n, rfl⟩
theorem dlp_mem {d0 : DL} {more : List DL} {p : Nat × List Value} (h : p ∈ dlp (d0 :: more)) : ∃ d ∈ d0 :: more, p = (d.a, d.vs) := by
  obtain ⟨d, hd, rfl⟩ := List.mem_map.mp h
  exact ⟨d, hd, rfl⟩
theorem nlp_mem {n0 : NL} {rest : List NL} {p : Nat × List Value} (h : p ∈ nlp (n0 :: rest)) : ∃ d ∈ n0 :: rest, p = (d.a, eRefs d.es) := by
  obtain ⟨d, hd, rfl⟩ := List.mem_map.mp h
  exact ⟨d, hd, rfl⟩
theorem m_start {w : World} {cn : Str} {cs : Scope} {a : Addr} {ccd : Value} {base h₀ : Heap} {L : Addr}
    {m mg mb : Str → Option Value} {loose : List Str} {mean : ExcName → Option Value} {s : Shared} {Q E : Value → Shared → Prop} {C : MC} {V : MV} {it dd : Nat} {oit od : Obj} {tail : List (Addr × Obj)} {word : Str} {t1 : Tok} {pI : List Value} {pv : Value}
    (K : TailOk C V tail) (B : Below callerA base [] h₀) (F : Fr h₀ L s.heap m) (X : (hd.heap_39 w.params).In h₀) (T : Top topProg loose mean mg mb h₀) (hk : cs.kind = .function) (HC : CodeHd base 125 123)
    (N : News h₀ L s.heap (((dd : Addr), od) :: ((it : Addr), oit) :: mLed w C V tail)) (hdd : ∀ p ∈ ((it : Addr), oit) :: mLed w C V tail, p.1 < dd)
    (O : MOrd C it) (Sp : OffAll (mFix C it) tail) (S : MSize C V) (hli : ∃ l i, IsLi oit l i) (hpv : V.pvs = pI ++ [pv])
    (hod : od.IsDictOf (strKind lawProg w) []) (hod2 : od.IsDictOf (intKind lawProg w) []) (lo : (dd == sysModules) = false)
    (hm : ∀ p ∈ V.more, p.vs = []) (hd0 : C.d0.vs = [.ref C.xa])
    (hwl : word.length ≤ 1000) (hwo : PyData.strOk word = true) (hwb : (Txt.slice word none (some 1) == Str.ofString "{") = false)
    (hret : MStartRet w L h₀ m s Q C V it oit word pv) :
    wpAny (model lawProg w) (callerA.deeper (envOf cn cs L a ccd)) (call (.ref 120) [.ref C.wr, .str word t1, .ref dd]) Q E s := by
  have hret2 := m_start_ret (fun p hp => N p (.tail _ hp)) O Sp K hli hpv hret
  obtain ⟨o1, o2, o3, o4, o5, o6, o7, o8, o9, o10, o11, o12⟩ := O.o
  have NT : News h₀ L s.heap tail := fun p hp => N p (.tail _ (.tail _ (mTail hp)))
  have hps : (C.ps : Nat) < dd := hdd (C.ps, _) (.tail _ (.tail _ (.tail _ (.tail _ (.tail _ (.head _))))))
  have htd : ∀ (b : Nat) o, ((b : Addr), o) ∈ tail → b < dd := fun b o hb => hdd _ (.tail _ (mTail hb))
  have hoff : ∀ (b : Nat) o, ((b : Addr), o) ∈ tail → b ∉ [dd, C.ds, C.ns, C.ps, C.pc, C.da, C.bm, C.wr, C.dx, 123] := fun b o hb q => by
    rcases List.mem_cons.mp q with q | q
    · exact absurd q (Nat.ne_of_lt (htd b o hb))
    · exact Sp _ hb (sub_idx (F := mFix C it) 13 [3, 4, 5, 1, 7, 8, 9, 6, 12] rfl (by decide) b q)
  obtain ⟨x1, x2, hx⟩ := K.xml
  have hdl : ∀ p ∈ dlp (C.d0 :: V.more), s.heap.IsList p.1 p.2.toArray := fun p hp => by
    obtain ⟨d, hd, rfl⟩ := dlp_mem hp
    exact isListOf NT (K.dl d hd)
  have hdz : ∀ p ∈ dlp (C.d0 :: V.more), p.2.length < 2 ^ 62 := fun p hp => by
    obtain ⟨d, hd, rfl⟩ := dlp_mem hp
    exact Nat.lt_of_le_of_lt (S.dv d hd) (by decide)
  have hdf : flat (dlp (C.d0 :: V.more)) (dlp (C.d0 :: V.more)).length = [.ref C.xa] := (flat_more hm).trans hd0
  have hs1 : (dlp (C.d0 :: V.more)).length ≤ 1000 := by have := S.more; simp [dlp]; omega
  have hs2 : (dArr (nlp (C.n0 :: V.rest))).size ≤ 1000 := by have := S.rest; simp [dArr, nlp]; omega
  have hs3 : pI.toArray.size ≤ 1000 := by have := S.pvs; rw [hpv] at this; simp at this ⊢; omega
  have hs4 : V.cI.toArray.size ≤ 1000 := by have := S.cI; simp; omega
  have N3 : News h₀ L s.heap [((dd : Addr), od), (C.ds, lstO (dArr (dlp (C.d0 :: V.more))) V.n1), (C.ns, lstO (dArr (nlp (C.n0 :: V.rest))) V.n2), (C.ps, lstO (pI.toArray.push pv) V.n3), (C.pc, lstO V.cI.toArray V.n4), (C.da, lstO #[] C.n5), (C.bm, bmO C.pc), (C.wr, instObj 150 C.dx), (C.dx, wDict w C.k C.kz C.bm C.da C.ds C.ns C.pm C.ps V.rs V.rd 17), (123, V.tb)] := by
    have e : pI.toArray.push pv = V.pvs.toArray := by rw [hpv]; simp
    rw [e]
    exact newsCons N (by k_mem) (newsCons N (by k_mem) (newsCons N (by k_mem) (newsCons N (by k_mem) (newsCons N (by k_mem) (newsCons N (by k_mem) (newsCons N (by k_mem) (newsCons N (by k_mem) (newsCons N (by k_mem) (newsCons N (by k_mem) newsNil)))))))))
  have hN4 : ∀ cd : List (Addr × Obj), (∀ p ∈ cd, p ∈ tail) → News h₀ L s.heap ([((dd : Addr), od), (C.ds, lstO (dArr (dlp (C.d0 :: V.more))) V.n1), (C.ns, lstO (dArr (nlp (C.n0 :: V.rest))) V.n2), (C.ps, lstO (pI.toArray.push pv) V.n3), (C.pc, lstO V.cI.toArray V.n4), (C.da, lstO #[] C.n5), (C.bm, bmO C.pc), (C.wr, instObj 150 C.dx), (C.dx, wDict w C.k C.kz C.bm C.da C.ds C.ns C.pm C.ps V.rs V.rd 17), (123, V.tb)] ++ cd) := fun cd hs p hp => (List.mem_append.mp hp).elim (N3 p) fun hp => NT p (hs p hp)
  have hnd : 123 < C.pc ∧ C.pc < C.bm ∧ C.bm < C.dx ∧ C.dx < C.wr ∧ C.wr < C.da ∧ C.da < C.ds ∧ C.ds < C.ns ∧ C.ns < C.ps ∧ C.ps < dd := ⟨Nat.lt_trans o1 (Nat.lt_trans o2 o3), o4, o5, o6, o7, o8, o9, o10, hps⟩
  rcases K.tab with htb | ⟨c', oc', vs', tq, htb, hcm, hcp, hd1, hd2⟩
  · exact t_start (cd := []) B F X T hk HC (hN4 [] fun _ h => nomatch h) hnd (nd10 hnd) (fun _ h => nomatch h) (.inl ⟨htb, rfl⟩) hs1 hs2 hs3 hs4 hod hod2 lo hdl
      (fun p hp => by obtain ⟨d, hd, rfl⟩ := dlp_mem hp; exact hoff d.a _ (K.dl d hd)) hdz hdf (NT _ hx).1 (hoff C.xa _ hx) hwl hwo hwb hret2
  · have hoff2 : ∀ (b : Nat) o, ((b : Addr), o) ∈ tail → o ≠ oc' → b ∉ [dd, C.ds, C.ns, C.ps, C.pc, C.da, C.bm, C.wr, C.dx, 123, c'] := fun b o hb hn q => by
      have h2 : b ≠ c' := news_mem NT NT hb hcm hn
      rcases List.mem_append.mp (show b ∈ [dd, C.ds, C.ns, C.ps, C.pc, C.da, C.bm, C.wr, C.dx, 123] ++ [c'] from q) with q | q
      · exact hoff b o hb q
      · exact h2 (List.mem_singleton.mp q)
    have hnl : ∀ vs n, lstO vs n ≠ oc' := fun vs n q => by rw [← q] at hd1; cases hd1
    have hnt : ∀ vs, tupO vs ≠ oc' := fun vs q => by rw [← q] at hd1; cases hd1
    exact t_start (cd := [((c' : Addr), oc')]) B F X T hk HC (hN4 _ fun p hp => by rw [List.mem_singleton.mp hp]; exact hcm) hnd (nd11 hnd hcp (htd _ _ hcm)) (fun p hp => by rw [List.mem_singleton.mp hp]; exact ⟨hcp, htd _ _ hcm⟩) (.inr ⟨c', oc', vs', tq, htb, rfl, hd1, hd2⟩) hs1 hs2 hs3 hs4 hod hod2 lo hdl
      (fun p hp => by obtain ⟨d, hd, rfl⟩ := dlp_mem hp; exact hoff2 d.a _ (K.dl d hd) (hnl _ _)) hdz hdf (NT _ hx).1 (hoff2 C.xa _ hx (hnt _)) hwl hwo hwb hret2
/-- what end leaves, on the whole ledger -/
def MEndRet (w : World) (L : Addr) (h₀ : Heap) (m : Str → Option Value) (s : Shared) (Q : Value → Shared → Prop) (C : MC) (V : MV) (it : Nat) (oit : Obj) (tail : List (Addr × Obj)) (word : Str) (more' : List DL) (rest' : List NL) (pL : List Value) : Prop :=
  ∀ h' tk' gs tA rd' n1' n2' n3' n4', Fr h₀ L h' m →
    News h₀ L h' (((it : Addr), oit) :: mLed w C { V with cI := V.cI ++ [.str (Str.empty ++ Str.ofString "</" ++ word ++ Str.ofString ">") tA], more := more', rest := rest', pvs := pL, rd := rd', n1 := n1', n2 := n2', n3 := n3', n4 := n4' } tail) →
    TailOk C { V with cI := V.cI ++ [.str (Str.empty ++ Str.ofString "</" ++ word ++ Str.ofString ">") tA], more := more', rest := rest', pvs := pL, rd := rd', n1 := n1', n2 := n2', n3 := n3', n4 := n4' } tail →
    GenState.bare gs = true → Q .none { s with heap := h', toks := tk', gens := s.gens.push gs }
theorem dlp_snoc {d0 pD : DL} {more' : List DL} : (dlp (d0 :: (more' ++ [pD]))).map (fun p => Value.ref p.1) = (dlp (d0 :: more')).map (fun p => Value.ref p.1) ++ [Value.ref pD.a] := by simp [dlp]
theorem nlp_snoc {n0 qN : NL} {rest' : List NL} : (nlp (n0 :: (rest' ++ [qN]))).map (fun p => Value.ref p.1) = (nlp (n0 :: rest')).map (fun p => Value.ref p.1) ++ [Value.ref qN.a] := by simp [nlp]
theorem m_end {w : World} {cn : Str} {cs : Scope} {a : Addr} {ccd : Value} {base h₀ : Heap} {L : Addr}
    {m mg mb : Str → Option Value} {loose : List Str} {mean : ExcName → Option Value} {s : Shared} {Q E : Value → Shared → Prop} {C : MC} {V : MV} {it : Nat} {oit : Obj} {tail : List (Addr × Obj)} {word : Str} {t1 : Tok} {pL : List Value} {pv : Value}
    {more' : List DL} {rest' : List NL} {pD : DL} {qN : NL}
    (K : TailOk C V tail) (B : Below callerA base [] h₀) (F : Fr h₀ L s.heap m) (X : (hd.heap_39 w.params).In h₀) (T : Top topProg loose mean mg mb h₀) (hk : cs.kind = .function)
    (N : News h₀ L s.heap (((it : Addr), oit) :: mLed w C V tail))
    (O : MOrd C it) (Sp : OffAll (mFix C it) tail) (S : MSize C V) (hpv : V.pvs = pL ++ [pv]) (hmo : V.more = more' ++ [pD]) (hre : V.rest = rest' ++ [qN])
    (hm : ∀ p ∈ V.more, p.vs = []) (hd0 : C.d0.vs = [.ref C.xa])
    (hwl : word.length ≤ 1000) (hwb : (Txt.slice word none (some 1) == Str.ofString "{") = false)
    (hret : MEndRet w L h₀ m s Q C V it oit tail word more' rest' pL) :
    wpAny (model lawProg w) (callerA.deeper (envOf cn cs L a ccd)) (call (.ref 133) [.ref C.wr, .str word t1]) Q E s := by
  have nd := mNd O
  obtain ⟨o1, o2, o3, o4, o5, o6, o7, o8, o9, o10, o11, o12⟩ := O.o
  have NT : News h₀ L s.heap tail := fun p hp => N p (.tail _ (mTail hp))
  obtain ⟨x1, x2, hx⟩ := K.xml
  have hm1 : ∀ p ∈ C.d0 :: more', p ∈ C.d0 :: V.more := fun p hp => by
    rw [hmo]
    rcases List.mem_cons.mp hp with rfl | hp
    · exact .head _
    · exact .tail _ (List.mem_append_left _ hp)
  have hr1 : ∀ p ∈ C.n0 :: rest', p ∈ C.n0 :: V.rest := fun p hp => by
    rw [hre]
    rcases List.mem_cons.mp hp with rfl | hp
    · exact .head _
    · exact .tail _ (List.mem_append_left _ hp)
  have hpD : pD ∈ C.d0 :: V.more := by rw [hmo]; exact .tail _ (List.mem_append_right _ (.head _))
  have hpDv : pD.vs = [] := hm pD (by rw [hmo]; exact List.mem_append_right _ (.head _))
  have N3 : News h₀ L s.heap [((C.ds : Addr), lstO ((dlp (C.d0 :: more')).map (fun p => Value.ref p.1) ++ [Value.ref pD.a]).toArray V.n1), (C.ns, lstO (((nlp (C.n0 :: rest')).map (fun p => Value.ref p.1)) ++ [Value.ref qN.a]).toArray V.n2), (C.ps, lstO (pL ++ [pv]).toArray V.n3), (C.pc, lstO V.cI.toArray V.n4), (C.da, lstO #[] C.n5), (C.bm, bmO C.pc), (C.wr, instObj 150 C.dx), (C.dx, wDict w C.k C.kz C.bm C.da C.ds C.ns C.pm C.ps V.rs V.rd 17)] := by
    rw [← dlp_snoc, ← nlp_snoc, ← hpv, ← hmo, ← hre]
    exact newsCons N (by k_mem) (newsCons N (by k_mem) (newsCons N (by k_mem) (newsCons N (by k_mem) (newsCons N (by k_mem) (newsCons N (by k_mem) (newsCons N (by k_mem) (newsCons N (by k_mem) newsNil)))))))
  refine t_end B F X T hk N3 ⟨Nat.lt_trans o1 (Nat.lt_trans o2 o3), o4, o5, o6, o7, o8, o9, o10⟩ ?s1 ?s2 ?s3 ?s4 ?dl ?lD ?dz ?df (NT _ hx).1 hwl hwb ?ret
  case s1 => have := S.more; rw [hmo] at this; simp [dlp] at this ⊢; omega
  case s2 => have := S.rest; rw [hre] at this; simp [nlp] at this ⊢; omega
  case s3 => have := S.pvs; rw [hpv] at this; simp at this; omega
  case s4 => have := S.cI; simp; omega
  case dl =>
    intro p hp
    obtain ⟨d, hd, rfl⟩ := dlp_mem hp
    exact isListOf NT (K.dl d (hm1 d hd))
  case lD =>
    have := isListOf NT (K.dl pD hpD)
    rw [hpDv] at this
    exact this
  case dz =>
    intro p hp
    obtain ⟨d, hd, rfl⟩ := dlp_mem hp
    exact Nat.lt_of_le_of_lt (S.dv d (hm1 d hd)) (by decide)
  case df => exact (flat_more fun p hp => hm p (by rw [hmo]; exact List.mem_append_left _ hp)).trans hd0
  case ret =>
    intro h' tk' gs rd' n1' n2' n3' n4' tA F' N' hgb hkeep
    have sub : ∀ b : Nat, b ∈ [C.ds, C.ns, C.ps, C.pc, C.dx] → b ∈ mFix C it := sub_idx (F := mFix C it) 13 [3, 4, 5, 1, 6] rfl (by decide)
    have NT' : News h₀ L h' tail := fun p hp => newsOf N hkeep (.tail _ (mTail hp)) fun q => Sp p hp (sub _ q)
    refine hret h' tk' gs tA rd' n1' n2' n3' n4' F' ?_ ⟨?_, ?_, ?_, ?_, K.tel, K.deed, K.deedl, K.xml, K.tab, ?_, ?_⟩ hgb
    · refine news_one (newsOf N hkeep (.head _) (off_idx nd 13 [3, 4, 5, 1, 6] 0 rfl (by decide) (by decide))) ?_
      refine news_one ?pc (news_one (newsOf N hkeep (by k_mem) (off_idx nd 13 [3, 4, 5, 1, 6] 2 rfl (by decide) (by decide))) (news_one (N' _ (by k_mem)) (news_one ?ns (news_one (N' _ (by k_mem)) (news_one (N' _ (by k_mem)) ?_)))))
      case pc =>
        have := N' (C.pc, _) (by k_mem)
        simpa using this
      case ns => exact N' (C.ns, _) (by k_mem)
      refine news_one (newsOf N hkeep (by k_mem) (off_idx nd 13 [3, 4, 5, 1, 6] 7 rfl (by decide) (by decide))) ?_
      refine news_one (newsOf N hkeep (by k_mem) (off_idx nd 13 [3, 4, 5, 1, 6] 8 rfl (by decide) (by decide))) ?_
      refine news_one (newsOf N hkeep (by k_mem) (off_idx nd 13 [3, 4, 5, 1, 6] 9 rfl (by decide) (by decide))) ?_
      refine news_one (newsOf N hkeep (by k_mem) (off_idx nd 13 [3, 4, 5, 1, 6] 10 rfl (by decide) (by decide))) ?_
      refine news_one (newsOf N hkeep (by k_mem) (off_idx nd 13 [3, 4, 5, 1, 6] 11 rfl (by decide) (by decide))) ?_
      exact news_one (newsOf N hkeep (by k_mem) (off_idx nd 13 [3, 4, 5, 1, 6] 12 rfl (by decide) (by decide))) NT'
    · exact fun p hp => K.dl p (hm1 p hp)
    · exact fun q hq => K.nl q (hr1 q hq)
    · exact fun q hq => K.nlo q (hr1 q hq)
    · exact fun q hq e he => K.ent q (hr1 q hq) e he
    · have := K.nd
      rw [hre, ← List.cons_append, List.map_append, List.nodup_append] at this
      exact this.1
    · exact fun q hq => ⟨fun p hp => (K.nd2 q (hr1 q hq)).1 p (hm1 p hp), (K.nd2 q (hr1 q hq)).2⟩
/-- what start_ns leaves, on the whole ledger -/
def MNsRet (w : World) (L : Addr) (h₀ : Heap) (m : Str → Option Value) (s : Shared) (Q : Value → Shared → Prop) (C : MC) (V : MV) (it : Nat) (oit : Obj) (rest' : List NL) (qN : NL) (pre uri : Str) (t1 t2 : Tok) : Prop :=
  ∀ h' tk' (t n9' : Nat) tail', Fr h₀ L h' m →
    News h₀ L h' (((it : Addr), oit) :: mLed w C { V with rest := rest' ++ [⟨qN.a, qN.es ++ [⟨t, uri, pre, t2, t1⟩], n9'⟩] } tail') →
    TailOk C { V with rest := rest' ++ [⟨qN.a, qN.es ++ [⟨t, uri, pre, t2, t1⟩], n9'⟩] } tail' → OffAll (mFix C it) tail' → Q .none { s with heap := h', toks := tk' }
theorem m_ns {w : World} {cn : Str} {cs : Scope} {a : Addr} {ccd : Value} {base h₀ : Heap} {L : Addr}
    {m mg mb : Str → Option Value} {loose : List Str} {mean : ExcName → Option Value} {s : Shared} {Q E : Value → Shared → Prop} {C : MC} {V : MV} {it : Nat} {oit : Obj} {tail : List (Addr × Obj)} {pre uri : Str} {t1 t2 : Tok}
    {rest' : List NL} {qN : NL}
    (K : TailOk C V tail) (B : Below callerA base [] h₀) (F : Fr h₀ L s.heap m) (X : (hd.heap_39 w.params).In h₀) (T : Top topProg loose mean mg mb h₀) (hk : cs.kind = .function)
    (N : News h₀ L s.heap (((it : Addr), oit) :: mLed w C V tail))
    (O : MOrd C it) (Sp : OffAll (mFix C it) tail) (S : MSize C V) (hre : V.rest = rest' ++ [qN]) (hu : uri.length ≤ 1000)
    (hret : MNsRet w L h₀ m s Q C V it oit rest' qN pre uri t1 t2) :
    wpAny (model lawProg w) (callerA.deeper (envOf cn cs L a ccd)) (call (.ref 113) [.ref C.wr, .str pre t1, .str uri t2]) Q E s := by
  obtain ⟨o1, o2, o3, o4, o5, o6, o7, o8, o9, o10, o11, o12⟩ := O.o
  have NT : News h₀ L s.heap tail := fun p hp => N p (.tail _ (mTail hp))
  have hqN : qN ∈ C.n0 :: V.rest := by rw [hre]; exact .tail _ (List.mem_append_right _ (.head _))
  have hqa : C.ns < qN.a := K.nlo qN hqN
  have hqf : qN.a ∉ mFix C it := Sp _ (K.nl qN hqN)
  have N3 : News h₀ L s.heap [((qN.a : Addr), lstO (eRefs qN.es).toArray qN.n), (C.ns, lstO ((dArr (nlp (C.n0 :: rest'))).push (.ref qN.a)) V.n2), (C.da, lstO #[] C.n5), (C.wr, instObj 150 C.dx), (C.dx, wDict w C.k C.kz C.bm C.da C.ds C.ns C.pm C.ps V.rs V.rd 17)] := by
    rw [← nArr_snoc, ← hre]
    exact newsCons NT (K.nl qN hqN) (newsCons N (by k_mem) (newsCons N (by k_mem) (newsCons N (by k_mem) (newsCons N (by k_mem) newsNil))))
  refine t_startns B F X T hk N3 ⟨o6, o7, Nat.lt_trans o8 o9, hqa⟩ ?s2 ?s3 ?ret
  case s2 => have := S.rest; rw [hre] at this; simp [nlp, dArr] at this ⊢; omega
  case s3 => have := S.nv qN hqN; simp [eRefs]; omega
  case ret =>
    intro h' tk' t n9' F' N' hft hkeep
    have hkeep2 : ∀ (b : Nat) o, s.heap.get? b = some o → b ∉ [qN.a] → h'.get? b = some o := fun b o e hb => hkeep b o e (fun q => hb (by rw [q]; exact .head _))
    have keepT : ∀ p ∈ tail, p.1 ≠ qN.a → h'.get? p.1 = some p.2 ∧ p.1 ≠ L ∧ h₀.get? p.1 = none := fun p hp hn => newsOf N hkeep2 (.tail _ (mTail hp)) (fun q => hn (List.mem_singleton.mp q))
    have offq : ∀ (b : Nat) o, ((b : Addr), o) ∈ ((it : Addr), oit) :: mLed w C V tail → b ∈ mFix C it → b ∉ [qN.a] := fun b o _ hb q => hqf (by rw [← List.mem_singleton.mp q]; exact hb)
    have fresh : ∀ (a : Nat) o, ((a : Addr), o) ∈ ((it : Addr), oit) :: mLed w C V tail → t ≠ a := fun a o ha q => by
      have e := (N _ ha).1
      dsimp only at e
      rw [← q, hft] at e; cases e
    have inF : ∀ {p : Addr × Obj}, p ∈ tail → p.1 ≠ qN.a → p ∈ ((t : Addr), tupO [.str uri t2, .str pre t1]) :: (qN.a, lstO ((eRefs qN.es).toArray.push (.ref t)) n9') :: tail.filter fun p => decide (p.1 ≠ qN.a) := fun hp hn =>
      .tail _ (.tail _ (List.mem_filter.mpr ⟨hp, by simpa using hn⟩))
    have tupN : ∀ (b : Nat) vs, ((b : Addr), tupO vs) ∈ tail → b ≠ qN.a := fun b vs hb => news_mem NT NT hb (K.nl qN hqN) (fun q => absurd (congrArg Obj.cls q) (by simp))
    have hr1 : ∀ q ∈ C.n0 :: rest', q ∈ C.n0 :: V.rest := fun p hp => by
      rw [hre]
      rcases List.mem_cons.mp hp with rfl | hp
      · exact .head _
      · exact .tail _ (List.mem_append_left _ hp)
    have hrn : ∀ q ∈ C.n0 :: rest', q.a ≠ qN.a := fun q hq e => by
      have := K.nd
      rw [hre, ← List.cons_append, List.map_append, List.nodup_append] at this
      exact this.2.2 q.a (List.mem_map_of_mem hq) qN.a (by simp) e
    have hes : ((eRefs qN.es).toArray.push (.ref t)) = (eRefs (qN.es ++ [⟨t, uri, pre, t2, t1⟩])).toArray := by simp [eRefs]
    have spl : ∀ {q : NL}, q ∈ C.n0 :: (rest' ++ [⟨qN.a, qN.es ++ [⟨t, uri, pre, t2, t1⟩], n9'⟩]) → q ∈ C.n0 :: rest' ∨ q = ⟨qN.a, qN.es ++ [⟨t, uri, pre, t2, t1⟩], n9'⟩ := fun {q} hq => by
      rw [← List.cons_append] at hq
      rcases List.mem_append.mp hq with hq | hq
      · exact .inl hq
      · exact .inr (List.mem_singleton.mp hq)
    refine hret h' tk' t n9' (((t : Addr), tupO [.str uri t2, .str pre t1]) :: (qN.a, lstO ((eRefs qN.es).toArray.push (.ref t)) n9') :: tail.filter fun p => decide (p.1 ≠ qN.a)) F' ?_ ⟨?_, ?_, ?_, ?_, ?_, ?_, ?_, ?_, ?_, ?_, ?_⟩ ?_
    rotate_left
    · exact fun p hp => inF (K.dl p hp) (fun q => (K.nd2 qN hqN).1 p hp q.symm)
    · intro q hq
      rcases spl hq with hq | rfl
      · exact inF (K.nl q (hr1 q hq)) (hrn q hq)
      · show (qN.a, lstO (eRefs (qN.es ++ [⟨t, uri, pre, t2, t1⟩])).toArray n9') ∈ _
        rw [← hes]
        exact .tail _ (.head _)
    · intro q hq
      rcases spl hq with hq | rfl
      · exact K.nlo q (hr1 q hq)
      · exact hqa
    · intro q hq e he
      rcases spl hq with hq | rfl
      · exact ⟨inF (K.ent q (hr1 q hq) e he).1 (tupN _ _ (K.ent q (hr1 q hq) e he).1), (K.ent q (hr1 q hq) e he).2⟩
      · rcases List.mem_append.mp he with he | he
        · exact ⟨inF (K.ent qN hqN e he).1 (tupN _ _ (K.ent qN hqN e he).1), (K.ent qN hqN e he).2⟩
        · rw [List.mem_singleton.mp he]
          exact ⟨.head _, hu⟩
    · exact fun e he => inF (K.tel e he) (tupN _ _ (K.tel e he))
    · exact fun e he => inF (K.deed e he) (tupN _ _ (K.deed e he))
    · exact inF K.deedl (fun q => (K.nd2 qN hqN).2 q.symm)
    · obtain ⟨x1, x2, hx⟩ := K.xml
      exact ⟨x1, x2, inF hx (tupN _ _ hx)⟩
    · rcases K.tab with h | ⟨c', oc', vs', tq, htb, hcm, hcp, hd1, hd2⟩
      · exact .inl h
      · exact .inr ⟨c', oc', vs', tq, htb, inF hcm (news_mem NT NT hcm (K.nl qN hqN) (fun q => by rw [q] at hd1; cases hd1)), hcp, hd1, hd2⟩
    · have := K.nd
      rw [hre] at this
      simpa using this
    · intro q hq
      rcases spl hq with hq | rfl
      · exact K.nd2 q (hr1 q hq)
      · exact K.nd2 qN hqN
    · intro p hp q
      rcases List.mem_cons.mp hp with rfl | hp
      · have q' : t ∈ mFix C it := q
        simp only [mFix, List.mem_cons, List.not_mem_nil, or_false] at q'
        rcases q' with q | q | q | q | q | q | q | q | q | q | q | q | q <;> exact fresh _ _ (by k_mem) q
      rcases List.mem_cons.mp hp with rfl | hp
      · exact hqf q
      · exact Sp p (List.mem_filter.mp hp).1 q
    · have go : ∀ (b : Nat) o, ((b : Addr), o) ∈ ((it : Addr), oit) :: mLed w C V tail → b ∈ mFix C it → h'.get? b = some o ∧ b ≠ L ∧ h₀.get? b = none := fun b o h1 h2 => newsOf N hkeep2 h1 (offq b o h1 h2)
      have hns : dArr (nlp (C.n0 :: (rest' ++ [⟨qN.a, qN.es ++ [⟨t, uri, pre, t2, t1⟩], n9'⟩]))) = dArr (nlp (C.n0 :: V.rest)) := by rw [hre, nArr_snoc, nArr_snoc]
      dsimp only [mLed]
      rw [hns]
      refine news_one (go it _ (.head _) (by k_mem)) (news_one (go _ _ (by k_mem) (by k_mem)) (news_one (go _ _ (by k_mem) (by k_mem)) (news_one (go _ _ (by k_mem) (by k_mem)) (news_one (go _ _ (by k_mem) (by k_mem)) (news_one (go _ _ (by k_mem) (by k_mem)) (news_one (go _ _ (by k_mem) (by k_mem)) (news_one (go _ _ (by k_mem) (by k_mem)) (news_one (go _ _ (by k_mem) (by k_mem)) (news_one (go _ _ (by k_mem) (by k_mem)) (news_one (go _ _ (by k_mem) (by k_mem)) (news_one (go _ _ (by k_mem) (by k_mem)) (news_one (go 123 _ (by k_mem) (by k_mem)) ?_))))))))))))
      refine news_one (N' _ (by k_mem)) (news_one (N' _ (by k_mem)) fun p hp => ?_)
      obtain ⟨h1, h2⟩ := List.mem_filter.mp hp
      exact keepT p h1 (by simpa using h2)
end
section
open PySem PySem.W PyProof.Rows PySem.W.X PySem.Calls
set_option autoImplicit false
set_option pp.deepTerms false
set_option pp.proofs false
set_option maxRecDepth 100000
set_option maxHeartbeats 8000000
theorem m_meant {w : World} {cn : Str} {cs : Scope} {a : Addr} {ccd : Value} {base h₀ : Heap} {L : Addr}
    {m mg mb : Str → Option Value} {loose : List Str} {mean : ExcName → Option Value} {s : Shared} {Q E : Value → Shared → Prop} {C : MC} {V : MV} {tail news : List (Addr × Obj)} {pre : Str} {t1 : Tok}
    (K : TailOk C V tail) (B : Below callerA base [] h₀) (XB : (hd.heap_39 w.params).In base) (TB : Top topProg loose mean mg mb base) (F : Fr h₀ L s.heap m) (X : (hd.heap_39 w.params).In h₀) (T : Top topProg loose mean mg mb h₀) (hk : cs.kind = .function)
    (N : News h₀ L s.heap news) (hsub : ∀ p ∈ mLed w C V tail, p ∈ news) (S : MSize C V) (hp : pre = Str.ofString "p" ∨ pre = Str.ofString "xs")
    (hret : ∀ r h' tk' gs, Fr h₀ L h' m → News h₀ L h' news → GenState.bare gs = true → IsOpt r (meant pre ((V.rest.map NL.es).reverse.flatten ++ C.n0.es)) → Q r { s with heap := h', toks := tk', gens := s.gens.push gs }) :
    wpAny (model lawProg w) (callerA.deeper (envOf cn cs L a ccd)) (call (.ref 232) [.ref C.wr, .str pre t1]) Q E s := by
  have NM : News h₀ L s.heap (mLed w C V tail) := fun p hp => N p (hsub p hp)
  have NT : News h₀ L s.heap tail := fun p hp => NM p (mTail hp)
  have hpl : pre.length ≤ 2 := by rcases hp with rfl | rfl <;> decide +kernel
  refine t_meant (ns := C.ns) (lists := nlp (C.n0 :: V.rest)) (es := (V.rest.map NL.es).reverse.flatten ++ C.n0.es) B XB TB F X T hk (newsCons NM (by k_mem) (newsCons NM (by k_mem) newsNil)) hp hpl ⟨?_, ?_⟩ ?_ ?_ ?_ ?_
  · exact ⟨_, (NM (C.ns, _) (by k_mem)).1, rfl, V.n2, rfl⟩
  · intro p hp
    obtain ⟨d, hd, rfl⟩ := nlp_mem hp
    exact isListOf NT (K.nl d hd)
  · intro p hp
    obtain ⟨d, hd, rfl⟩ := nlp_mem hp
    refine Nat.lt_of_le_of_lt (?_ : _ ≤ 900) (by decide)
    have := S.nv d hd
    simpa [eRefs] using this
  · rw [flat_nls]
    simp
  · intro e he
    rcases List.mem_append.mp he with he | he
    · obtain ⟨l, hl, he⟩ := List.mem_flatten.mp he
      obtain ⟨q, hq, rfl⟩ := List.mem_map.mp (List.mem_reverse.mp hl)
      exact ⟨(NT _ (K.ent q (.tail _ hq) e he).1).1, (K.ent q (.tail _ hq) e he).2⟩
    · exact ⟨(NT _ (K.ent C.n0 (.head _) e he).1).1, (K.ent C.n0 (.head _) e he).2⟩
  · intro r h' tk' gs hkeep F' hgb hr
    exact hret r h' tk' gs F' (fun p hp => ⟨hkeep _ _ (N p hp).2.1 (N p hp).1, (N p hp).2⟩) hgb hr
theorem m_due {w : World} {cn : Str} {cs : Scope} {a : Addr} {ccd : Value} {base h₀ : Heap} {L : Addr}
    {m mg mb : Str → Option Value} {loose : List Str} {mean : ExcName → Option Value} {s : Shared} {Q E : Value → Shared → Prop} {C : MC} {V : MV} {tail news : List (Addr × Obj)} {pre here : Str} {t1 t2 : Tok}
    (K : TailOk C V tail) (B : Below callerA base [] h₀) (F : Fr h₀ L s.heap m) (X : (hd.heap_39 w.params).In h₀) (T : Top topProg loose mean mg mb h₀) (hk : cs.kind = .function)
    (N : News h₀ L s.heap news) (hsub : ∀ p ∈ mLed w C V tail, p ∈ news)
    (hlen : ∀ e ∈ V.ts, e.place.length ≤ 1000 ∧ e.uri.length ≤ 1000 ∧ PyData.strOk e.place = true) (hlh : here.length ≤ 1000) (hlo : PyData.strOk here = true)
    (hret : ∀ r h' tk', Fr h₀ L h' m → News h₀ L h' news → IsOpt r (due pre here V.ts) → Q r { s with heap := h', toks := tk' }) :
    wpAny (model lawProg w) (callerA.deeper (envOf cn cs L a ccd)) (call (.ref 239) [.ref C.mx, .ref C.tl, .str pre t1, .str here t2]) Q E s := by
  have NM : News h₀ L s.heap (mLed w C V tail) := fun p hp => N p (hsub p hp)
  have NT : News h₀ L s.heap tail := fun p hp => NM p (mTail hp)
  exact t_due (ts := V.ts) B F X T hk (newsCons NM (by k_mem) (newsCons NM (by k_mem) (newsCons NM (by k_mem) newsNil))) (fun e he => (NT _ (K.tel e he)).1) hlen hlh hlo
    (fun r h' tk' hkeep hr => hret r h' tk' (Mine.Fr.kept F hkeep) (Mine.News.kept N hkeep) hr)
theorem ne_opt {prog : Program} {w : World} {A : Around} {E : Value → Shared → Prop} {s : Shared} {r1 r2 : Value} {o1 o2 : Option Str} {Q : Value → Shared → Prop} (h1 : IsOpt r1 o1) (h2 : IsOpt r2 o2) (he : o1 = o2) (h : Q (.bool false) s) :
    wpAny (model prog w) A (compareOp .NotEq r1 r2) Q E s := by
  subst he
  rcases h1 with ⟨rfl, rfl⟩ | ⟨x, t, rfl, rfl⟩ <;> rcases h2 with ⟨h2, rfl⟩ | ⟨y, u, h2, rfl⟩
  · exact (SeqAt.RcNeAt.none_none (A := A) (s := s)) prog w E Q h
  · cases h2
  · cases h2
  · cases h2
    refine PyProof.Rows.ne_str ?_
    rw [bne_self_eq_false]
    exact h
/-- the law's names while it loops -/
def mL (m0 : Str → Option Value) (vk vh vw tx vu vp : Option Value) : Str → Option Value := fun y =>
  if y = Str.ofString "word" then vw else if y = Str.ofString "here" then vh else if y = Str.ofString "kind" then vk else if y = Str.ofString "text" then tx else if y = Str.ofString "uri" then vu else if y = Str.ofString "prefix" then vp else m0 y
theorem mL_of {m' m0 : Str → Option Value} (h : ∀ y, y ≠ Str.ofString "word" → y ≠ Str.ofString "here" → y ≠ Str.ofString "kind" → y ≠ Str.ofString "text" → y ≠ Str.ofString "uri" → y ≠ Str.ofString "prefix" → m' y = m0 y) :
    m' = mL m0 (m' (Str.ofString "kind")) (m' (Str.ofString "here")) (m' (Str.ofString "word")) (m' (Str.ofString "text")) (m' (Str.ofString "uri")) (m' (Str.ofString "prefix")) := by
  funext y
  unfold mL
  by_cases h1 : y = Str.ofString "word"
  · rw [if_pos h1, h1]
  rw [if_neg h1]
  by_cases h2 : y = Str.ofString "here"
  · rw [if_pos h2, h2]
  rw [if_neg h2]
  by_cases h3 : y = Str.ofString "kind"
  · rw [if_pos h3, h3]
  rw [if_neg h3]
  by_cases h4 : y = Str.ofString "text"
  · rw [if_pos h4, h4]
  rw [if_neg h4]
  by_cases h5 : y = Str.ofString "uri"
  · rw [if_pos h5, h5]
  rw [if_neg h5]
  by_cases h6 : y = Str.ofString "prefix"
  · rw [if_pos h6, h6]
  rw [if_neg h6]
  exact h y h1 h2 h3 h4 h5 h6
theorem mL_next {m0 : Str → Option Value} {vk vh vw tx vu vp : Option Value} {va vb vc : Value} (q : Str) :
    (if q = Str.ofString "word" then some vc else if q = Str.ofString "here" then some vb else if q = Str.ofString "kind" then some va else mL m0 vk vh vw tx vu vp q) = mL m0 (some va) (some vb) (some vc) tx vu vp q := by
  unfold mL
  by_cases h1 : q = Str.ofString "word"
  · simp only [if_pos h1]
  by_cases h2 : q = Str.ofString "here"
  · simp only [if_neg h1, if_pos h2]
  by_cases h3 : q = Str.ofString "kind"
  · simp only [if_neg h1, if_neg h2, if_pos h3]
  simp only [if_neg h1, if_neg h2, if_neg h3]
/-- the constants fit the script -/
structure COk (zs : List Int) (C : MC) : Prop where
  d0 : C.d0.vs = [.ref C.xa]
  n0 : C.n0.es.map (fun e => (e.uri, e.p)) = [(Str.ofString "http://www.w3.org/XML/1998/namespace", Str.ofString "xml"), (Str.ofString "http://www.w3.org/1999/xhtml", Str.ofString "html"), (Str.ofString "http://www.w3.org/1999/02/22-rdf-syntax-ns#", Str.ofString "rdf"), (Str.ofString "http://schemas.xmlsoap.org/wsdl/", Str.ofString "wsdl"), (Str.ofString "http://www.w3.org/2001/XMLSchema", Str.ofString "xs"), (Str.ofString "http://www.w3.org/2001/XMLSchema-instance", Str.ofString "xsi"), (Str.ofString "http://purl.org/dc/elements/1.1/", Str.ofString "dc")]
  dds : C.dds.map DeedAt.pd = (dRun zs).out
  ord : ∀ it, C.tl < it → MOrd C it
/-- the state behind i deeds -/
structure MOk (zs : List Int) (i : Nat) (C : MC) (V : MV) (tail : List (Addr × Obj)) (txt : Str) : Prop where
  plain : PlainOk i (dAt zs i) (V.rest.map NL.es) V.ts
  text : TextOk V.cI i txt
  tail : TailOk C V tail
  more : V.more.length = (dAt zs i).pre.length
  mv : ∀ p ∈ V.more, p.vs = []
  pvl : V.pvs.length = (dAt zs i).pre.length + 1
  tn : V.ts.length ≤ i
  nv : ∀ q ∈ V.rest, q.es.length ≤ i
  tel : ∀ e ∈ V.ts, e.place.length ≤ 1000 ∧ e.uri.length ≤ 1000 ∧ PyData.strOk e.place = true
theorem MOk.size {zs : List Int} {i : Nat} {C : MC} {V : MV} {tail : List (Addr × Obj)} {txt : Str} (h : MOk zs i C V tail txt) (hC : COk zs C) (hi : i ≤ 20) : MSize C V := by
  have hp := h.plain.bd.pre
  have hr := h.plain.held.1
  rw [List.length_map, List.length_append, List.length_singleton] at hr
  refine ⟨by have := h.more; omega, by omega, by have := h.pvl; omega, by have := h.text.num; omega, by have := h.tn; omega, fun p hp => ?_, fun q hq => ?_⟩
  · rcases List.mem_cons.mp hp with rfl | hp
    · rw [hC.d0]; exact Nat.le_of_ble_eq_true rfl
    · rw [h.mv p hp]; exact Nat.zero_le _
  · rcases List.mem_cons.mp hq with rfl | hq
    · have := congrArg List.length hC.n0
      rw [List.length_map] at this
      rw [this]; exact Nat.le_of_ble_eq_true rfl
    · have := h.nv q hq; omega
/-- the loop's invariant -/
def MJ (w : World) (zs : List Int) (C : MC) (m0 : Str → Option Value) (i : Nat) (m : Str → Option Value) (news : List (Addr × Obj)) (g : Array GenState) : Prop :=
  AllBare g ∧ ∃ V tail txt tt vk vh vw vu vp, m = mL m0 vk vh vw (some (.str txt tt)) vu vp ∧ news = mLed w C V tail ∧ MOk zs i C V tail txt ∧ OffAll [C.pc, C.tl, C.ds, C.ns, C.ps, C.dx, C.da, C.bm, C.wr, C.mx, C.mdx, 123] tail
/-- behind a deed, ahead of the asking -/
def MMid (w : World) (zs : List Int) (C : MC) (m0 : Str → Option Value) (base : Heap) (L : Addr) (it : Nat) (oit : Obj) (i : Nat) (d : Drawn) (os : OsState) (s' : Shared) : Prop :=
  ∃ V tail txt tt th vk vw vu vp, Fr base L s'.heap (mL m0 vk (some (.str (dAt zs i).cur th)) vw (some (.str txt tt)) vu vp) ∧ News base L s'.heap (((it : Addr), oit) :: mLed w C V tail) ∧ OffAll (mFix C it) tail ∧ MOk zs i C V tail txt ∧ AllBare s'.gens ∧ s'.drawn = d ∧ s'.os = os
theorem mid_end {w : World} {zs : List Int} {C : MC} {m0 m' : Str → Option Value} {base h : Heap} {L : Addr} {it : Nat} {oit : Obj} {i : Nat} {d : Drawn} {os : OsState} {V : MV} {tail news : List (Addr × Obj)} {txt : Str} {tt : Tok} {g : Array GenState} {tk : Nat}
    (F : Fr base L h m') (hm : ∀ y, y ≠ Str.ofString "word" → y ≠ Str.ofString "here" → y ≠ Str.ofString "kind" → y ≠ Str.ofString "text" → y ≠ Str.ofString "uri" → y ≠ Str.ofString "prefix" → m' y = m0 y) (ht : m' (Str.ofString "text") = some (.str txt tt))
    (N : News base L h news) (hsub : ∀ p ∈ ((it : Addr), oit) :: mLed w C V tail, p ∈ news) (O : MOrd C it) (Sp : OffAll (mFix C it) tail) (K : MOk zs i C V tail txt) (hg : AllBare g) :
    TurnEnd2 base L it oit (MJ w zs C m0) i d os ⟨h, g, d, tk, os⟩ := by
  refine ⟨m', mLed w C V tail, F, fun p hp => N p (hsub p hp), ?_, ⟨hg, V, tail, txt, tt, _, _, _, _, _, (mL_of hm).trans (by rw [ht]), rfl, K, fun p hp q => Sp p hp (.tail _ q)⟩, rfl, rfl⟩
  have low : ∀ x ∈ [123, C.mdx, C.mx, C.pc, C.bm, C.dx, C.wr, C.da, C.ds, C.ns, C.ps, C.tl], x < it := by
    obtain ⟨h1, h2, h3, h4, h5, h6, h7, h8, h9, h10, h11, h12⟩ := O.o
    exact Asc.le_last (l := [123, C.mdx, C.mx, C.pc, C.bm, C.dx, C.wr, C.da, C.ds, C.ns, C.ps, C.tl]) (.cons h1 (.cons h2 (.cons h3 (.cons h4 (.cons h5 (.cons h6 (.cons h7 (.cons h8 (.cons h9 (.cons h10 (.cons h11 (.cons h12 (.one _)))))))))))))
  intro q hq
  have key : ∀ {b : Nat} {o : Obj} {r : List (Addr × Obj)}, b < it → (∀ q ∈ r, q.1 ≠ it) → ∀ q ∈ ((b : Addr), o) :: r, q.1 ≠ it := fun hb hr q hq => by
    rcases List.mem_cons.mp hq with rfl | hq
    · exact Nat.ne_of_lt hb
    · exact hr q hq
  refine key (low _ (by k_mem)) (key (low _ (by k_mem)) (key (low _ (by k_mem)) (key (low _ (by k_mem)) (key (low _ (by k_mem)) (key (low _ (by k_mem)) (key (low _ (by k_mem)) (key (low _ (by k_mem)) (key (low _ (by k_mem)) (key (low _ (by k_mem)) (key (low _ (by k_mem)) (key (low _ (by k_mem)) (fun q hq e => Sp q hq (by rw [e]; exact .head _))))))))))))) q hq
end
section
open PySem PySem.W PyProof.Rows PySem.W.X PySem.Calls
set_option autoImplicit false
set_option pp.deepTerms false
set_option pp.proofs false
set_option maxRecDepth 100000
set_option maxHeartbeats 8000000
abbrev wEntT (w : World) (x : String) (t : Tok) (v : Value) : DictEntry := { hash := PyData.keyHash w.params (Str.ofString x), key := .str (Str.ofString x) t, val := v }
abbrev wDictT (w : World) (t0 t1 t2 t3 t4 t5 t6 t7 t8 t9 t10 t11 t12 t13 t14 t15 t16 kz : Tok) (bm da ds ns pm ps : Nat) (rs rd : Bool) (n : Nat) : Obj := dictOf [
  wEntT w "_write" t0 (.ref bm),
  wEntT w "_data" t1 (.ref da),
  wEntT w "_with_comments" t2 (.bool false),
  wEntT w "_strip_text" t3 (.bool false),
  wEntT w "_exclude_attrs" t4 .none,
  wEntT w "_exclude_tags" t5 .none,
  wEntT w "_rewrite_prefixes" t6 (.bool false),
  wEntT w "_qname_aware_tags" t7 .none,
  wEntT w "_find_qname_aware_attrs" t8 .none,
  wEntT w "_declared_ns_stack" t9 (.ref ds),
  wEntT w "_ns_stack" t10 (.ref ns),
  wEntT w "_prefix_map" t11 (.ref pm),
  wEntT w "_preserve_space" t12 (.ref ps),
  wEntT w "_pending_start" t13 .none,
  wEntT w "_root_seen" t14 (.bool rs),
  wEntT w "_root_done" t15 (.bool rd),
  wEntT w "_ignored_depth" t16 (.int 0 kz)] n
/-- the loop's first state, out of the walk's own ledger -/
theorem mk_start {w : World} {base h1 h2 : Heap} {L : Addr} {zs : List Int} {nl D1 l7 D2 tl ps pm lN a7 a6 a5 a4 a3 a2 a1 nb D3 ns ds d0 xa da wr dx bm pc pd mx mdx dl : Nat} {o1 o2 o3 o4 opm opd oD3 : Obj} {cN nN n1 n2 n3 n4 n5 nT nd0 nD : Nat}
    {t1 t2 t3 t4 t5 t6 t7 u1 u2 u3 u4 u5 u6 u7 x1 x2 kd k0 k1 k2 k3 k4 k5 k6 k7 k8 k9 k10 k11 k12 k13 k14 k15 k16 kz : Tok} {dds : List DeedAt}
    (N1 : News base L h1 [((nl : Addr), o1), (D1, o2), (l7, o3), (D2, o4), (tl, lstO #[] nT), (ps, lstO #[.bool false] n3), (pm, opm), (lN, lstO #[] nN),
      (a7, tupO [vstr "http://purl.org/dc/elements/1.1/" t7, vstr "dc" u7]), (a6, tupO [vstr "http://www.w3.org/2001/XMLSchema-instance" t6, vstr "xsi" u6]), (a5, tupO [vstr "http://www.w3.org/2001/XMLSchema" t5, vstr "xs" u5]),
      (a4, tupO [vstr "http://schemas.xmlsoap.org/wsdl/" t4, vstr "wsdl" u4]), (a3, tupO [vstr "http://www.w3.org/1999/02/22-rdf-syntax-ns#" t3, vstr "rdf" u3]), (a2, tupO [vstr "http://www.w3.org/1999/xhtml" t2, vstr "html" u2]), (a1, tupO [vstr "http://www.w3.org/XML/1998/namespace" t1, vstr "xml" u1]),
      (nb, lstO #[.ref a1, .ref a2, .ref a3, .ref a4, .ref a5, .ref a6, .ref a7] cN), (D3, oD3), (ns, lstO ((#[].push (.ref nb)).push (.ref lN)) n2), (ds, lstO #[.ref d0] n1), (d0, lstO #[.ref xa] nd0),
      (xa, tupO [vstr "http://www.w3.org/XML/1998/namespace" x1, vstr "xml" x2]), (da, lstO #[] n5), (wr, instObj 150 dx), (dx, wDictT w k0 k1 k2 k3 k4 k5 k6 k7 k8 k9 k10 k11 k12 k13 k14 k15 k16 kz bm da ds ns pm ps false false 17), (bm, bmO pc), (pc, lstO #[] n4), (pd, opd), (mx, instObj 214 mdx), (mdx, mgDict w kd pd), (123, tabObj #[])])
    (N2 : News base L h2 (((dl : Addr), lstO (dRefs dds).toArray nD) :: dNews dds)) (hkp : Mine.Keeps h1 h2) (hdl : h1.get? dl = none) (hdd : ∀ p ∈ dNews dds, h1.get? p.1 = none) (hds : dds.map DeedAt.pd = (dRun zs).out)
    (o : 123 < mdx ∧ mdx < mx ∧ mx < pc ∧ pc < bm ∧ bm < dx ∧ dx < wr ∧ wr < da ∧ da < ds ∧ ds < ns ∧ ns < ps ∧ ps < tl)
    (p : da < xa ∧ xa < ds ∧ da < d0 ∧ d0 < ds ∧ ns < nb ∧ nb < lN ∧ lN < ps) (q : (ns < a1 ∧ a1 < ps) ∧ (ns < a2 ∧ a2 < ps) ∧ (ns < a3 ∧ a3 < ps) ∧ (ns < a4 ∧ a4 < ps) ∧ (ns < a5 ∧ a5 < ps) ∧ (ns < a6 ∧ a6 < ps) ∧ (ns < a7 ∧ a7 < ps)) :
    ∃ k tail, News base L h2 (mLed w ⟨pc, tl, ds, ns, ps, dx, da, bm, wr, mx, mdx, pd, pm, dl, xa, k, kz, kd, n5, nD, ⟨d0, [.ref xa], nd0⟩, ⟨nb, [⟨a1, Str.ofString "http://www.w3.org/XML/1998/namespace", Str.ofString "xml", t1, u1⟩, ⟨a2, Str.ofString "http://www.w3.org/1999/xhtml", Str.ofString "html", t2, u2⟩, ⟨a3, Str.ofString "http://www.w3.org/1999/02/22-rdf-syntax-ns#", Str.ofString "rdf", t3, u3⟩, ⟨a4, Str.ofString "http://schemas.xmlsoap.org/wsdl/", Str.ofString "wsdl", t4, u4⟩, ⟨a5, Str.ofString "http://www.w3.org/2001/XMLSchema", Str.ofString "xs", t5, u5⟩, ⟨a6, Str.ofString "http://www.w3.org/2001/XMLSchema-instance", Str.ofString "xsi", t6, u6⟩, ⟨a7, Str.ofString "http://purl.org/dc/elements/1.1/", Str.ofString "dc", t7, u7⟩], cN⟩, dds⟩ ⟨[], [], [], [⟨lN, [], nN⟩], [.bool false], false, false, tabObj #[], n1, n2, n3, n4, nT⟩ tail) ∧
      MOk zs 0 ⟨pc, tl, ds, ns, ps, dx, da, bm, wr, mx, mdx, pd, pm, dl, xa, k, kz, kd, n5, nD, ⟨d0, [.ref xa], nd0⟩, ⟨nb, [⟨a1, Str.ofString "http://www.w3.org/XML/1998/namespace", Str.ofString "xml", t1, u1⟩, ⟨a2, Str.ofString "http://www.w3.org/1999/xhtml", Str.ofString "html", t2, u2⟩, ⟨a3, Str.ofString "http://www.w3.org/1999/02/22-rdf-syntax-ns#", Str.ofString "rdf", t3, u3⟩, ⟨a4, Str.ofString "http://schemas.xmlsoap.org/wsdl/", Str.ofString "wsdl", t4, u4⟩, ⟨a5, Str.ofString "http://www.w3.org/2001/XMLSchema", Str.ofString "xs", t5, u5⟩, ⟨a6, Str.ofString "http://www.w3.org/2001/XMLSchema-instance", Str.ofString "xsi", t6, u6⟩, ⟨a7, Str.ofString "http://purl.org/dc/elements/1.1/", Str.ofString "dc", t7, u7⟩], cN⟩, dds⟩ ⟨[], [], [], [⟨lN, [], nN⟩], [.bool false], false, false, tabObj #[], n1, n2, n3, n4, nT⟩ tail (Str.ofString "") ∧
      OffAll [pc, tl, ds, ns, ps, dx, da, bm, wr, mx, mdx, 123] tail ∧
      COk zs ⟨pc, tl, ds, ns, ps, dx, da, bm, wr, mx, mdx, pd, pm, dl, xa, k, kz, kd, n5, nD, ⟨d0, [.ref xa], nd0⟩, ⟨nb, [⟨a1, Str.ofString "http://www.w3.org/XML/1998/namespace", Str.ofString "xml", t1, u1⟩, ⟨a2, Str.ofString "http://www.w3.org/1999/xhtml", Str.ofString "html", t2, u2⟩, ⟨a3, Str.ofString "http://www.w3.org/1999/02/22-rdf-syntax-ns#", Str.ofString "rdf", t3, u3⟩, ⟨a4, Str.ofString "http://schemas.xmlsoap.org/wsdl/", Str.ofString "wsdl", t4, u4⟩, ⟨a5, Str.ofString "http://www.w3.org/2001/XMLSchema", Str.ofString "xs", t5, u5⟩, ⟨a6, Str.ofString "http://www.w3.org/2001/XMLSchema-instance", Str.ofString "xsi", t6, u6⟩, ⟨a7, Str.ofString "http://purl.org/dc/elements/1.1/", Str.ofString "dc", t7, u7⟩], cN⟩, dds⟩ := by
  refine ⟨fun i => [k0, k1, k2, k3, k4, k5, k6, k7, k8, k9, k10, k11, k12, k13, k14, k15, k16].getD i 0,
    ((lN : Addr), lstO #[] nN) :: (a7, tupO [vstr "http://purl.org/dc/elements/1.1/" t7, vstr "dc" u7]) :: (a6, tupO [vstr "http://www.w3.org/2001/XMLSchema-instance" t6, vstr "xsi" u6]) :: (a5, tupO [vstr "http://www.w3.org/2001/XMLSchema" t5, vstr "xs" u5]) ::
      (a4, tupO [vstr "http://schemas.xmlsoap.org/wsdl/" t4, vstr "wsdl" u4]) :: (a3, tupO [vstr "http://www.w3.org/1999/02/22-rdf-syntax-ns#" t3, vstr "rdf" u3]) :: (a2, tupO [vstr "http://www.w3.org/1999/xhtml" t2, vstr "html" u2]) :: (a1, tupO [vstr "http://www.w3.org/XML/1998/namespace" t1, vstr "xml" u1]) ::
      (nb, lstO #[.ref a1, .ref a2, .ref a3, .ref a4, .ref a5, .ref a6, .ref a7] cN) :: (d0, lstO #[.ref xa] nd0) :: (xa, tupO [vstr "http://www.w3.org/XML/1998/namespace" x1, vstr "xml" x2]) :: (dl, lstO (dRefs dds).toArray nD) :: dNews dds, ?_, ⟨plain_start [] rfl, textOk_start, ⟨?_, ?_, ?_, ?_, ?_, ?_, ?_, ?_, ?_, ?_, ?_⟩, rfl, ?_, rfl, Nat.le_refl _, ?_, ?_⟩, ?_, ⟨rfl, rfl, hds, fun it h => ⟨o.1, o.2.1, o.2.2.1, o.2.2.2.1, o.2.2.2.2.1, o.2.2.2.2.2.1, o.2.2.2.2.2.2.1, o.2.2.2.2.2.2.2.1, o.2.2.2.2.2.2.2.2.1, o.2.2.2.2.2.2.2.2.2.1, o.2.2.2.2.2.2.2.2.2.2, h⟩⟩⟩
  · have M1 := Mine.News.kept N1 hkp
    exact newsCons M1 (by k_mem) (newsCons M1 (by k_mem) (newsCons M1 (by k_mem) (newsCons M1 (by k_mem) (newsCons M1 (by k_mem) (newsCons M1 (by k_mem) (newsCons M1 (by k_mem) (newsCons M1 (by k_mem) (newsCons M1 (by k_mem) (newsCons M1 (by k_mem) (newsCons M1 (by k_mem) (newsCons M1 (by k_mem)
      (newsCons M1 (by k_mem) (newsCons M1 (by k_mem) (newsCons M1 (by k_mem) (newsCons M1 (by k_mem) (newsCons M1 (by k_mem) (newsCons M1 (by k_mem) (newsCons M1 (by k_mem) (newsCons M1 (by k_mem) (newsCons M1 (by k_mem) (newsCons M1 (by k_mem) (newsCons M1 (by k_mem) N2))))))))))))))))))))))
  · intro p hp
    rw [List.mem_singleton.mp hp]
    k_mem
  · intro q hq
    simp only [List.mem_cons, List.not_mem_nil, or_false] at hq
    rcases hq with rfl | rfl <;> k_mem
  · intro q hq
    simp only [List.mem_cons, List.not_mem_nil, or_false] at hq
    rcases hq with rfl | rfl
    · exact p.2.2.2.2.1
    · exact Nat.lt_trans p.2.2.2.2.1 p.2.2.2.2.2.1
  · intro q hq e he
    simp only [List.mem_cons, List.not_mem_nil, or_false] at hq
    rcases hq with rfl | rfl
    · simp only [List.mem_cons, List.not_mem_nil, or_false] at he
      rcases he with rfl | rfl | rfl | rfl | rfl | rfl | rfl <;> exact ⟨by k_mem, by dsimp only; decide +kernel⟩
    · cases he
  · exact fun _ h => nomatch h
  · intro e he
    have : ((e.a : Addr), e.obj) ∈ dNews dds := List.mem_map_of_mem (f := fun e : DeedAt => ((e.a : Addr), e.obj)) he
    exact .tail _ (.tail _ (.tail _ (.tail _ (.tail _ (.tail _ (.tail _ (.tail _ (.tail _ (.tail _ (.tail _ (.tail _ this)))))))))))
  · k_mem
  · exact ⟨x1, x2, by k_mem⟩
  · exact .inl rfl
  · exact List.nodup_cons.mpr ⟨fun h => Nat.ne_of_lt p.2.2.2.2.2.1 (List.mem_singleton.mp h), List.nodup_cons.mpr ⟨List.not_mem_nil, List.nodup_nil⟩⟩
  · intro q hq
    simp only [List.mem_cons, List.not_mem_nil, or_false] at hq
    have e1 := (N1 (nb, _) (by k_mem)).1
    have e2 := (N1 (lN, _) (by k_mem)).1
    refine ⟨fun p9 hp9 => ?_, ?_⟩
    · rw [List.mem_singleton.mp hp9]
      have h0 := Nat.lt_trans (Nat.lt_trans p.2.2.2.1 o.2.2.2.2.2.2.2.2.1) p.2.2.2.2.1
      rcases hq with rfl | rfl
      · exact Nat.ne_of_gt h0
      · exact Nat.ne_of_gt (Nat.lt_trans h0 p.2.2.2.2.2.1)
    · rcases hq with rfl | rfl
      · exact fun q => by dsimp only at q e1; rw [q, hdl] at e1; cases e1
      · exact fun q => by dsimp only at q e2; rw [q, hdl] at e2; cases e2
  · exact fun _ h => nomatch h
  · intro q hq
    rw [List.mem_singleton.mp hq]; exact Nat.le_refl _
  · exact fun _ h => nomatch h
  · obtain ⟨o1, o2, o3, o4, o5, o6, o7, o8, o9, o10, o11⟩ := o
    obtain ⟨p1, p2, p3, p4, p5, p6, p7⟩ := p
    obtain ⟨q1, q2, q3, q4, q5, q6, q7⟩ := q
    have hin : ∀ b ∈ [pc, tl, ds, ns, ps, dx, da, bm, wr, mx, mdx, 123], ∃ o, h1.get? b = some o := fun b hb => by
      simp only [List.mem_cons, List.not_mem_nil, or_false] at hb
      rcases hb with rfl | rfl | rfl | rfl | rfl | rfl | rfl | rfl | rfl | rfl | rfl | rfl <;> exact ⟨_, (N1 (_, _) (by k_mem)).1⟩
    have key : ∀ {b : Nat} {o : Obj} {r : List (Addr × Obj)}, b ∉ [pc, tl, ds, ns, ps, dx, da, bm, wr, mx, mdx, 123] → OffAll [pc, tl, ds, ns, ps, dx, da, bm, wr, mx, mdx, 123] r → OffAll [pc, tl, ds, ns, ps, dx, da, bm, wr, mx, mdx, 123] (((b : Addr), o) :: r) := fun h1 h2 q hq => by
      rcases List.mem_cons.mp hq with rfl | hq
      · exact h1
      · exact h2 q hq
    have numA : ∀ {b : Nat}, da < b → b < ds → b ∉ [pc, tl, ds, ns, ps, dx, da, bm, wr, mx, mdx, 123] := fun {b} h1 h2 q => by
      have lo : ∀ x ∈ [123, mdx, mx, pc, bm, dx, wr, da], x < b := Asc.le_last (l := [123, mdx, mx, pc, bm, dx, wr, da]) (.cons o1 (.cons o2 (.cons o3 (.cons o4 (.cons o5 (.cons o6 (.cons o7 (.cons h1 (.one _)))))))))
      have hi : ∀ x ∈ [ds, ns, ps, tl], b < x := Asc.all (.cons h2 (.cons o9 (.cons o10 (.cons o11 (.one _)))))
      rcases List.mem_append.mp (sub_idx (F := [123, mdx, mx, pc, bm, dx, wr, da] ++ [ds, ns, ps, tl]) 12 [3, 11, 8, 9, 10, 5, 7, 4, 6, 2, 1, 0] rfl (by decide) b q) with q | q
      · exact Nat.lt_irrefl _ (lo b q)
      · exact Nat.lt_irrefl _ (hi b q)
    have numB : ∀ {b : Nat}, ns < b → b < ps → b ∉ [pc, tl, ds, ns, ps, dx, da, bm, wr, mx, mdx, 123] := fun {b} h1 h2 q => by
      have lo : ∀ x ∈ [123, mdx, mx, pc, bm, dx, wr, da, ds, ns], x < b := Asc.le_last (l := [123, mdx, mx, pc, bm, dx, wr, da, ds, ns]) (.cons o1 (.cons o2 (.cons o3 (.cons o4 (.cons o5 (.cons o6 (.cons o7 (.cons o8 (.cons o9 (.cons h1 (.one _)))))))))))
      have hi : ∀ x ∈ [ps, tl], b < x := Asc.all (.cons h2 (.cons o11 (.one _)))
      rcases List.mem_append.mp (sub_idx (F := [123, mdx, mx, pc, bm, dx, wr, da, ds, ns] ++ [ps, tl]) 12 [3, 11, 8, 9, 10, 5, 7, 4, 6, 2, 1, 0] rfl (by decide) b q) with q | q
      · exact Nat.lt_irrefl _ (lo b q)
      · exact Nat.lt_irrefl _ (hi b q)
    refine key (numB (Nat.lt_trans p5 p6) p7) (key (numB q7.1 q7.2) (key (numB q6.1 q6.2) (key (numB q5.1 q5.2) (key (numB q4.1 q4.2) (key (numB q3.1 q3.2) (key (numB q2.1 q2.2) (key (numB q1.1 q1.2) (key (numB p5 (Nat.lt_trans p6 p7)) (key (numA p3 p4) (key (numA p1 p2) (key (fun hb => ?_) fun q hq hb => ?_)))))))))))
    · obtain ⟨o, e⟩ := hin _ hb
      rw [hdl] at e; cases e
    · obtain ⟨o, e⟩ := hin _ hb
      rw [hdd q hq] at e; cases e
end
section
open PySem PySem.W PyProof.Rows PySem.W.X PySem.Calls
set_option autoImplicit false
set_option pp.deepTerms false
set_option pp.proofs false
set_option maxRecDepth 100000
set_option maxHeartbeats 8000000
theorem mj_start {w : World} {zs : List Int} {C : MC} {V : MV} {tail : List (Addr × Obj)} {m₀ : Str → Option Value} {g : Array GenState} {txt : Str} {tt : Tok} (K : MOk zs 0 C V tail txt) (Sp : OffAll [C.pc, C.tl, C.ds, C.ns, C.ps, C.dx, C.da, C.bm, C.wr, C.mx, C.mdx, 123] tail) (hg : AllBare g)
    (ht : m₀ (Str.ofString "text") = some (.str txt tt)) : MJ w zs C m₀ 0 m₀ (mLed w C V tail) g :=
  ⟨hg, V, tail, txt, tt, _, _, _, _, _, (mL_of (fun _ _ _ _ _ _ _ => rfl)).trans (by rw [ht]), rfl, K, Sp⟩
theorem mj_list {w : World} {zs : List Int} {C : MC} {m0 m : Str → Option Value} {i : Nat} {news : List (Addr × Obj)} {g : Array GenState} {base h : Heap} {L : Addr} (hJ : MJ w zs C m0 i m news g) (N : News base L h news) : h.IsList C.dl (dRefs C.dds).toArray := by
  obtain ⟨_, V, tail, txt, tt, vk, vh, vw, vu, vp, _, rfl, K, _⟩ := hJ
  exact ⟨_, (N _ (mTail K.tail.deedl)).1, rfl, C.nD, rfl⟩
/-- what a turn begins with -/
structure MTurn (zs : List Int) (i : Nat) (C : MC) (V : MV) (tail : List (Addr × Obj)) (txt : Str) (e : DeedAt) (z : Int) : Prop where
  ok : MOk zs i C V tail txt
  hz : zs[i]? = some z
  hi : i < 13
  mem : ((e.a : Addr), e.obj) ∈ tail
  cases :
    (z.fmod 4 = 0 ∧ ∃ c, (dAt zs i).cnt (dAt zs i).cur = some c ∧ 0 ≤ c ∧ c ≤ i ∧ e.pd = ⟨0, (dAt zs i).cur ++ slS ++ aS (c + 1), aS (c + 1)⟩) ∨
    (z.fmod 4 = 1 ∧ 1 < (dAt zs i).pre.length ∧ e.pd = ⟨1, (dAt zs i).pre.getLastD Str.empty, lastPart (dAt zs i).cur⟩) ∨
    (¬ z.fmod 4 = 0 ∧ ¬ (z.fmod 4 = 1 ∧ 1 < (dAt zs i).pre.length) ∧ (e.pd = ⟨2, (dAt zs i).cur, Str.ofString "p"⟩ ∨ e.pd = ⟨2, (dAt zs i).cur, Str.ofString "xs"⟩))
theorem mj_turn {w : World} {zs : List Int} {C : MC} {m0 m : Str → Option Value} {i : Nat} {news : List (Addr × Obj)} {g : Array GenState} {v : Value} (hJ : MJ w zs C m0 i m news g) (hC : COk zs C) (hlen : zs.length ≤ 13) (hv : (dRefs C.dds).toArray[i]? = some v) :
    ∃ V tail txt tt vk vh vw vu vp e z, m = mL m0 vk vh vw (some (.str txt tt)) vu vp ∧ news = mLed w C V tail ∧ v = .ref e.a ∧ AllBare g ∧ OffAll [C.pc, C.tl, C.ds, C.ns, C.ps, C.dx, C.da, C.bm, C.wr, C.mx, C.mdx, 123] tail ∧ MTurn zs i C V tail txt e z := by
  obtain ⟨hg, V, tail, txt, tt, vk, vh, vw, vu, vp, hm, hn, K, Sp⟩ := hJ
  have hv2 : (C.dds.map fun e => Value.ref e.a)[i]? = some v := by simpa [dRefs] using hv
  rw [List.getElem?_map] at hv2
  obtain ⟨e, he, rfl⟩ := Option.map_eq_some_iff.mp hv2
  have hpd : (dRun zs).out[i]? = some e.pd := by rw [← hC.dds, List.getElem?_map, he]; rfl
  have hol : (dRun zs).out.length = zs.length := by
    have := (dBd_run hlen zs.length (Nat.le_refl _)).out
    rw [List.take_length] at this
    exact this
  have hil : i < zs.length := by
    have := (List.getElem?_eq_some_iff.mp hpd).1
    omega
  have hz : zs[i]? = some zs[i] := List.getElem?_eq_getElem hil
  exact ⟨V, tail, txt, tt, vk, vh, vw, vu, vp, e, zs[i], hm, hn, rfl, hg, Sp, K, hz, by omega, K.tail.deed e (List.mem_of_getElem? he), deed_case hz K.plain.bd hpd⟩
theorem execs_mid {M : Model} {A : Around} {E : Value → Shared → Prop} {s : Shared} {env : Env} {st : Stmt} {rest : List Stmt} {Q : Flow → Shared → Prop} (P : Shared → Prop) (h1 : wpAny M A (exec st env) (fun f s' => f = .next ∧ P s') E s) (h2 : ∀ s', P s' → wpAny M A (execs rest env) Q E s') :
    wpAny M A (execs (st :: rest) env) Q E s :=
  wpAny_execs_cons (wpAny_mono h1 (fun f s' h => by obtain ⟨rfl, h⟩ := h; exact h2 s' h) fun _ _ x => x)
theorem turn_split {M : Model} {A : Around} {E : Value → Shared → Prop} {env : Env} {st : Stmt} {rest : List Stmt} {Q : Flow → Shared → Prop} {w : World} {zs : List Int} {C : MC} {m0 : Str → Option Value} {base h : Heap} {L : Addr} {it : Nat} {oit : Obj} {i : Nat} {V : MV} {tail : List (Addr × Obj)} {txt : Str} {e : DeedAt} {z : Int} {vk vh vw tx vu vp : Option Value} {g : Array GenState} {d : Drawn} {tk : Nat} {os : OsState}
    (_F : Fr base L h (mL m0 vk vh vw tx vu vp)) (_N : News base L h (((it : Addr), oit) :: mLed w C V tail)) (_T : MTurn zs i C V tail txt e z)
    (h1 : wpAny M A (exec st env) (fun f s' => f = .next ∧ MMid w zs C m0 base L it oit (i + 1) d os s') E ⟨h, g, d, tk, os⟩) (h2 : ∀ s', MMid w zs C m0 base L it oit (i + 1) d os s' → wpAny M A (execs rest env) Q E s') :
    wpAny M A (execs (st :: rest) env) Q E ⟨h, g, d, tk, os⟩ := execs_mid _ h1 h2
theorem len_sum {zs : List Int} (h : zs.length ≤ 6) (a : Int) : ([a, 0, 0, 2, 6, 1, 0] ++ zs).length ≤ 13 := by simp; omega
/-- a turn that begins an element -/
theorem ok_A {zs : List Int} {i : Nat} {C : MC} {V : MV} {tail tail' : List (Addr × Obj)} {txt : Str} {z c : Int} (h : MOk zs i C V tail txt) (hi : i < 13) (hz : zs[i]? = some z) (hz0 : z.fmod 4 = 0) (hc : (dAt zs i).cnt (dAt zs i).cur = some c) (hc0 : 0 ≤ c) (hci : c ≤ i)
    {lD lN : Nat} {tA tB : Tok} {pv : Value} {tb' : Obj} {n1' n2' n3' n4' : Nat}
    (K : TailOk C { V with cI := V.cI ++ [.str (Str.ofString "<" ++ aS (c + 1)) tA, .str (Str.ofString ">") tB], more := V.more ++ [⟨lD, [], 0⟩], rest := V.rest ++ [⟨lN, [], 0⟩], pvs := V.pvs ++ [pv], rs := true, tb := tb', n1 := n1', n2 := n2', n3 := n3', n4 := n4' } tail') :
    MOk zs (i + 1) C { V with cI := V.cI ++ [.str (Str.ofString "<" ++ aS (c + 1)) tA, .str (Str.ofString ">") tB], more := V.more ++ [⟨lD, [], 0⟩], rest := V.rest ++ [⟨lN, [], 0⟩], pvs := V.pvs ++ [pv], rs := true, tb := tb', n1 := n1', n2 := n2', n3 := n3', n4 := n4' } tail' (txt ++ (Str.ofString "<" ++ aS (c + 1) ++ Str.ofString ">")) := by
  have hp := plain_A h.plain (by omega) hz0 hc
  have hl := aS_len (c := c + 1) (by omega)
  have hpre : (dAt zs (i + 1)).pre = (dAt zs i).pre ++ [(dAt zs i).cur] := by
    rw [dAt_succ hz]
    generalize dAt zs i = st at hc ⊢
    obtain ⟨pre, cur, cnt, out⟩ := st
    rw [dStep_A hz0 hc]
  refine ⟨?_, textOk_two h.text ?_, K, ?_, ?_, ?_, ?_, ?_, h.tel⟩
  · rw [dAt_succ hz]
    dsimp only
    rw [List.map_append]
    exact hp
  · have e1 : (Str.ofString "<").length = 1 := by decide +kernel
    have e2 : (Str.ofString ">").length = 1 := by decide +kernel
    rw [PySem.Str.length_append]
    omega
  · rw [hpre]; have := h.more; simp; omega
  · intro p hp
    rcases List.mem_append.mp hp with hp | hp
    · exact h.mv p hp
    · rw [List.mem_singleton.mp hp]
  · rw [hpre]; have := h.pvl; simp; omega
  · have := h.tn; dsimp only; omega
  · intro q hq
    rcases List.mem_append.mp hq with hq | hq
    · have := h.nv q hq; omega
    · rw [List.mem_singleton.mp hq]; exact Nat.zero_le _
theorem end_text {w : Str} : Str.empty ++ Str.ofString "</" ++ w ++ Str.ofString ">" = Str.ofString "</" ++ w ++ Str.ofString ">" := by rw [empty_app]
/-- a turn that ends one -/
theorem ok_B {zs : List Int} {i : Nat} {C : MC} {V : MV} {tail : List (Addr × Obj)} {txt : Str} {z : Int} (h : MOk zs i C V tail txt) (hi : i < 13) (hz : zs[i]? = some z) (hz1 : z.fmod 4 = 1) (hp : 1 < (dAt zs i).pre.length)
    {more' : List DL} {rest' : List NL} {pD : DL} {qN : NL} {pL : List Value} {pv : Value} {tA : Tok} {rd' : Bool} {n1' n2' n3' n4' : Nat} (hmo : V.more = more' ++ [pD]) (hre : V.rest = rest' ++ [qN]) (hpv : V.pvs = pL ++ [pv])
    (K : TailOk C { V with cI := V.cI ++ [.str (Str.empty ++ Str.ofString "</" ++ lastPart (dAt zs i).cur ++ Str.ofString ">") tA], more := more', rest := rest', pvs := pL, rd := rd', n1 := n1', n2 := n2', n3 := n3', n4 := n4' } tail) :
    MOk zs (i + 1) C { V with cI := V.cI ++ [.str (Str.empty ++ Str.ofString "</" ++ lastPart (dAt zs i).cur ++ Str.ofString ">") tA], more := more', rest := rest', pvs := pL, rd := rd', n1 := n1', n2 := n2', n3 := n3', n4 := n4' } tail (txt ++ (Str.ofString "</" ++ lastPart (dAt zs i).cur ++ Str.ofString ">")) := by
  have hpl := h.plain
  rw [hre, List.map_append] at hpl
  have hp2 := plain_B hpl (by omega) hz1 hp
  have hcl := h.plain.bd.len (dAt zs i).cur (by simp)
  have hpre : (dAt zs (i + 1)).pre = (dAt zs i).pre.dropLast := by
    rw [dAt_succ hz]
    generalize dAt zs i = st at hp ⊢
    obtain ⟨pre, cur, cnt, out⟩ := st
    rw [dStep_B hz1 hp]
  refine ⟨?_, ?_, K, ?_, ?_, ?_, ?_, ?_, h.tel⟩
  · rw [dAt_succ hz]; exact hp2
  · dsimp only
    rw [end_text]
    refine textOk_one h.text ?_
    have e1 : (Str.ofString "</").length = 2 := by decide +kernel
    have e2 : (Str.ofString ">").length = 1 := by decide +kernel
    have e3 := (last_part (dAt zs i).cur).2
    rw [PySem.Str.length_append, PySem.Str.length_append]
    omega
  · rw [hpre]; have := h.more; rw [hmo] at this; simp at this ⊢; omega
  · exact fun p hp => h.mv p (by rw [hmo]; exact List.mem_append_left _ hp)
  · rw [hpre]; have := h.pvl; rw [hpv] at this; simp at this ⊢; omega
  · have := h.tn; dsimp only; omega
  · intro q hq
    have := h.nv q (by rw [hre]; exact List.mem_append_left _ hq)
    omega
/-- a turn that tells -/
theorem ok_C {zs : List Int} {i : Nat} {C : MC} {V : MV} {tail tail' : List (Addr × Obj)} {txt : Str} {z : Int} (h : MOk zs i C V tail txt) (hi : i < 13) (hz : zs[i]? = some z) (hz0 : ¬ z.fmod 4 = 0) (hp : ¬ (z.fmod 4 = 1 ∧ 1 < (dAt zs i).pre.length))
    {rest' : List NL} {qN : NL} {t tD nT' n9' : Nat} {uri pre : Str} {t1 t2 q1 q2 q3 : Tok} (hre : V.rest = rest' ++ [qN]) (hu : uri.length ≤ 1000)
    (K : TailOk C { V with rest := rest' ++ [⟨qN.a, qN.es ++ [⟨t, uri, pre, t2, t1⟩], n9'⟩], ts := V.ts ++ [⟨tD, (dAt zs i).cur, pre, uri, q1, q2, q3⟩], nT := nT' } tail') :
    MOk zs (i + 1) C { V with rest := rest' ++ [⟨qN.a, qN.es ++ [⟨t, uri, pre, t2, t1⟩], n9'⟩], ts := V.ts ++ [⟨tD, (dAt zs i).cur, pre, uri, q1, q2, q3⟩], nT := nT' } tail' txt := by
  have hpl := h.plain
  rw [hre, List.map_append] at hpl
  have hp2 := plain_C (e := ⟨t, uri, pre, t2, t1⟩) (t := ⟨tD, (dAt zs i).cur, pre, uri, q1, q2, q3⟩) hpl (by omega) hz0 hp rfl rfl rfl
  have hcl := h.plain.bd.len (dAt zs i).cur (by simp)
  have hpre : (dAt zs (i + 1)).pre = (dAt zs i).pre := by
    rw [dAt_succ hz]
    generalize dAt zs i = st at hp ⊢
    obtain ⟨pre, cur, cnt, out⟩ := st
    rw [dStep_C hz0 hp]
  refine ⟨?_, textOk_same h.text, K, ?_, h.mv, ?_, ?_, ?_, ?_⟩
  · rw [dAt_succ hz]
    dsimp only
    rw [List.map_append]
    exact hp2
  · rw [hpre]; exact h.more
  · rw [hpre]; exact h.pvl
  · have := h.tn; simp; omega
  · intro q hq
    rcases List.mem_append.mp hq with hq | hq
    · have := h.nv q (by rw [hre]; exact List.mem_append_left _ hq); omega
    · rw [List.mem_singleton.mp hq]
      have := h.nv qN (by rw [hre]; simp)
      simp; omega
  · intro e he
    rcases List.mem_append.mp he with he | he
    · exact h.tel e he
    · rw [List.mem_singleton.mp he]
      obtain ⟨⟨K, hl⟩, _⟩ := h.plain
      exact ⟨by dsimp only; omega, hu, signs_ok (path_signs (line_cur hl))⟩
theorem cur_A {zs : List Int} {i : Nat} {z c : Int} (hz : zs[i]? = some z) (hz0 : z.fmod 4 = 0) (hc : (dAt zs i).cnt (dAt zs i).cur = some c) : (dAt zs i).cur ++ slS ++ aS (c + 1) = (dAt zs (i + 1)).cur := by
  rw [dAt_succ hz]
  generalize dAt zs i = st at hc ⊢
  obtain ⟨pre, cur, cnt, out⟩ := st
  rw [dStep_A hz0 hc]
theorem cur_B {zs : List Int} {i : Nat} {z : Int} (hz : zs[i]? = some z) (hz1 : z.fmod 4 = 1) (hp : 1 < (dAt zs i).pre.length) : (dAt zs i).pre.getLastD Str.empty = (dAt zs (i + 1)).cur := by
  rw [dAt_succ hz]
  generalize dAt zs i = st at hp ⊢
  obtain ⟨pre, cur, cnt, out⟩ := st
  rw [dStep_B hz1 hp]
theorem cur_C {zs : List Int} {i : Nat} {z : Int} (hz : zs[i]? = some z) (hz0 : ¬ z.fmod 4 = 0) (hp : ¬ (z.fmod 4 = 1 ∧ 1 < (dAt zs i).pre.length)) : (dAt zs i).cur = (dAt zs (i + 1)).cur := by
  rw [dAt_succ hz]
  generalize dAt zs i = st at hp ⊢
  obtain ⟨pre, cur, cnt, out⟩ := st
  rw [dStep_C hz0 hp]
theorem mid_intro {w : World} {zs : List Int} {C : MC} {m0 m' : Str → Option Value} {base h : Heap} {L : Addr} {it : Nat} {oit : Obj} {i : Nat} {d : Drawn} {os : OsState} {V : MV} {tail : List (Addr × Obj)} {txt : Str} {tt th : Tok} {g : Array GenState} {tk : Nat}
    (K : MOk zs i C V tail txt) (N : News base L h (((it : Addr), oit) :: mLed w C V tail)) (F : Fr base L h m') (hm : ∀ y, y ≠ Str.ofString "word" → y ≠ Str.ofString "here" → y ≠ Str.ofString "kind" → y ≠ Str.ofString "text" → y ≠ Str.ofString "uri" → y ≠ Str.ofString "prefix" → m' y = m0 y)
    (ht : m' (Str.ofString "text") = some (.str txt tt)) (hh : m' (Str.ofString "here") = some (.str (dAt zs i).cur th)) (Sp : OffAll (mFix C it) tail) (hg : AllBare g) :
    Flow.next = Flow.next ∧ MMid w zs C m0 base L it oit i d os ⟨h, g, d, tk, os⟩ := by
  have e := mL_of hm
  rw [ht, hh] at e
  exact ⟨rfl, V, tail, txt, tt, th, _, _, _, _, Mine.Fr.congr F (fun y => congrFun e y), N, Sp, K, hg, rfl, rfl⟩
theorem allLt_all {d : Addr} {l : List (Addr × Obj)} (h : AllLt d l) : ∀ p ∈ l, p.1 < d := by
  induction l with
  | nil => intro q hq; cases hq
  | cons p r ih =>
    intro q hq
    cases hq with
    | head => exact h.1
    | tail _ hq => exact ih h.2 q hq
theorem last_ex {α : Type} {l : List α} {n : Nat} (h : l.length = n + 1) : ∃ a b, l = a ++ [b] := by
  have hne : l ≠ [] := fun q => by rw [q] at h; cases h
  exact ⟨l.dropLast, l.getLast hne, (List.dropLast_concat_getLast hne).symm⟩
theorem aS_small {c : Int} {i : Nat} (h0 : 0 ≤ c) (h1 : c ≤ i) (h2 : i < 13) : (aS (c + 1)).length ≤ 100 := by
  rw [aS_len (by omega)]
  omega
theorem fit_A {cI : List Value} {i : Nat} {txt : Str} {c : Int} (h : TextOk cI i txt) (hi : i < 13) (hw : (aS (c + 1)).length ≤ 100) : txt.length + (Str.ofString "<" ++ aS (c + 1) ++ Str.ofString ">").length ≤ sizeLine := by
  have e1 : (Str.ofString "<").length = 1 := by decide +kernel
  have e2 : (Str.ofString ">").length = 1 := by decide +kernel
  have := h.len
  rw [PySem.Str.length_append, PySem.Str.length_append, e1, e2]
  simp only [sizeLine]
  omega
theorem fit_B {cI : List Value} {i : Nat} {txt w : Str} (h : TextOk cI i txt) (hi : i < 13) (hw : w.length ≤ 1000) : txt.length + (Str.ofString "</" ++ w ++ Str.ofString ">").length ≤ sizeLine := by
  have e1 : (Str.ofString "</").length = 2 := by decide +kernel
  have e2 : (Str.ofString ">").length = 1 := by decide +kernel
  have := h.len
  rw [PySem.Str.length_append, PySem.Str.length_append, e1, e2]
  simp only [sizeLine]
  omega
theorem last_small {zs : List Int} {i : Nat} {st : DSt} (h : DBd i st) (hi : i < 13) (_hz : dAt zs i = st) : (lastPart st.cur).length ≤ 1000 := by
  have h1 := h.len st.cur (by simp)
  have h2 := (last_part st.cur).2
  omega
theorem plain_signs {i : Nat} {st : DSt} {rest : List (List Ent)} {ts : List Tel} (h : PlainOk i st rest ts) : PathSigns st.cur := by
  obtain ⟨⟨K, hl⟩, _⟩ := h
  exact path_signs (line_cur hl)
theorem ends_B {zs : List Int} {i : Nat} {C : MC} {V : MV} {tail : List (Addr × Obj)} {txt : Str} (h : MOk zs i C V tail txt) (hp : 1 < (dAt zs i).pre.length) : ∃ more' pD rest' qN pL pv, V.more = more' ++ [pD] ∧ V.rest = rest' ++ [qN] ∧ V.pvs = pL ++ [pv] := by
  obtain ⟨n, hn⟩ : ∃ n, (dAt zs i).pre.length = n + 1 := ⟨(dAt zs i).pre.length - 1, by omega⟩
  have hr := h.plain.held.1
  rw [List.length_map, List.length_append, List.length_singleton] at hr
  obtain ⟨m1, m2, e1⟩ := last_ex (h.more.trans hn)
  obtain ⟨r1, r2, e2⟩ := last_ex hr
  obtain ⟨p1, p2, e3⟩ := last_ex h.pvl
  exact ⟨m1, m2, r1, r2, p1, p2, e1, e2, e3⟩
theorem ends_C {zs : List Int} {i : Nat} {C : MC} {V : MV} {tail : List (Addr × Obj)} {txt : Str} (h : MOk zs i C V tail txt) : ∃ rest' qN, V.rest = rest' ++ [qN] := by
  have hr := h.plain.held.1
  rw [List.length_map, List.length_append, List.length_singleton] at hr
  obtain ⟨r1, r2, e2⟩ := last_ex hr
  exact ⟨r1, r2, e2⟩
theorem uS_len {c : Int} (h : 0 ≤ c) : (Txt.mul (Str.ofString "u") c).length = c.toNat := by
  have e := len_mul_k1 (x := Str.ofString "u") (n := c) (by decide +kernel)
  rw [if_neg (by omega)] at e
  have e2 : ((Txt.mul (Str.ofString "u") c).length : Int) = 1 * c := e
  omega
/-- the telling's tuple comes onto the ledger -/
theorem tail_tel {C : MC} {V : MV} {tail : List (Addr × Obj)} {e : Tel} {nT' : Nat} (h : TailOk C V tail) : TailOk C { V with ts := V.ts ++ [e], nT := nT' } (((e.a : Addr), e.obj) :: tail) :=
  ⟨fun p hp => .tail _ (h.dl p hp), fun q hq => .tail _ (h.nl q hq), h.nlo, fun q hq e he => ⟨.tail _ (h.ent q hq e he).1, (h.ent q hq e he).2⟩, fun e' he' => by
      rcases List.mem_append.mp he' with he' | he'
      · exact .tail _ (h.tel e' he')
      · rw [List.mem_singleton.mp he']; exact .head _,
    fun e he => .tail _ (h.deed e he), .tail _ h.deedl, by obtain ⟨x1, x2, hx⟩ := h.xml; exact ⟨x1, x2, .tail _ hx⟩,
    by
      rcases h.tab with h | ⟨c', oc', vs', tq, h1, h2, h3⟩
      · exact .inl h
      · exact .inr ⟨c', oc', vs', tq, h1, .tail _ h2, h3⟩,
    h.nd, h.nd2⟩
theorem two_words {pd : PD} {x : Str} (h : pd = ⟨2, x, Str.ofString "p"⟩ ∨ pd = ⟨2, x, Str.ofString "xs"⟩) : ∃ wd, (wd = Str.ofString "p" ∨ wd = Str.ofString "xs") ∧ pd = ⟨2, x, wd⟩ := by
  rcases h with h | h
  · exact ⟨_, .inl rfl, h⟩
  · exact ⟨_, .inr rfl, h⟩
theorem tRefs_snoc {ts : List Tel} {e : Tel} : tRefs (ts ++ [e]) = (tRefs ts).push (.ref e.a) := by simp [tRefs]
theorem tel_news {w : World} {base h : Heap} {L : Addr} {C : MC} {V : MV} {tail : List (Addr × Obj)} {it : Nat} {oit : Obj} {e : Tel} (_K : TailOk C V tail)
    (N : News base L h (((e.a : Addr), e.obj) :: ((it : Addr), oit) :: (C.pc, lstO V.cI.toArray V.n4) :: (C.tl, lstO ((tRefs V.ts).push (.ref e.a)) (V.nT + 1)) :: (C.ds, lstO (dArr (dlp (C.d0 :: V.more))) V.n1) :: (C.ns, lstO (dArr (nlp (C.n0 :: V.rest))) V.n2) :: (C.ps, lstO V.pvs.toArray V.n3) ::
      (C.dx, wDict w C.k C.kz C.bm C.da C.ds C.ns C.pm C.ps V.rs V.rd 17) :: (C.da, lstO #[] C.n5) :: (C.bm, bmO C.pc) :: (C.wr, instObj 150 C.dx) :: (C.mx, instObj 214 C.mdx) :: (C.mdx, mgDict w C.kd C.pd) :: (123, V.tb) :: tail)) :
    News base L h (((it : Addr), oit) :: mLed w C { V with ts := V.ts ++ [e], nT := V.nT + 1 } (((e.a : Addr), e.obj) :: tail)) := by
  dsimp only [mLed]
  rw [tRefs_snoc]
  exact newsCons N (by k_mem) (newsCons N (by k_mem) (newsCons N (by k_mem) (newsCons N (by k_mem) (newsCons N (by k_mem) (newsCons N (by k_mem) (newsCons N (by k_mem) (newsCons N (by k_mem) (newsCons N (by k_mem) (newsCons N (by k_mem) (newsCons N (by k_mem) (newsCons N (by k_mem) (newsCons N (by k_mem) (newsCons N (by k_mem) fun p hp => N p (.tail _ (.tail _ (.tail _ (.tail _ (.tail _ (.tail _ (.tail _ (.tail _ (.tail _ (.tail _ (.tail _ (.tail _ (.tail _ (.tail _ hp)))))))))))))))))))))))))))
theorem off_cons {C : MC} {it : Nat} {tail : List (Addr × Obj)} {D : Nat} (h : OffAll (mFix C it) tail) (hD : it < D ∧ C.pc < D ∧ C.tl < D ∧ C.ds < D ∧ C.ns < D ∧ C.ps < D ∧ C.dx < D ∧ C.da < D ∧ C.bm < D ∧ C.wr < D ∧ C.mx < D ∧ C.mdx < D ∧ 123 < D ∧ AllLt D tail) {x : Obj} : OffAll (mFix C it) (((D : Addr), x) :: tail) := fun p hp q => by
  rcases List.mem_cons.mp hp with rfl | hp
  · have q' : D ∈ mFix C it := q
    simp only [mFix, List.mem_cons, List.not_mem_nil, or_false] at q'
    omega
  · exact h p hp q
theorem off_ne {C : MC} {it : Nat} {tail : List (Addr × Obj)} (h : OffAll (mFix C it) tail) : ∀ p ∈ tail, p.1 ≠ C.tl := fun p hp q => h p hp (by rw [q]; exact .tail _ (.tail _ (.head _)))
/-- while it asks -/
def AskJ (m0 : Str → Option Value) (vk vh vw tx vu : Option Value) (news₀ : List (Addr × Obj)) (_i : Nat) (m : Str → Option Value) (news : List (Addr × Obj)) (g : Array GenState) : Prop :=
  AllBare g ∧ (∃ vp, m = mL m0 vk vh vw tx vu vp) ∧ news = news₀
theorem mL_prefix {m0 : Str → Option Value} {vk vh vw tx vu vp : Option Value} {v : Value} : (fun q => if q = Str.ofString "prefix" then some v else mL m0 vk vh vw tx vu vp q) = mL m0 vk vh vw tx vu (some v) := by
  funext q
  unfold mL
  by_cases h : q = Str.ofString "prefix"
  · subst h
    rw [if_pos rfl, if_neg (by decide +kernel), if_neg (by decide +kernel), if_neg (by decide +kernel), if_neg (by decide +kernel), if_neg (by decide +kernel), if_pos rfl]
  · simp only [if_neg h]
theorem ask_end {base h : Heap} {L : Addr} {it : Nat} {oit : Obj} {m0 : Str → Option Value} {vk vh vw tx vu vp : Option Value} {v : Value} {news₀ : List (Addr × Obj)} {i : Nat} {d : Drawn} {os : OsState} {g : Array GenState} {tk : Nat}
    (F : Fr base L h (fun q => if q = Str.ofString "prefix" then some v else mL m0 vk vh vw tx vu vp q)) (N : News base L h (((it : Addr), oit) :: news₀)) (hoff : ∀ q ∈ news₀, q.1 ≠ it) (hg : AllBare g) :
    TurnEnd2 base L it oit (AskJ m0 vk vh vw tx vu news₀) i d os ⟨h, g, d, tk, os⟩ := by
  rw [mL_prefix] at F
  exact ⟨_, news₀, F, N, hoff, ⟨hg, ⟨_, rfl⟩, rfl⟩, rfl, rfl⟩
theorem two_items {t1 t2 : Tok} {i : Nat} {v : Value} (h : (#[Value.str (Str.ofString "p") t1, Value.str (Str.ofString "xs") t2] : Array Value)[i]? = some v) : ∃ pre t, (pre = Str.ofString "p" ∨ pre = Str.ofString "xs") ∧ v = .str pre t := by
  match i, h with
  | 0, h => exact ⟨_, t1, .inl rfl, by simpa using h.symm⟩
  | 1, h => exact ⟨_, t2, .inr rfl, by simpa using h.symm⟩
  | i + 2, h => simp at h
theorem meets {zs : List Int} {i : Nat} {C : MC} {V : MV} {tail : List (Addr × Obj)} {txt pre : Str} (hK : MOk zs i C V tail txt) (hC : COk zs C) (hp : pre = Str.ofString "p" ∨ pre = Str.ofString "xs") : meant pre ((V.rest.map NL.es).reverse.flatten ++ C.n0.es) = due pre (dAt zs i).cur V.ts :=
  plain_ask hK.plain hp hC.n0
theorem cur_small {zs : List Int} {i : Nat} {C : MC} {V : MV} {tail : List (Addr × Obj)} {txt : Str} (hK : MOk zs i C V tail txt) (hi : i ≤ 13) : (dAt zs i).cur.length ≤ 1000 ∧ PyData.strOk (dAt zs i).cur = true := by
  have h1 := hK.plain.bd.len (dAt zs i).cur (by simp)
  exact ⟨by omega, signs_ok (plain_signs hK.plain)⟩
theorem done_text {cI : List Value} {i : Nat} {txt : Str} (h : TextOk cI i txt) (hi : i ≤ 13) : ∃ ys, StrsAre cI ys ∧ Txt.join (Str.ofString "") ys = txt ∧ (ys.map PySem.Str.length).sum + ys.length ≤ 1048576 := by
  obtain ⟨ys, h1, h2, h3⟩ := h.texts
  have e : Str.ofString "" = Str.empty := by decide +kernel
  refine ⟨ys, h1, ?_, ?_⟩
  · rw [e, ← h2]
    exact PySem.StrLaws.glued_eq_join _ _
  · have l1 := h1.length
    have l2 := h.num
    have l3 := h.len
    omega
theorem done_grown {w : World} {base h : Heap} {L : Addr} {C : MC} {V : MV} {tail : List (Addr × Obj)} (K : TailOk C V tail) (N : News base L h (mLed w C V tail)) : GrownAll [(125, 123)] h := by
  refine ⟨?_, trivial⟩
  have e := (N (123, V.tb) (by k_mem)).1
  rcases K.tab with q | ⟨c', oc', vs', tq, q, _⟩
  · rw [q] at e; exact ⟨_, e⟩
  · rw [q] at e; exact ⟨_, e⟩
theorem done_len {zs : List Int} {C : MC} (hC : COk zs C) (hl : zs.length ≤ 13) : (dRefs C.dds).toArray.size ≤ 13 := by
  have hol : (dRun zs).out.length = zs.length := by
    have := (dBd_run hl zs.length (Nat.le_refl _)).out
    rw [List.take_length] at this
    exact this
  rw [← hC.dds, List.length_map] at hol
  simp [dRefs]
  omega
end
section
open PySem PySem.W PyProof.Rows PySem.W.X PySem.Calls
set_option autoImplicit false
set_option pp.deepTerms false
set_option pp.proofs false
local macro_rules | `(tactic| walk_at "getMethod ref") => `(tactic| (k_here; (with_reducible show wpAny _ _ (getMethod (Value.ref 44) (PySem.Str.ofString "items") _) _ _ _); k_dflt (refine' nm_getMethod ?k1 ?k2 ?_; (case k1 => k_asm); (case k2 => k_asm))))
local macro_rules | `(tactic| walk_at "call builtin:dict.items") => `(tactic| (k_here; (with_reducible show wpAny _ _ (call (Value.builtin "dict.items") [Value.ref 44]) _ _ _); k_dflt (refine' nm_items ?k1 ?k2 ?k3 ?_; (case k1 => k_asm); (case k2 => k_asm); (case k3 => k_asm)); intro D' h' F' N' hlt'; k_lt hlt'))
local macro_rules | `(tactic| walk_at "call type:list") => `(tactic| (k_here; (with_reducible show wpAny _ _ (call (Value.type "list") [Value.ref _]) _ _ _); k_dflt (refine' nm_list ?k0 ?k1 ?k2 ?k3 ?k4 ?_; (case k0 => rfl); (case k1 => k_asm); (case k2 => k_asm); (case k3 => k_asm); (case k4 => k_mem)); intro B' a1' a2' a3' a4' a5' a6' a7' t1' t2' t3' t4' t5' t6' t7' c' h' tk' hltB' hlt1' hlt2' hlt3' hlt4' hlt5' hlt6' hlt7' F' N'; k_lt hltB'; k_lt hlt1'; k_lt hlt2'; k_lt hlt3'; k_lt hlt4'; k_lt hlt5'; k_lt hlt6'; k_lt hlt7'))
local macro_rules | `(tactic| walk_at "getAttr ref") => `(tactic| (k_here; (with_reducible show wpAny _ _ (getAttr (Value.ref _) (PySem.Str.ofString "append") _) _ _ _); k_dflt (refine' getAppend_K ?F ?N ?m ?_; (case F => k_asm); (case N => k_asm); (case m => k_mem)); intro x' h' F' N' l1; (try k_lt l1)))
local macro_rules | `(tactic| kn_posts) => `(tactic| refine post_true $(Lean.mkIdent `hT9) (fun _ => rfl) (by with_unfolding_all rfl) ?_)
set_option maxRecDepth 100000 in
set_option maxHeartbeats 16000000 in
theorem law0 : PySem.Challenge.rw_pg0323_01.Holds := by
  have hr225 : HoldR 225 := .on _
  have hNd0 : NdA [123] := List.nodup_cons.mpr ⟨List.not_mem_nil, List.nodup_nil⟩
  have hkFor : HoldK "exec For Tuple Call cons nil" := .on _
  refine hd0 (by rfl) (by rfl) (by rfl) ?hw ?hc
  case hw => w_witness2
  k_go0
  k_steps
  refine Held.mk ?_
  refine wpAny_For ?_
  k_steps
  refine Held.mk ?_
  rename Fr (ghostOf _ _) _ _ _ => F1
  rename News (ghostOf _ _) _ _ _ => N1
  rename IntsAre _ ([_, 0, 0, 2, 6, 1, 0] ++ _) => hI
  rename Below callerA _ [] _ => B0
  rename (hd.heap_39 _).In (ghostOf _ _) => X0
  rename Top topProg _ _ _ _ (ghostOf _ _) => T0
  rename CodeHd _ _ _ => HC
  refine t_deeds B0 F1 X0 T0 rfl (newsCons N1 (by k_mem) newsNil) hI (by simp; omega) (fun dl ds nD h2 tk2 F2 N2 hkp hdl hdd hdn hds => ?_)
  clear F1
  obtain ⟨zs, hds2, hlen⟩ : ∃ zs, List.map DeedAt.pd ds = (dRun zs).out ∧ zs.length ≤ 13 := ⟨_, hds, len_sum (List.length_take_le 6 _) _⟩
  clear hds
  obtain ⟨k, tail, N3, K0, Sp0, hC⟩ := mk_start N1 N2 hkp hdl hdd hds2 (by omega) (by omega) (by omega)
  rename Shared.gens _ = #[] => hgens
  refine' for_K2 (items := (dRefs ds).toArray) (MJ _ _ _ _) rfl F2 N3 (mj_start K0 Sp0 (AllBare.of_eq hgens) rfl) (fun i m news g h hJ _ N => mj_list hJ N) ?turn ?done
  case turn =>
    clear K0 Sp0 N3 hkp hdl hdd hdn N1 N2
    repeat (rename _ < _ ∧ _ => hx; clear hx)
    repeat (rename _ < _ => hx; clear hx)
    repeat (rename News _ _ _ _ => hx; clear hx)
    repeat (rename Fr _ _ _ _ => hx; clear hx)
    rintro it oit i v m news g h tk hv hJ F4 N4 hli hoff hit
    obtain ⟨V, tail, txt, tt, vk, vh, vw, vu, vp, e, z, rfl, rfl, rfl, hAB, Sp1, hT⟩ := mj_turn hJ hC hlen hv
    clear hJ hv
    have hO := hC.ord it (hit _ (.tail _ (.head _)))
    have hSp : OffAll (mFix _ it) tail := fun p hp q => by
      rcases List.mem_cons.mp q with q | q
      · exact hoff p (mTail hp) q
      · exact Sp1 p hp q
    have hK := hT.ok
    have hS := hK.size hC (by have := hT.hi; omega)
    clear hoff hit Sp1
    have hmem := (N4 _ (.tail _ (mTail hT.mem))).1
    refine goTup (o := oit) (N4 _ (.head _)).1 (.inl hli.1) ?_
    refine assign3 rfl rfl rfl rfl rfl F4 N4 ⟨_, hmem, rfl, 0, rfl⟩ fun h3 tk3 F5 N5 => ?_
    have F6 := Mine.Fr.congr F5 (fun y => mL_next y)
    have N6 := N5
    clear F4 N4 F5 N5 hmem
    refine turn_split F6 N6 hT ?deed ?ask
    case deed =>
      have hk0 : HoldK "call builtin:len" := .on _
      have hk1 : HoldK "inplaceOp Add str str" := .on _
      have hk2 : HoldK "tup" := .on _
      have hk3 : HoldK "app" := .on _
      have hr120 : HoldR 120 := .on _
      have hr133 : HoldR 133 := .on _
      have hr113 : HoldR 113 := .on _
      rename Fr (ghostOf _ _) _ _ _ => F6
      rename News (ghostOf _ _) _ _ _ => N6
      rename MTurn _ _ _ _ _ _ _ _ => hT
      rename MOrd _ _ => hO
      rename MSize _ _ => hS
      rename OffAll _ _ => hSp
      rename IsLi _ _ _ => hli
      rename COk _ _ => hC
      rename Below callerA _ [] _ => B0
      rename (hd.heap_39 _).In (ghostOf _ _) => X0
      rename Top topProg _ _ _ _ (ghostOf _ _) => T0
      rename CodeHd _ _ _ => HC
      rename AllBare _ => hAB
      obtain ⟨hK, hz, hi, hmem, hcase⟩ := hT
      obtain ⟨ord⟩ := hO
      (rename DeedAt => e)
      obtain ⟨ea, pd, t0, t1, t2⟩ := e
      dsimp only [mLed] at N6
      dsimp only at hcase F6 hmem ord
      generalize hqf : (fun (f : Flow) (s' : Shared) => f = Flow.next ∧ _) = qf
      rcases hcase with ⟨hz0, c, hc, hc0, hci, rfl⟩ | ⟨hz1, hp, rfl⟩ | ⟨hz0, hp, hpd⟩
      · dsimp only at F6
        rw [cur_A hz hz0 hc] at F6
        k_steps
        refine Held.mk ?_
        rename Fr (ghostOf _ _) _ _ _ => FA
        rename News (ghostOf _ _) _ _ _ => NA
        rename _ < _ ∧ _ => l1
        rename Obj.IsDictOf (PySem.strKind _ _) _ _ => hod
        rename Obj.IsDictOf (intKind _ _) _ _ => hod2
        rename (_ == sysModules) = false => hlo
        obtain ⟨pI, pv, hpv⟩ := last_ex hK.pvl
        have hw := aS_small hc0 hci hi
        refine m_start hK.tail B0 FA X0 T0 rfl HC NA (allLt_all l1) ⟨ord⟩ hSp hS ⟨_, _, hli⟩ hpv hod hod2 hlo hK.mv hC.d0 (by omega) (signs_ok (aS_signs _)) (signs_brace (aS_signs _)) ?_
        intro h' tk' gs lD lN tA tB tb' n1' n2' n3' n4' tail' F7 N7 K7 Sp7 hgb
        dsimp only
        clear FA NA
        k_steps
        refine Held.mk ?_
        refine PyProof.Rows.iadd_str (fun t' tk' => ?_) (fit_A hK.text hi hw)
        k_steps
        rename Fr (ghostOf _ _) _ _ _ => F9
        rename News (ghostOf _ _) _ _ _ => N9
        rw [← hqf]
        exact mid_intro (ok_A hK hi hz hz0 hc hc0 hci K7) N9 F9 (fun y h1 h2 h3 h4 h5 h6 => by simp only [mL, if_neg h1, if_neg h2, if_neg h3, if_neg h4, if_neg h5, if_neg h6]) rfl rfl Sp7 (hAB.push hgb)
      · dsimp only at F6
        rw [cur_B hz hz1 hp] at F6
        k_steps
        refine Held.mk ?_
        rename Fr (ghostOf _ _) _ _ _ => FA
        rename News (ghostOf _ _) _ _ _ => NA
        obtain ⟨more', pD, rest', qN, pL, pv, hmo, hre, hpv⟩ := ends_B hK hp
        have hw := last_small hK.plain.bd hi rfl
        refine m_end hK.tail B0 FA X0 T0 rfl NA ⟨ord⟩ hSp hS hpv hmo hre hK.mv hC.d0 hw (signs_brace (last_signs (plain_signs hK.plain))) ?_
        intro h' tk' gs tA rd' n1' n2' n3' n4' F7 N7 K7 hgb
        dsimp only
        clear FA NA
        k_steps
        refine Held.mk ?_
        refine PyProof.Rows.iadd_str (fun t' tk' => ?_) (fit_B hK.text hi hw)
        k_steps
        rename Fr (ghostOf _ _) _ _ _ => F9
        rename News (ghostOf _ _) _ _ _ => N9
        rw [← hqf]
        exact mid_intro (ok_B hK hi hz hz1 hp hmo hre hpv K7) N9 F9 (fun y h1 h2 h3 h4 h5 h6 => by simp only [mL, if_neg h1, if_neg h2, if_neg h3, if_neg h4, if_neg h5, if_neg h6]) rfl rfl hSp (hAB.push hgb)
      · obtain ⟨wd, hwd, rfl⟩ := two_words hpd
        dsimp only at F6
        k_steps
        refine Held.mk ?_
        rename Fr (ghostOf _ _) _ _ _ => FA
        rename News (ghostOf _ _) _ _ _ => NA
        have hts := hK.tn
        obtain ⟨rest', qN, hre⟩ := ends_C hK
        refine PySem.Calls.call_len_list (items := tRefs _) ⟨_, (NA (_, lstO (tRefs _) _) (by k_mem)).1, rfl, _, rfl⟩ (by simp only [tRefs, List.size_toArray, List.length_map]; omega) ?_
        simp only [tRefs, List.size_toArray, List.length_map]
        k_steps
        refine Held.mk ?_
        rename Fr (ghostOf _ _) _ _ _ => FB
        rename News (ghostOf _ _) _ _ _ => NB
        refine m_ns hK.tail B0 FB X0 T0 rfl NB ⟨ord⟩ hSp hS hre (by rw [uS_len (by omega)]; omega) ?_
        clear FA NA
        intro h' tk' t n9' tail' F7 N7 K7 Sp7
        have hne := off_ne Sp7
        dsimp only
        dsimp only [mLed] at N7 hne
        clear FB NB
        k_steps
        rename Fr (ghostOf _ _) _ _ _ => F9
        rename News (ghostOf _ _) _ _ _ => N9
        rename _ < _ ∧ _ => l9
        have N10 := tel_news (e := ⟨_, _, _, _, _, _, _⟩) K7 N9
        rw [← hqf]
        refine mid_intro (ok_C hK hi hz hz0 hp hre (by rw [uS_len (by omega)]; omega) (tail_tel K7)) N10 F9 (fun y h1 h2 h3 h4 h5 h6 => by simp only [mL, if_neg h1, if_neg h2, if_neg h3, if_neg h4, if_neg h5, if_neg h6]) rfl (th := ?_) ?_ (off_cons Sp7 l9) hAB
        rotate_left
        · rw [← cur_C hz hz0 hp]; rfl
    case ask =>
      intro s' hM
      clear F6 N6 hAB hSp hK hS
      have hk0 : HoldK "exec For Name List cons nil" := .on _
      have hr232 : HoldR 232 := .on _
      have hr239 : HoldR 239 := .on _
      rename MMid _ _ _ _ _ _ _ _ _ _ _ _ => hM
      rename MTurn _ _ _ _ _ _ _ _ => hT
      rename IsLi _ _ _ => hli
      rename COk _ _ => hC
      rename Below callerA _ [] _ => B0
      rename (hd.heap_39 _).In (ghostOf _ _) => X0
      rename Top topProg _ _ _ _ (ghostOf _ _) => T0
      rename CodeHd _ _ _ => HC
      rename MOrd _ _ => hO
      have hi := hT.hi
      (rename Shared => s9)
      obtain ⟨V, tail, txt, tt, th, vk, vw, vu, vp, FA, NA, hSp, hK, hAB, hd9, ho9⟩ := hM
      obtain ⟨h9, g9, d9, tk9, os9⟩ := s9
      dsimp only at FA NA hAB hd9 ho9
      subst hd9 ho9
      have hS := hK.size hC (by omega)
      obtain ⟨ord⟩ := hO
      generalize hqf : TurnPost2 _ _ _ _ _ _ _ _ _ = qf
      dsimp only [mLed] at NA
      dsimp only at ord
      k_steps
      refine Held.mk ?_
      refine wpAny_For ?_
      k_steps
      rename Fr (ghostOf _ _) _ _ _ => FB
      rename News (ghostOf _ _) _ _ _ => NB
      refine' for_K2 (AskJ _ vk _ vw _ vu _) rfl FB NB ⟨hAB, ⟨_, rfl⟩, rfl⟩ ?list2 ?turn2 ?done2
      case list2 =>
        rintro i m news g h ⟨_, _, rfl⟩ _ N
        exact ⟨_, (N _ (.head _)).1, rfl, _, rfl⟩
      case turn2 =>
        clear FB NB
        rintro it2 oit2 i2 v m news g h tk hv ⟨hg, ⟨vp2, rfl⟩, rfl⟩ F2 N2 hli2 hoff2 hit2
        obtain ⟨pre, tp, hpre, rfl⟩ := two_items hv
        refine wpAny_of_eq (a := ()) rfl ?_
        refine wpAny_assign_Name (wpAny_storeName_local rfl F2.ns (fun h3 hns hsb => ?_) rfl)
        have F3 := F2.set hns hsb
        have N3 := N2.set hsb
        clear F2 N2 hns hsb
        generalize hqf2 : TurnPost2 _ _ _ _ _ _ _ _ _ = qf2
        k_steps
        refine Held.mk ?_
        have hcs := cur_small hK (by omega)
        refine m_meant hK.tail B0 X0 T0 F3 X0 T0 rfl N3 (fun p hp => .tail _ (.tail _ (.tail _ hp))) hS hpre ?_
        intro r4 h4 tk4 gs4 F4 N4 hgb hr4
        dsimp only
        clear F3 N3
        k_steps
        refine Held.mk ?_
        refine m_due hK.tail B0 F4 X0 T0 rfl N4 (fun p hp => .tail _ (.tail _ (.tail _ hp))) hK.tel hcs.1 hcs.2 ?_
        intro r5 h5 tk5 F5 N5 hr5
        dsimp only
        clear F4 N4
        k_steps
        refine ne_opt hr4 hr5 (meets hK hC hpre) ?_
        k_steps
        rw [← hqf2]
        exact ask_end F5 N5 hoff2 (hg.push hgb)
      case done2 =>
        clear FB NB
        rintro m news g h tk ⟨hg, ⟨vp2, rfl⟩, rfl⟩ F2 N2
        dsimp only
        k_steps
        rw [← hqf]
        exact mid_end F2 (fun y h1 h2 h3 h4 h5 h6 => by simp only [mL, if_neg h1, if_neg h2, if_neg h3, if_neg h4, if_neg h5, if_neg h6]) rfl N2 (fun p hp => .tail _ hp) ⟨ord⟩ hSp hK hg
  case done =>
    intro m news g h tk hJ FE NE
    have hk0 : HoldK "call builtin:str.join" := .on _
    rename MJ _ _ _ _ _ _ _ _ => hJ
    rename COk _ _ => hC
    rename Below callerA _ [] _ => B0
    rename (hd.heap_39 _).In (ghostOf _ _) => X0
    rename Top topProg _ _ _ _ (ghostOf _ _) => T0
    rename CodeHd _ _ _ => HC
    rename Fr (ghostOf _ _) _ _ _ => FE
    rename News (ghostOf _ _) _ _ _ => NE
    obtain ⟨hg, V, tail, txt, tt, vk, vh, vw, vu, vp, rfl, rfl, hK, hSp⟩ := hJ
    dsimp only
    dsimp only [mLed] at NE
    k_steps
    refine Held.mk ?_
    have hle := done_len hC (by assumption)
    obtain ⟨ys, hy1, hy2, hy3⟩ := done_text hK.text hle
    rename Fr (ghostOf _ _) _ _ _ => FE
    rename News (ghostOf _ _) _ _ _ => NE
    refine join_listW (items := List.toArray _) ⟨_, (NE (_, _) (.head _)).1, rfl, _, rfl⟩ hy1 (by decide +kernel) hy3 (fun t' k' => ?_)
    rw [hy2]
    k_steps
    rename Fr (ghostOf _ _) _ _ _ => FE
    rename News (ghostOf _ _) _ _ _ => NE
    rw [beq_self_eq_true]
    exact ⟨rfl, FE.keep, rfl, hg, done_grown hK.tail NE⟩
end
end Mine
theorem PySem.Challenge.cw_pg0323_01_holds : PySem.Challenge.rw_pg0323_01.Holds :=
  Mine.law0
